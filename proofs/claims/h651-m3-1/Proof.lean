import JvmDerived
import JvmDerived.Pilot.@@N@@Statement
import JvmDerived.Pilot.@@N@@Code
set_option linter.unusedVariables false
set_option linter.unusedSimpArgs false
namespace Jvm.Pilot.@@N@@
open Jvm Jvm.ClassFile Sem Op Lib Jvm.Free Jvm.Stand Jvm.LawKit Jvm.RoadKit Bundle Jvm.Pilot.@@N@@.Jvm.D
/-- from S on the run ends as Q says -/
def own_Go (p : Program) (e : Env) (below : List Frame) (s : State) (Q : Option Value → Heap → List Loc → Prop) (k n : Nat) (S : State) : Prop :=
  ∃ s₂ o, Steps p.tables e below S s₂ ∧ s₂.status = .running ∧ Ended s₂ below o ∧ ∃ v L, o = .returned v ∧ Q v s₂.heap L ∧ FrameEnd s o s₂ L k n
/-- the goal, as a predicate that is closed under steps -/
theorem own_abs (p : Program) (e : Env) (below : List Frame) (s : State) (Q : Option Value → Heap → List Loc → Prop) (k n : Nat) :
    ∃ G : State → Prop, (∀ {S : State}, G S → own_Go p e below s Q k n S) ∧ (∀ {S S' : State}, (∀ t, Steps p.tables e below S' t → Steps p.tables e below S t) → G S' → G S) ∧ (∀ {S : State}, own_Go p e below s Q k n S → G S) :=
  ⟨own_Go p e below s Q k n, fun h => h, fun h g => by obtain ⟨s2, o, h1, r⟩ := g; exact ⟨s2, o, h _ h1, r⟩, fun h => h⟩
section OwnEnd
variable {p : Program} {l : Launch} {e : Env} {R : Room} {s : State} {m : MethodId} {args : Array Value} {below : List Frame} {meth : Method} {c : Code} {T : State} {locs : List Loc} {cells slots : Nat} {Q : Option Value → Heap → List Loc → Prop} {k n : Nat}
theorem own_goRet (X : Stand p l e R s m args below meth c T locs cells slots) (hx : p.tables.exec = Jvm.exec) {pc : Nat} {Ls : Array Slot} {w : Value} {t : FieldType} {i : Instr} {rest : List Value} (hret : meth.sig.returnType = some t) (hn : narrow t w = w)
    (hi : (i = .ireturn ∧ (t = .int ∨ t = .boolean ∨ t = .byte ∨ t = .char ∨ t = .short) ∧ ∃ z, w = .int z) ∨ (i = .lreturn ∧ t = .long ∧ ∃ z, w = .long z) ∨ (i = .dreturn ∧ t = .double ∧ ∃ z, w = .double z) ∨ (i = .freturn ∧ t = .float ∧ ∃ z, w = .float z) ∨ (i = .areturn ∧ t.isReference = true ∧ w.isRef = true))
    (hd : decode c.code pc = .ok (i, 1)) (hlk : meth.locks = false) (hQ : Q (some w) T.heap locs) (hk : cells ≤ k) (hn' : slots ≤ n) : own_Go p e below s Q k n (T.setTop (mkF m pc Ls (w :: rest))) := by
  obtain ⟨fs, hr, hrun, hended, hW, hsame⟩ := X.leave (v := some w) (fun h => by rw [hret] at h; cases h) hlk
  exact ⟨_, _, retOut X hx hret hn hi hd hr, hrun, hended, _, _, rfl, hQ, ⟨_, rfl⟩, hW, hsame.mono hk hn'⟩
theorem own_goVoid (X : Stand p l e R s m args below meth c T locs cells slots) (hx : p.tables.exec = Jvm.exec) {pc : Nat} {Ls : Array Slot} (hret : meth.sig.returnType = none)
    (hd : decode c.code pc = .ok (.return_, 1)) (hlk : meth.locks = false) (hQ : Q none T.heap locs) (hk : cells ≤ k) (hn' : slots ≤ n) : own_Go p e below s Q k n (T.setTop (mkF m pc Ls [])) := by
  obtain ⟨fs, hr, hrun, hended, hW, hsame⟩ := X.leave (v := none) (fun _ => rfl) hlk
  exact ⟨_, _, X.returnOut hx hret hd hr, hrun, hended, _, _, rfl, hQ, ⟨_, rfl⟩, hW, hsame.mono hk hn'⟩
end OwnEnd
abbrev own_B : String := "com/example/tierfold/tierfold/simulation/SlotOrder$Block"
abbrev own_S : String := "com/example/tierfold/tierfold/simulation/SlotOrder"
def own_stp (n : Int32) (q : Int64) (s : Int32 × Int64) : Int32 × Int64 := if n = (-1 : Int32) then s else if s.1 = (-1 : Int32) then (n, q) else if q < s.2 then (n, q) else s
def own_f2 (sz m2 : Int32) (r2 : Int64) (s : Int32 × Int64) : Int32 × Int64 := if (2 : Int32) < sz then own_stp m2 r2 s else s
def own_f1 (sz m1 : Int32) (r1 : Int64) (m2 : Int32) (r2 : Int64) (s : Int32 × Int64) : Int32 × Int64 := if (1 : Int32) < sz then own_f2 sz m2 r2 (own_stp m1 r1 s) else s
def own_f0 (sz m0 : Int32) (r0 : Int64) (m1 : Int32) (r1 : Int64) (m2 : Int32) (r2 : Int64) (s : Int32 × Int64) : Int32 × Int64 := if (0 : Int32) < sz then own_f1 sz m1 r1 m2 r2 (own_stp m0 r0 s) else s
def own_bt (pk : Int64) (k pr : Int32) (pj : Int64) (j : Int32) : Int32 := if pr = (0 : Int32) then 1 else if pk < pj then 1 else if pk = pj then (if j < k then 0 else 1) else 0
def own_pr (i sz b : Int32) : Int32 := if i < sz then (if b = (0 : Int32) then 1 else 0) else 0
def own_mn (d x y : Int32) : Int32 := if d = (0 : Int32) then 0 else if x = (0 : Int32) then 0 else if y = (0 : Int32) then 0 else 1
theorem own_sz (sh : Int32) : ¬ (sh &&& (3 : Int32)) < 0 ∧ ¬ (3 : Int32) < (sh &&& (3 : Int32)) := by
  have h := c_mask sh 3 2 (by decide) (by decide)
  simp only [Nat.reducePow] at h
  simp only [Int32.lt_iff_toInt_lt, show (0 : Int32).toInt = 0 from rfl, show (3 : Int32).toInt = 3 from rfl]
  omega
theorem own_nn (a : Int32) : ¬ (a &&& (2147483647 : Int32)) < 0 := by
  have h := c_mask a 2147483647 31 (by decide) (by decide)
  simp only [Nat.reducePow] at h
  simp only [Int32.lt_iff_toInt_lt, show (0 : Int32).toInt = 0 from rfl]
  omega
theorem own_nn5 (a : Int32) : ¬ ((a.toUInt32 >>> ((5 : Int32) &&& 31).toUInt32).toInt32) < 0 := by
  have h := c_iushr a 5 5 (by decide) (by decide)
  simp only [Nat.reducePow] at h
  simp only [Int32.lt_iff_toInt_lt, show (0 : Int32).toInt = 0 from rfl]
  omega
theorem own_nm {m : Int32} (h : ¬ m < 0) : ¬ m = (-1 : Int32) := fun q => by subst q; exact h (by decide)
def own_upd (m : Int32) (q : Int64) (s : Int32 × Int64) : Int32 × Int64 := if s.1 = (-1 : Int32) then (m, q) else if q < s.2 then (m, q) else s
theorem own_step (i sz b m c : Int32) (q : Int64) (s : Int32 × Int64) (hb : b = 0 ∨ b = 1) (hn : ¬ m < 0) (hc : c = if b = 0 then m else -1) : (if i < sz then own_stp c q s else s) = if own_pr i sz b = 0 then s else own_upd m q s := by
  have hm := own_nm hn
  rcases hb with rfl | rfl
  · rw [if_pos rfl] at hc; subst hc
    by_cases h : i < sz
    · rw [if_pos h, own_pr, if_pos h, if_pos rfl, if_neg (by decide), own_stp, if_neg hm, own_upd]
    · rw [if_neg h, own_pr, if_neg h, if_pos rfl]
  · rw [if_neg (by decide)] at hc; subst hc
    by_cases h : i < sz
    · have e : own_pr i sz 1 = 0 := by rw [own_pr, if_pos h]; exact if_neg (by decide)
      rw [if_pos h, e, if_pos rfl, own_stp, if_pos rfl]
    · rw [if_neg h, own_pr, if_neg h, if_pos rfl]
theorem own_flat (sz m0 : Int32) (r0 : Int64) (m1 : Int32) (r1 : Int64) (m2 : Int32) (r2 : Int64) (s : Int32 × Int64) : own_f0 sz m0 r0 m1 r1 m2 r2 s = (if (2 : Int32) < sz then own_stp m2 r2 (if (1 : Int32) < sz then own_stp m1 r1 (if (0 : Int32) < sz then own_stp m0 r0 s else s) else (if (0 : Int32) < sz then own_stp m0 r0 s else s)) else (if (1 : Int32) < sz then own_stp m1 r1 (if (0 : Int32) < sz then own_stp m0 r0 s else s) else (if (0 : Int32) < sz then own_stp m0 r0 s else s))) := by
  have h21 : (2 : Int32) < sz → (1 : Int32) < sz := by
    simp only [Int32.lt_iff_toInt_lt, show (2 : Int32).toInt = 2 from rfl, show (1 : Int32).toInt = 1 from rfl]; omega
  have h10 : (1 : Int32) < sz → (0 : Int32) < sz := by
    simp only [Int32.lt_iff_toInt_lt, show (0 : Int32).toInt = 0 from rfl, show (1 : Int32).toInt = 1 from rfl]; omega
  unfold own_f0 own_f1 own_f2
  by_cases h2 : (2 : Int32) < sz
  · have h1 := h21 h2; have h0 := h10 h1; simp only [if_pos h2, if_pos h1, if_pos h0]
  · by_cases h1 : (1 : Int32) < sz
    · have h0 := h10 h1; simp only [if_neg h2, if_pos h1, if_pos h0]
    · by_cases h0 : (0 : Int32) < sz
      · simp only [if_neg h2, if_neg h1, if_pos h0]
      · simp only [if_neg h2, if_neg h1, if_neg h0]
theorem own_pr01 (i sz b : Int32) : own_pr i sz b = 0 ∨ own_pr i sz b = 1 := by
  unfold own_pr; split
  · split
    · exact Or.inr rfl
    · exact Or.inl rfl
  · exact Or.inl rfl
theorem own_tri (x y : Int) : (x < y ∧ (x < y) = True ∧ (y < x) = False ∧ (x = y) = False ∧ (y = x) = False) ∨ (x = y ∧ (x < y) = False ∧ (y < x) = False ∧ (x = y) = True ∧ (y = x) = True) ∨ (y < x ∧ (x < y) = False ∧ (y < x) = True ∧ (x = y) = False ∧ (y = x) = False) := by
  rcases Int.lt_trichotomy x y with h | h | h
  · exact Or.inl ⟨h, eq_true h, eq_false (by omega), eq_false (by omega), eq_false (by omega)⟩
  · exact Or.inr (Or.inl ⟨h, eq_false (by omega), eq_false (by omega), eq_true h, eq_true h.symm⟩)
  · exact Or.inr (Or.inr ⟨h, eq_false (by omega), eq_true h, eq_false (by omega), eq_false (by omega)⟩)
theorem own_final (sz m0 m1 m2 : Int32) (p0 p1 p2 : Int64) (b0 b1 b2 : Int32) (hb0 : b0 = 0 ∨ b0 = 1) (hb1 : b1 = 0 ∨ b1 = 1) (hb2 : b2 = 0 ∨ b2 = 1) (hsz : ¬ sz < 0 ∧ ¬ (3 : Int32) < sz)
    (hn0 : ¬ m0 < 0) (hn1 : ¬ m1 < 0) (hn2 : ¬ m2 < 0) (c0 c1 c2 : Int32) (hc0 : c0 = if b0 = 0 then m0 else -1) (hc1 : c1 = if b1 = 0 then m1 else -1) (hc2 : c2 = if b2 = 0 then m2 else -1)
    (d0 d1 d2 : Int32) (hd0 : d0 = own_pr 0 sz b0) (hd1 : d1 = own_pr 1 sz b1) (hd2 : d2 = own_pr 2 sz b2) (f0 f1 f2 : Int32)
    (hf0 : f0 = own_mn d0 (own_bt p0 0 d1 p1 1) (own_bt p0 0 d2 p2 2)) (hf1 : f1 = own_mn d1 (own_bt p1 1 d0 p0 0) (own_bt p1 1 d2 p2 2)) (hf2 : f2 = own_mn d2 (own_bt p2 2 d0 p0 0) (own_bt p2 2 d1 p1 1))
    (rs : Int32 × Int64) (hrs : rs = own_f0 sz c0 p0 c1 p1 c2 p2 ((-1 : Int32), (-9223372036854775808 : Int64))) :
    (¬ f0 = 0 → rs.1 = m0 ∧ rs.2 = p0) ∧ (f0 = 0 → ¬ f1 = 0 → rs.1 = m1 ∧ rs.2 = p1) ∧ (f0 = 0 → f1 = 0 → ¬ f2 = 0 → rs.1 = m2 ∧ rs.2 = p2) ∧ (f0 = 0 → f1 = 0 → f2 = 0 → rs.1 = -1) := by
  have e := own_flat sz c0 p0 c1 p1 c2 p2 ((-1 : Int32), (-9223372036854775808 : Int64))
  rw [own_step 0 sz b0 m0 c0 p0 _ hb0 hn0 hc0, own_step 1 sz b1 m1 c1 p1 _ hb1 hn1 hc1, own_step 2 sz b2 m2 c2 p2 _ hb2 hn2 hc2, ← hd0, ← hd1, ← hd2] at e
  rw [e] at hrs
  have q0 := own_pr01 0 sz b0; have q1 := own_pr01 1 sz b1; have q2 := own_pr01 2 sz b2
  rw [← hd0] at q0; rw [← hd1] at q1; rw [← hd2] at q2
  clear e hd0 hd1 hd2 hc0 hc1 hc2 hb0 hb1 hb2 hsz
  have k0 := own_nm hn0; have k1 := own_nm hn1; have k2 := own_nm hn2
  have t12 : ¬ (2 : Int32) < 1 := by decide
  have t01 : ¬ (1 : Int32) < 0 := by decide
  have t02 : ¬ (2 : Int32) < 0 := by decide
  have u01 : (0 : Int32) < 1 := by decide
  have u02 : (0 : Int32) < 2 := by decide
  have u12 : (1 : Int32) < 2 := by decide
  have n1 : ¬ (1 : Int32) = 0 := by decide
  subst hrs hf0 hf1 hf2
  rcases q0 with rfl | rfl <;> rcases q1 with rfl | rfl <;> rcases q2 with rfl | rfl <;>
    simp only [own_mn, own_bt, own_upd, if_true, if_false, n1, k0, k1, k2, t12, t01, t02, u01, u02, u12, not_true_eq_false, not_false_eq_true, false_implies, true_implies, implies_true, and_self, and_true, true_and, Int64.lt_iff_toInt_lt, ← Int64.toInt_inj]
  all_goals rcases own_tri p0.toInt p1.toInt with ⟨a0, a1, a2, a3, a4⟩ | ⟨a0, a1, a2, a3, a4⟩ | ⟨a0, a1, a2, a3, a4⟩
  all_goals rcases own_tri p0.toInt p2.toInt with ⟨g0, g1, g2, g3, g4⟩ | ⟨g0, g1, g2, g3, g4⟩ | ⟨g0, g1, g2, g3, g4⟩
  all_goals rcases own_tri p1.toInt p2.toInt with ⟨j0, j1, j2, j3, j4⟩ | ⟨j0, j1, j2, j3, j4⟩ | ⟨j0, j1, j2, j3, j4⟩
  all_goals first | (exfalso; omega) | (simp only [a1, a2, a3, a4, g1, g2, g3, g4, j1, j2, j3, j4, if_true, if_false, n1, k0, k1, k2, not_true_eq_false, not_false_eq_true, false_implies, true_implies, implies_true, and_self]; done)
def own_QI (r : Int32) (h0 : Heap) (n0 : Nat) (v : Option Value) (h : Heap) (L : List Loc) : Prop := v = some (.int r) ∧ Fr n0 L ∧ h = h0
def own_Qc (Z : State) (a : Addr) (h0 : Heap) (n0 : Nat) (v : Option Value) (h : Heap) (L : List Loc) : Prop := v = none ∧ Fr n0 L ∧ Keep h0 h [a] ∧ Exa Z h a own_B ∧ ∃ (bn bp : Addr) (kn kp : ClassId), h0.size ≤ bn ∧ h0.size ≤ bp ∧ bn ≠ bp ∧ Fld Z h a own_B "numbers" "[I" (.ref bn) ∧ Fld Z h a own_B "places" "[J" (.ref bp) ∧ Fld Z h a own_B "size" "I" (.int (0 : Int32)) ∧ Fld Z h a own_B "oldest" "I" (.int (-1 : Int32)) ∧ Fld Z h a own_B "oldestPlace" "J" (.long (0 : Int64)) ∧ Arv Z h bn kn .int (256 : Int32) [(.int (0 : Int32)), (.int (0 : Int32)), (.int (0 : Int32))] (.int (0 : Int32)) ∧ Arv Z h bp kp .long (256 : Int32) [(.long (0 : Int64)), (.long (0 : Int64)), (.long (0 : Int64))] (.long (0 : Int64))
def own_Qf (Z : State) (a : Addr) (r : Int32 × Int64) (h0 : Heap) (n0 : Nat) (v : Option Value) (h : Heap) (L : List Loc) : Prop := v = none ∧ Fr n0 L ∧ Keep h0 h [a] ∧ Exa Z h a own_B ∧ Fld Z h a own_B "oldest" "I" (.int r.1) ∧ Fld Z h a own_B "oldestPlace" "J" (.long r.2)
def own_Q0 (n0 : Nat) (v : Option Value) (h : Heap) (L : List Loc) : Prop := v = some (.int (1 : Int32)) ∧ Fr n0 L
theorem own_w0 {Z : State} {a0 : Array Value} (hw : ∀ d ∈ tables_1, d.before a0 Z = true) : Jvm.Cond.before (Jvm.Cond.constant x.cls (7 : Nat) (2147483647 : Int32)) a0 Z = true := hw _ (List.mem_of_getElem? (i := 0) rfl)
theorem own_w1 {Z : State} {a0 : Array Value} (hw : ∀ d ∈ tables_1, d.before a0 Z = true) : Jvm.Cond.before (Jvm.Cond.classLink x.cls (8 : Nat) own_B) a0 Z = true := hw _ (List.mem_of_getElem? (i := 1) rfl)
theorem own_w2 {Z : State} {a0 : Array Value} (hw : ∀ d ∈ tables_1, d.before a0 Z = true) : Jvm.Cond.before (Jvm.Cond.instantiable own_B (33 : Nat)) a0 Z = true := hw _ (List.mem_of_getElem? (i := 2) rfl)
theorem own_w3 {Z : State} {a0 : Array Value} (hw : ∀ d ∈ tables_1, d.before a0 Z = true) : Jvm.Cond.before (Jvm.Cond.initialized own_B) a0 Z = true := hw _ (List.mem_of_getElem? (i := 3) rfl)
theorem own_w4 {Z : State} {a0 : Array Value} (hw : ∀ d ∈ tables_1, d.before a0 Z = true) : Jvm.Cond.before (Jvm.Cond.methodLink x.cls (10 : Nat) ({ cls := own_B, name := "<init>", desc := "(II)V" } : Jvm.MethodName)) a0 Z = true := hw _ (List.mem_of_getElem? (i := 4) rfl)
theorem own_w5 {Z : State} {a0 : Array Value} (hw : ∀ d ∈ tables_1, d.before a0 Z = true) : Jvm.Cond.before (Jvm.Cond.instanceMethod ({ cls := own_B, name := "<init>", desc := "(II)V" } : Jvm.MethodName)) a0 Z = true := hw _ (List.mem_of_getElem? (i := 5) rfl)
theorem own_w6 {Z : State} {a0 : Array Value} (hw : ∀ d ∈ tables_1, d.before a0 Z = true) : Jvm.Cond.before (Jvm.Cond.code ({ cls := own_B, name := "<init>", desc := "(II)V" } : Jvm.MethodName) prog_102_method_1_code (3 : Nat) (Option.none : Option Jvm.ClassFile.FieldType)) a0 Z = true := hw _ (List.mem_of_getElem? (i := 6) rfl)
theorem own_w7 {Z : State} {a0 : Array Value} (hw : ∀ d ∈ tables_1, d.before a0 Z = true) : Jvm.Cond.before (Jvm.Cond.methodLink own_B (3 : Nat) ({ cls := "java/lang/Object", name := "<init>", desc := "()V" } : Jvm.MethodName)) a0 Z = true := hw _ (List.mem_of_getElem? (i := 7) rfl)
theorem own_w8 {Z : State} {a0 : Array Value} (hw : ∀ d ∈ tables_1, d.before a0 Z = true) : Jvm.Cond.before (Jvm.Cond.instanceMethod ({ cls := "java/lang/Object", name := "<init>", desc := "()V" } : Jvm.MethodName)) a0 Z = true := hw _ (List.mem_of_getElem? (i := 8) rfl)
theorem own_w9 {Z : State} {a0 : Array Value} (hw : ∀ d ∈ tables_1, d.before a0 Z = true) : Jvm.Cond.before (Jvm.Cond.code ({ cls := "java/lang/Object", name := "<init>", desc := "()V" } : Jvm.MethodName) object_method_1_code (1 : Nat) (Option.none : Option Jvm.ClassFile.FieldType)) a0 Z = true := hw _ (List.mem_of_getElem? (i := 9) rfl)
theorem own_w10 {Z : State} {a0 : Array Value} (hw : ∀ d ∈ tables_1, d.before a0 Z = true) : Jvm.Cond.before (Jvm.Cond.arrayClass Jvm.ClassFile.FieldType.int) a0 Z = true := hw _ (List.mem_of_getElem? (i := 10) rfl)
theorem own_w11 {Z : State} {a0 : Array Value} (hw : ∀ d ∈ tables_1, d.before a0 Z = true) : Jvm.Cond.before (Jvm.Cond.fieldLink own_B (9 : Nat) own_B "numbers" "[I") a0 Z = true := hw _ (List.mem_of_getElem? (i := 11) rfl)
theorem own_w12 {Z : State} {a0 : Array Value} (hw : ∀ d ∈ tables_1, d.before a0 Z = true) : Jvm.Cond.before (Jvm.Cond.laysFinal own_B own_B "numbers" "[I") a0 Z = true := hw _ (List.mem_of_getElem? (i := 12) rfl)
theorem own_w13 {Z : State} {a0 : Array Value} (hw : ∀ d ∈ tables_1, d.before a0 Z = true) : Jvm.Cond.before (Jvm.Cond.arrayClass Jvm.ClassFile.FieldType.long) a0 Z = true := hw _ (List.mem_of_getElem? (i := 13) rfl)
theorem own_w14 {Z : State} {a0 : Array Value} (hw : ∀ d ∈ tables_1, d.before a0 Z = true) : Jvm.Cond.before (Jvm.Cond.fieldLink own_B (15 : Nat) own_B "lives" "[J") a0 Z = true := hw _ (List.mem_of_getElem? (i := 14) rfl)
theorem own_w15 {Z : State} {a0 : Array Value} (hw : ∀ d ∈ tables_1, d.before a0 Z = true) : Jvm.Cond.before (Jvm.Cond.laysFinal own_B own_B "lives" "[J") a0 Z = true := hw _ (List.mem_of_getElem? (i := 15) rfl)
theorem own_w16 {Z : State} {a0 : Array Value} (hw : ∀ d ∈ tables_1, d.before a0 Z = true) : Jvm.Cond.before (Jvm.Cond.fieldLink own_B (19 : Nat) own_B "places" "[J") a0 Z = true := hw _ (List.mem_of_getElem? (i := 16) rfl)
theorem own_w17 {Z : State} {a0 : Array Value} (hw : ∀ d ∈ tables_1, d.before a0 Z = true) : Jvm.Cond.before (Jvm.Cond.laysFinal own_B own_B "places" "[J") a0 Z = true := hw _ (List.mem_of_getElem? (i := 17) rfl)
theorem own_w18 {Z : State} {a0 : Array Value} (hw : ∀ d ∈ tables_1, d.before a0 Z = true) : Jvm.Cond.before (Jvm.Cond.fieldLink own_B (22 : Nat) own_B "bytesPerDoc" "[J") a0 Z = true := hw _ (List.mem_of_getElem? (i := 18) rfl)
theorem own_w19 {Z : State} {a0 : Array Value} (hw : ∀ d ∈ tables_1, d.before a0 Z = true) : Jvm.Cond.before (Jvm.Cond.laysFinal own_B own_B "bytesPerDoc" "[J") a0 Z = true := hw _ (List.mem_of_getElem? (i := 19) rfl)
theorem own_w20 {Z : State} {a0 : Array Value} (hw : ∀ d ∈ tables_1, d.before a0 Z = true) : Jvm.Cond.before (Jvm.Cond.fieldLink own_B (25 : Nat) own_B "aloneAt" "[J") a0 Z = true := hw _ (List.mem_of_getElem? (i := 20) rfl)
theorem own_w21 {Z : State} {a0 : Array Value} (hw : ∀ d ∈ tables_1, d.before a0 Z = true) : Jvm.Cond.before (Jvm.Cond.laysFinal own_B own_B "aloneAt" "[J") a0 Z = true := hw _ (List.mem_of_getElem? (i := 21) rfl)
theorem own_w22 {Z : State} {a0 : Array Value} (hw : ∀ d ∈ tables_1, d.before a0 Z = true) : Jvm.Cond.before (Jvm.Cond.fieldLink own_B (28 : Nat) own_B "handles" "[I") a0 Z = true := hw _ (List.mem_of_getElem? (i := 22) rfl)
theorem own_w23 {Z : State} {a0 : Array Value} (hw : ∀ d ∈ tables_1, d.before a0 Z = true) : Jvm.Cond.before (Jvm.Cond.laysFinal own_B own_B "handles" "[I") a0 Z = true := hw _ (List.mem_of_getElem? (i := 23) rfl)
theorem own_w24 {Z : State} {a0 : Array Value} (hw : ∀ d ∈ tables_1, d.before a0 Z = true) : Jvm.Cond.before (Jvm.Cond.arrayClass Jvm.ClassFile.FieldType.byte) a0 Z = true := hw _ (List.mem_of_getElem? (i := 24) rfl)
theorem own_w25 {Z : State} {a0 : Array Value} (hw : ∀ d ∈ tables_1, d.before a0 Z = true) : Jvm.Cond.before (Jvm.Cond.fieldLink own_B (31 : Nat) own_B "groups" "[B") a0 Z = true := hw _ (List.mem_of_getElem? (i := 25) rfl)
theorem own_w26 {Z : State} {a0 : Array Value} (hw : ∀ d ∈ tables_1, d.before a0 Z = true) : Jvm.Cond.before (Jvm.Cond.laysFinal own_B own_B "groups" "[B") a0 Z = true := hw _ (List.mem_of_getElem? (i := 26) rfl)
theorem own_w27 {Z : State} {a0 : Array Value} (hw : ∀ d ∈ tables_1, d.before a0 Z = true) : Jvm.Cond.before (Jvm.Cond.arrayClass Jvm.ClassFile.FieldType.boolean) a0 Z = true := hw _ (List.mem_of_getElem? (i := 27) rfl)
theorem own_w28 {Z : State} {a0 : Array Value} (hw : ∀ d ∈ tables_1, d.before a0 Z = true) : Jvm.Cond.before (Jvm.Cond.fieldLink own_B (35 : Nat) own_B "watches" "[Z") a0 Z = true := hw _ (List.mem_of_getElem? (i := 28) rfl)
theorem own_w29 {Z : State} {a0 : Array Value} (hw : ∀ d ∈ tables_1, d.before a0 Z = true) : Jvm.Cond.before (Jvm.Cond.laysFinal own_B own_B "watches" "[Z") a0 Z = true := hw _ (List.mem_of_getElem? (i := 29) rfl)
theorem own_w30 {Z : State} {a0 : Array Value} (hw : ∀ d ∈ tables_1, d.before a0 Z = true) : Jvm.Cond.before (Jvm.Cond.constantLong own_B (41 : Nat) (9223372036854775807 : Int64)) a0 Z = true := hw _ (List.mem_of_getElem? (i := 30) rfl)
theorem own_w31 {Z : State} {a0 : Array Value} (hw : ∀ d ∈ tables_1, d.before a0 Z = true) : Jvm.Cond.before (Jvm.Cond.fieldLink own_B (43 : Nat) own_B "leastSlack" "J") a0 Z = true := hw _ (List.mem_of_getElem? (i := 31) rfl)
theorem own_w32 {Z : State} {a0 : Array Value} (hw : ∀ d ∈ tables_1, d.before a0 Z = true) : Jvm.Cond.before (Jvm.Cond.lays own_B own_B "leastSlack" "J") a0 Z = true := hw _ (List.mem_of_getElem? (i := 32) rfl)
theorem own_w33 {Z : State} {a0 : Array Value} (hw : ∀ d ∈ tables_1, d.before a0 Z = true) : Jvm.Cond.before (Jvm.Cond.fieldLink own_B (47 : Nat) own_B "oldest" "I") a0 Z = true := hw _ (List.mem_of_getElem? (i := 33) rfl)
theorem own_w34 {Z : State} {a0 : Array Value} (hw : ∀ d ∈ tables_1, d.before a0 Z = true) : Jvm.Cond.before (Jvm.Cond.lays own_B own_B "oldest" "I") a0 Z = true := hw _ (List.mem_of_getElem? (i := 34) rfl)
theorem own_w35 {Z : State} {a0 : Array Value} (hw : ∀ d ∈ tables_1, d.before a0 Z = true) : Jvm.Cond.before (Jvm.Cond.fieldLink own_B (51 : Nat) own_B "leastHandled" "J") a0 Z = true := hw _ (List.mem_of_getElem? (i := 35) rfl)
theorem own_w36 {Z : State} {a0 : Array Value} (hw : ∀ d ∈ tables_1, d.before a0 Z = true) : Jvm.Cond.before (Jvm.Cond.lays own_B own_B "leastHandled" "J") a0 Z = true := hw _ (List.mem_of_getElem? (i := 36) rfl)
theorem own_w37 {Z : State} {a0 : Array Value} (hw : ∀ d ∈ tables_1, d.before a0 Z = true) : Jvm.Cond.before (Jvm.Cond.constantLong own_B (54 : Nat) (-1 : Int64)) a0 Z = true := hw _ (List.mem_of_getElem? (i := 37) rfl)
theorem own_w38 {Z : State} {a0 : Array Value} (hw : ∀ d ∈ tables_1, d.before a0 Z = true) : Jvm.Cond.before (Jvm.Cond.fieldLink own_B (56 : Nat) own_B "handledPerDoc" "J") a0 Z = true := hw _ (List.mem_of_getElem? (i := 38) rfl)
theorem own_w39 {Z : State} {a0 : Array Value} (hw : ∀ d ∈ tables_1, d.before a0 Z = true) : Jvm.Cond.before (Jvm.Cond.lays own_B own_B "handledPerDoc" "J") a0 Z = true := hw _ (List.mem_of_getElem? (i := 39) rfl)
theorem own_w40 {Z : State} {a0 : Array Value} (hw : ∀ d ∈ tables_1, d.before a0 Z = true) : Jvm.Cond.before (Jvm.Cond.fieldLink own_B (59 : Nat) own_B "heldCountedAt" "J") a0 Z = true := hw _ (List.mem_of_getElem? (i := 40) rfl)
theorem own_w41 {Z : State} {a0 : Array Value} (hw : ∀ d ∈ tables_1, d.before a0 Z = true) : Jvm.Cond.before (Jvm.Cond.lays own_B own_B "heldCountedAt" "J") a0 Z = true := hw _ (List.mem_of_getElem? (i := 41) rfl)
theorem own_w42 {Z : State} {a0 : Array Value} (hw : ∀ d ∈ tables_1, d.before a0 Z = true) : Jvm.Cond.before (Jvm.Cond.fieldLink own_B (62 : Nat) own_B "home" "I") a0 Z = true := hw _ (List.mem_of_getElem? (i := 42) rfl)
theorem own_w43 {Z : State} {a0 : Array Value} (hw : ∀ d ∈ tables_1, d.before a0 Z = true) : Jvm.Cond.before (Jvm.Cond.laysFinal own_B own_B "home" "I") a0 Z = true := hw _ (List.mem_of_getElem? (i := 43) rfl)
theorem own_w44 {Z : State} {a0 : Array Value} (hw : ∀ d ∈ tables_1, d.before a0 Z = true) : Jvm.Cond.before (Jvm.Cond.fieldLink own_B (65 : Nat) own_B "handledIn" "[I") a0 Z = true := hw _ (List.mem_of_getElem? (i := 44) rfl)
theorem own_w45 {Z : State} {a0 : Array Value} (hw : ∀ d ∈ tables_1, d.before a0 Z = true) : Jvm.Cond.before (Jvm.Cond.laysFinal own_B own_B "handledIn" "[I") a0 Z = true := hw _ (List.mem_of_getElem? (i := 45) rfl)
theorem own_w46 {Z : State} {a0 : Array Value} (hw : ∀ d ∈ tables_1, d.before a0 Z = true) : Jvm.Cond.before (Jvm.Cond.fieldLink own_B (68 : Nat) own_B "handledPerDocsIn" "[J") a0 Z = true := hw _ (List.mem_of_getElem? (i := 46) rfl)
theorem own_w47 {Z : State} {a0 : Array Value} (hw : ∀ d ∈ tables_1, d.before a0 Z = true) : Jvm.Cond.before (Jvm.Cond.laysFinal own_B own_B "handledPerDocsIn" "[J") a0 Z = true := hw _ (List.mem_of_getElem? (i := 47) rfl)
theorem own_w48 {Z : State} {a0 : Array Value} (hw : ∀ d ∈ tables_1, d.before a0 Z = true) : Jvm.Cond.before (Jvm.Cond.fieldLink x.cls (13 : Nat) own_B "numbers" "[I") a0 Z = true := hw _ (List.mem_of_getElem? (i := 48) rfl)
theorem own_w49 {Z : State} {a0 : Array Value} (hw : ∀ d ∈ tables_1, d.before a0 Z = true) : Jvm.Cond.before (Jvm.Cond.fieldLink x.cls (19 : Nat) own_B "places" "[J") a0 Z = true := hw _ (List.mem_of_getElem? (i := 49) rfl)
theorem own_w50 {Z : State} {a0 : Array Value} (hw : ∀ d ∈ tables_1, d.before a0 Z = true) : Jvm.Cond.before (Jvm.Cond.fieldLink x.cls (23 : Nat) own_B "size" "I") a0 Z = true := hw _ (List.mem_of_getElem? (i := 50) rfl)
theorem own_w51 {Z : State} {a0 : Array Value} (hw : ∀ d ∈ tables_1, d.before a0 Z = true) : Jvm.Cond.before (Jvm.Cond.lays own_B own_B "size" "I") a0 Z = true := hw _ (List.mem_of_getElem? (i := 51) rfl)
theorem own_w52 {Z : State} {a0 : Array Value} (hw : ∀ d ∈ tables_1, d.before a0 Z = true) : Jvm.Cond.before (Jvm.Cond.fieldLink x.cls (27 : Nat) own_B "oldest" "I") a0 Z = true := hw _ (List.mem_of_getElem? (i := 52) rfl)
theorem own_w53 {Z : State} {a0 : Array Value} (hw : ∀ d ∈ tables_1, d.before a0 Z = true) : Jvm.Cond.before (Jvm.Cond.constantLong x.cls (32 : Nat) (-9223372036854775808 : Int64)) a0 Z = true := hw _ (List.mem_of_getElem? (i := 53) rfl)
theorem own_w54 {Z : State} {a0 : Array Value} (hw : ∀ d ∈ tables_1, d.before a0 Z = true) : Jvm.Cond.before (Jvm.Cond.fieldLink x.cls (34 : Nat) own_B "oldestPlace" "J") a0 Z = true := hw _ (List.mem_of_getElem? (i := 54) rfl)
theorem own_w55 {Z : State} {a0 : Array Value} (hw : ∀ d ∈ tables_1, d.before a0 Z = true) : Jvm.Cond.before (Jvm.Cond.lays own_B own_B "oldestPlace" "J") a0 Z = true := hw _ (List.mem_of_getElem? (i := 55) rfl)
theorem own_w56 {Z : State} {a0 : Array Value} (hw : ∀ d ∈ tables_1, d.before a0 Z = true) : Jvm.Cond.before (Jvm.Cond.methodLink x.cls (38 : Nat) ({ cls := own_S, name := "findOldest", desc := "(Lcom/example/tierfold/tierfold/simulation/SlotOrder$Block;)V" } : Jvm.MethodName)) a0 Z = true := hw _ (List.mem_of_getElem? (i := 56) rfl)
theorem own_w57 {Z : State} {a0 : Array Value} (hw : ∀ d ∈ tables_1, d.before a0 Z = true) : Jvm.Cond.before (Jvm.Cond.static ({ cls := own_S, name := "findOldest", desc := "(Lcom/example/tierfold/tierfold/simulation/SlotOrder$Block;)V" } : Jvm.MethodName)) a0 Z = true := hw _ (List.mem_of_getElem? (i := 57) rfl)
theorem own_w58 {Z : State} {a0 : Array Value} (hw : ∀ d ∈ tables_1, d.before a0 Z = true) : Jvm.Cond.before (Jvm.Cond.initialized own_S) a0 Z = true := hw _ (List.mem_of_getElem? (i := 58) rfl)
theorem own_w59 {Z : State} {a0 : Array Value} (hw : ∀ d ∈ tables_1, d.before a0 Z = true) : Jvm.Cond.before (Jvm.Cond.code ({ cls := own_S, name := "findOldest", desc := "(Lcom/example/tierfold/tierfold/simulation/SlotOrder$Block;)V" } : Jvm.MethodName) prog_101_method_17_code (2 : Nat) (Option.none : Option Jvm.ClassFile.FieldType)) a0 Z = true := hw _ (List.mem_of_getElem? (i := 59) rfl)
theorem own_w60 {Z : State} {a0 : Array Value} (hw : ∀ d ∈ tables_1, d.before a0 Z = true) : Jvm.Cond.before (Jvm.Cond.fieldLink own_S (333 : Nat) own_B "oldest" "I") a0 Z = true := hw _ (List.mem_of_getElem? (i := 60) rfl)
theorem own_w61 {Z : State} {a0 : Array Value} (hw : ∀ d ∈ tables_1, d.before a0 Z = true) : Jvm.Cond.before (Jvm.Cond.fieldLink own_S (119 : Nat) own_B "size" "I") a0 Z = true := hw _ (List.mem_of_getElem? (i := 61) rfl)
theorem own_w62 {Z : State} {a0 : Array Value} (hw : ∀ d ∈ tables_1, d.before a0 Z = true) : Jvm.Cond.before (Jvm.Cond.fieldLink own_S (169 : Nat) own_B "numbers" "[I") a0 Z = true := hw _ (List.mem_of_getElem? (i := 62) rfl)
theorem own_w63 {Z : State} {a0 : Array Value} (hw : ∀ d ∈ tables_1, d.before a0 Z = true) : Jvm.Cond.before (Jvm.Cond.fieldLink own_S (187 : Nat) own_B "places" "[J") a0 Z = true := hw _ (List.mem_of_getElem? (i := 63) rfl)
theorem own_w64 {Z : State} {a0 : Array Value} (hw : ∀ d ∈ tables_1, d.before a0 Z = true) : Jvm.Cond.before (Jvm.Cond.fieldLink own_S (336 : Nat) own_B "oldestPlace" "J") a0 Z = true := hw _ (List.mem_of_getElem? (i := 64) rfl)
theorem own_w65 {Z : State} {a0 : Array Value} (hw : ∀ d ∈ tables_1, d.before a0 Z = true) : Jvm.Cond.before (Jvm.Cond.methodLink x.cls (42 : Nat) ({ cls := x.cls, name := "beats", desc := "(JIZJI)Z" } : Jvm.MethodName)) a0 Z = true := hw _ (List.mem_of_getElem? (i := 65) rfl)
theorem own_w66 {Z : State} {a0 : Array Value} (hw : ∀ d ∈ tables_1, d.before a0 Z = true) : Jvm.Cond.before (Jvm.Cond.static ({ cls := x.cls, name := "beats", desc := "(JIZJI)Z" } : Jvm.MethodName)) a0 Z = true := hw _ (List.mem_of_getElem? (i := 66) rfl)
theorem own_w67 {Z : State} {a0 : Array Value} (hw : ∀ d ∈ tables_1, d.before a0 Z = true) : Jvm.Cond.before (Jvm.Cond.initialized x.cls) a0 Z = true := hw _ (List.mem_of_getElem? (i := 67) rfl)
theorem own_w68 {Z : State} {a0 : Array Value} (hw : ∀ d ∈ tables_1, d.before a0 Z = true) : Jvm.Cond.before (Jvm.Cond.code ({ cls := x.cls, name := "beats", desc := "(JIZJI)Z" } : Jvm.MethodName) method_2_code (7 : Nat) (Option.some Jvm.ClassFile.FieldType.boolean)) a0 Z = true := hw _ (List.mem_of_getElem? (i := 68) rfl)
theorem pd_0 : parseMethodDescriptor "(II)V" = some ⟨[.int, .int], none⟩ := by decide +kernel
theorem pd_1 : parseMethodDescriptor "(Lcom/example/tierfold/tierfold/simulation/SlotOrder$Block;)V" = some ⟨[(.object own_B)], none⟩ := by decide +kernel
theorem pd_2 : parseMethodDescriptor "(JIZJI)Z" = some ⟨[.long, .int, .boolean, .long, .int], some .boolean⟩ := by decide +kernel
theorem d1_0 : decode prog_102_method_1_code 0 = .ok (.aload_n 0, 1) := by decide +kernel
theorem d1_1 : decode prog_102_method_1_code 1 = .ok (.invokespecial 3, 3) := by decide +kernel
theorem d1_4 : decode prog_102_method_1_code 4 = .ok (.aload_n 0, 1) := by decide +kernel
theorem d1_5 : decode prog_102_method_1_code 5 = .ok (.sipush 256, 3) := by decide +kernel
theorem d1_8 : decode prog_102_method_1_code 8 = .ok (.newarray .int, 2) := by decide +kernel
theorem d1_10 : decode prog_102_method_1_code 10 = .ok (.putfield 9, 3) := by decide +kernel
theorem d1_13 : decode prog_102_method_1_code 13 = .ok (.aload_n 0, 1) := by decide +kernel
theorem d1_14 : decode prog_102_method_1_code 14 = .ok (.sipush 256, 3) := by decide +kernel
theorem d1_17 : decode prog_102_method_1_code 17 = .ok (.newarray .long, 2) := by decide +kernel
theorem d1_19 : decode prog_102_method_1_code 19 = .ok (.putfield 15, 3) := by decide +kernel
theorem d1_22 : decode prog_102_method_1_code 22 = .ok (.aload_n 0, 1) := by decide +kernel
theorem d1_23 : decode prog_102_method_1_code 23 = .ok (.sipush 256, 3) := by decide +kernel
theorem d1_26 : decode prog_102_method_1_code 26 = .ok (.newarray .long, 2) := by decide +kernel
theorem d1_28 : decode prog_102_method_1_code 28 = .ok (.putfield 19, 3) := by decide +kernel
theorem d1_31 : decode prog_102_method_1_code 31 = .ok (.aload_n 0, 1) := by decide +kernel
theorem d1_32 : decode prog_102_method_1_code 32 = .ok (.sipush 256, 3) := by decide +kernel
theorem d1_35 : decode prog_102_method_1_code 35 = .ok (.newarray .long, 2) := by decide +kernel
theorem d1_37 : decode prog_102_method_1_code 37 = .ok (.putfield 22, 3) := by decide +kernel
theorem d1_40 : decode prog_102_method_1_code 40 = .ok (.aload_n 0, 1) := by decide +kernel
theorem d1_41 : decode prog_102_method_1_code 41 = .ok (.sipush 256, 3) := by decide +kernel
theorem d1_44 : decode prog_102_method_1_code 44 = .ok (.newarray .long, 2) := by decide +kernel
theorem d1_46 : decode prog_102_method_1_code 46 = .ok (.putfield 25, 3) := by decide +kernel
theorem d1_49 : decode prog_102_method_1_code 49 = .ok (.aload_n 0, 1) := by decide +kernel
theorem d1_50 : decode prog_102_method_1_code 50 = .ok (.sipush 256, 3) := by decide +kernel
theorem d1_53 : decode prog_102_method_1_code 53 = .ok (.newarray .int, 2) := by decide +kernel
theorem d1_55 : decode prog_102_method_1_code 55 = .ok (.putfield 28, 3) := by decide +kernel
theorem d1_58 : decode prog_102_method_1_code 58 = .ok (.aload_n 0, 1) := by decide +kernel
theorem d1_59 : decode prog_102_method_1_code 59 = .ok (.sipush 256, 3) := by decide +kernel
theorem d1_62 : decode prog_102_method_1_code 62 = .ok (.newarray .byte, 2) := by decide +kernel
theorem d1_64 : decode prog_102_method_1_code 64 = .ok (.putfield 31, 3) := by decide +kernel
theorem d1_67 : decode prog_102_method_1_code 67 = .ok (.aload_n 0, 1) := by decide +kernel
theorem d1_68 : decode prog_102_method_1_code 68 = .ok (.sipush 256, 3) := by decide +kernel
theorem d1_71 : decode prog_102_method_1_code 71 = .ok (.newarray .boolean, 2) := by decide +kernel
theorem d1_73 : decode prog_102_method_1_code 73 = .ok (.putfield 35, 3) := by decide +kernel
theorem d1_76 : decode prog_102_method_1_code 76 = .ok (.aload_n 0, 1) := by decide +kernel
theorem d1_77 : decode prog_102_method_1_code 77 = .ok (.ldc2_w 41, 3) := by decide +kernel
theorem d1_80 : decode prog_102_method_1_code 80 = .ok (.putfield 43, 3) := by decide +kernel
theorem d1_83 : decode prog_102_method_1_code 83 = .ok (.aload_n 0, 1) := by decide +kernel
theorem d1_84 : decode prog_102_method_1_code 84 = .ok (.iconst (-1), 1) := by decide +kernel
theorem d1_85 : decode prog_102_method_1_code 85 = .ok (.putfield 47, 3) := by decide +kernel
theorem d1_88 : decode prog_102_method_1_code 88 = .ok (.aload_n 0, 1) := by decide +kernel
theorem d1_89 : decode prog_102_method_1_code 89 = .ok (.ldc2_w 41, 3) := by decide +kernel
theorem d1_92 : decode prog_102_method_1_code 92 = .ok (.putfield 51, 3) := by decide +kernel
theorem d1_95 : decode prog_102_method_1_code 95 = .ok (.aload_n 0, 1) := by decide +kernel
theorem d1_96 : decode prog_102_method_1_code 96 = .ok (.ldc2_w 54, 3) := by decide +kernel
theorem d1_99 : decode prog_102_method_1_code 99 = .ok (.putfield 56, 3) := by decide +kernel
theorem d1_102 : decode prog_102_method_1_code 102 = .ok (.aload_n 0, 1) := by decide +kernel
theorem d1_103 : decode prog_102_method_1_code 103 = .ok (.ldc2_w 54, 3) := by decide +kernel
theorem d1_106 : decode prog_102_method_1_code 106 = .ok (.putfield 59, 3) := by decide +kernel
theorem d1_109 : decode prog_102_method_1_code 109 = .ok (.aload_n 0, 1) := by decide +kernel
theorem d1_110 : decode prog_102_method_1_code 110 = .ok (.iload_n 1, 1) := by decide +kernel
theorem d1_111 : decode prog_102_method_1_code 111 = .ok (.putfield 62, 3) := by decide +kernel
theorem d1_114 : decode prog_102_method_1_code 114 = .ok (.aload_n 0, 1) := by decide +kernel
theorem d1_115 : decode prog_102_method_1_code 115 = .ok (.iload_n 2, 1) := by decide +kernel
theorem d1_116 : decode prog_102_method_1_code 116 = .ok (.newarray .int, 2) := by decide +kernel
theorem d1_118 : decode prog_102_method_1_code 118 = .ok (.putfield 65, 3) := by decide +kernel
theorem d1_121 : decode prog_102_method_1_code 121 = .ok (.aload_n 0, 1) := by decide +kernel
theorem d1_122 : decode prog_102_method_1_code 122 = .ok (.iload_n 2, 1) := by decide +kernel
theorem d1_123 : decode prog_102_method_1_code 123 = .ok (.newarray .long, 2) := by decide +kernel
theorem d1_125 : decode prog_102_method_1_code 125 = .ok (.putfield 68, 3) := by decide +kernel
theorem d1_128 : decode prog_102_method_1_code 128 = .ok (.return_, 1) := by decide +kernel
theorem ef_1 (m : MethodId) (a : Addr) : entryFrame m #[(.ref a), (.int (0 : Int32)), (.int (1 : Int32))] 3 = mkF m 0 #[.val (.ref a), .val (.int (0 : Int32)), .val (.int (1 : Int32))] [] := by first | (simp [entryFrame, mkF, argsToLocals, Value.category]; done) | rfl
theorem pn_1 : plainName own_B = true := by first | decide +kernel | (simp [plainName, overriddenIn]; done)
set_option maxRecDepth 65536 in
set_option maxHeartbeats 40000000 in
theorem rm1 (l : Launch) (Z : State) (a0 : Array Value) (hw : ∀ d ∈ tables_1, d.before a0 Z = true) (ws : List Jvm.Cond) (a : Addr) (h0 : Heap) (n0 : Nat) (Z0 : n0 ≤ h0.size) (F_numbers_a : Fld Z h0 a own_B "numbers" "[I" .null) (F_lives_a : Fld Z h0 a own_B "lives" "[J" .null) (F_places_a : Fld Z h0 a own_B "places" "[J" .null) (F_bytesPerDoc_a : Fld Z h0 a own_B "bytesPerDoc" "[J" .null) (F_aloneAt_a : Fld Z h0 a own_B "aloneAt" "[J" .null) (F_handles_a : Fld Z h0 a own_B "handles" "[I" .null) (F_groups_a : Fld Z h0 a own_B "groups" "[B" .null) (F_watches_a : Fld Z h0 a own_B "watches" "[Z" .null) (F_leastSlack_a : Fld Z h0 a own_B "leastSlack" "J" (.long (0 : Int64))) (F_oldest_a : Fld Z h0 a own_B "oldest" "I" (.int (0 : Int32))) (F_leastHandled_a : Fld Z h0 a own_B "leastHandled" "J" (.long (0 : Int64))) (F_handledPerDoc_a : Fld Z h0 a own_B "handledPerDoc" "J" (.long (0 : Int64))) (F_heldCountedAt_a : Fld Z h0 a own_B "heldCountedAt" "J" (.long (0 : Int64))) (F_home_a : Fld Z h0 a own_B "home" "I" (.int (0 : Int32))) (F_handledIn_a : Fld Z h0 a own_B "handledIn" "[I" .null) (F_handledPerDocsIn_a : Fld Z h0 a own_B "handledPerDocsIn" "[J" .null) (F_size_a : Fld Z h0 a own_B "size" "I" (.int (0 : Int32))) (F_oldestPlace_a : Fld Z h0 a own_B "oldestPlace" "J" (.long (0 : Int64))) (E_a : Exa Z h0 a own_B) (le_n0_a : n0 ≤ a) :
    MetFree l (⟨own_B, "<init>", "(II)V"⟩ : MethodName) (head1 (Jvm.Cond.code (⟨own_B, "<init>", "(II)V"⟩ : MethodName) prog_102_method_1_code 3 none :: ws) ({ frames := 1, cells := 10, slots := 2050, locals := 12 } : Room)) (fun a_ U_ => a_ = #[(.ref a), (.int (0 : Int32)), (.int (1 : Int32))] ∧ Z.Warmed39 U_.vm ∧ U_.heap = h0) (fun _ _ _ _ _ => True) (fun _ U_ o_ W_ => ∃ v_ L_, o_ = .returned v_ ∧ own_Qc Z a h0 n0 v_ W_.heap L_ ∧ FrameEnd U_ o_ W_ L_ ({ frames := 1, cells := 10, slots := 2050, locals := 12 } : Room).cells ({ frames := 1, cells := 10, slots := 2050, locals := 12 } : Room).slots) := by
  refine MetFree.of_bodySF (plainFor_of_name pn_1) hisR ?_
  intro p e s m args below meth c s₁ Bd hml0 hP hK
  obtain ⟨rfl, hZ, hh⟩ := hP
  have hx := Bd.exec
  have hby := Bd.bytes
  have hml : c.maxLocals = 3 := hml0
  have hown : s.vm.findClass own_B = some m.cls := by have z := findClass_of_methodNamed Bd.named; exact z
  have hnm := (name_of_methodNamed Bd.named Bd.method).1
  have X0 : Stand p l e ({ frames := 1, cells := 10, slots := 2050, locals := 12 } : Room) s m #[(.ref a), (.int (0 : Int32)), (.int (1 : Int32))] below meth c s₁ [] 0 0 := Stand.of_body Bd
  have e0 : s₁.heap = h0 := by rw [← hh, Bd.state]; rfl
  have N0 := Fr.nil n0
  obtain ⟨G, hG, hst, hend⟩ := own_abs p e below s (own_Qc Z a h0 n0) ({ frames := 1, cells := 10, slots := 2050, locals := 12 } : Room).cells ({ frames := 1, cells := 10, slots := 2050, locals := 12 } : Room).slots
  refine hG (S := s₁.setTop (entryFrame m #[(.ref a), (.int (0 : Int32)), (.int (1 : Int32))] 3)) (hst (fun t_ kt_ => castTop (ef_1 m a) kt_) ?_)
  have Z1 := Nat.le_refl h0.size
  have K0 := Keep.refl h0 [a]
  show G (s₁.setTop (mkF m 0 #[.val (.ref a), .val (.int (0 : Int32)), .val (.int (1 : Int32))] []))
  refine hst (fun _ kt => XS.aloadN X0.here hx rfl (hb hby d1_0) rfl rfl kt) ?_
  show G (s₁.setTop (mkF m 1 #[.val (.ref a), .val (.int (0 : Int32)), .val (.int (1 : Int32))] [(.ref a)]))
  obtain ⟨T_1, X_1, e_1, st_1⟩ := initO X0 hx hZ hown (own_w7 hw) (own_w8 hw) (own_w9 hw) e0 (g := (mkF m 1 #[.val (.ref a), .val (.int (0 : Int32)), .val (.int (1 : Int32))] [(.ref a)])) rfl (by rw [hml]; rfl) rfl (hb hby d1_1) (by decide) (W := 0) (by show 2 * 0 + _ ≤ _; exact Nat.le_of_eq rfl) (by decide)
  refine hst st_1 ?_
  show G (T_1.setTop (mkF m 4 #[.val (.ref a), .val (.int (0 : Int32)), .val (.int (1 : Int32))] []))
  refine hst (fun _ kt => XS.aloadN X_1.here hx rfl (hb hby d1_4) rfl rfl kt) ?_
  show G (T_1.setTop (mkF m 5 #[.val (.ref a), .val (.int (0 : Int32)), .val (.int (1 : Int32))] [(.ref a)]))
  refine hst (fun _ kt => XS.sipush X_1.here hx rfl (hb hby d1_5) kt) ?_
  show G (T_1.setTop (mkF m 8 #[.val (.ref a), .val (.int (0 : Int32)), .val (.int (1 : Int32))] [(.int (256 : Int32)), (.ref a)]))
  obtain ⟨T_2, h_2, k_bn, X_2, e_2, E_2, A_2, st_2⟩ := newP (aty := .int) X_1 hx hZ (own_w10 hw) e_1 (g := (mkF m 8 #[.val (.ref a), .val (.int (0 : Int32)), .val (.int (1 : Int32))] [(.int (256 : Int32)), (.ref a)])) rfl (hb hby d1_8) rfl (by decide) (cap := 256) (by decide) (by decide) (by decide) (by decide)
  obtain ⟨bn, g_bn⟩ : ∃ z, z = h0.size := ⟨_, rfl⟩
  rw [← g_bn] at A_2 st_2
  have ne_a_bn : a ≠ bn := Nat.ne_of_lt (Nat.lt_of_lt_of_le F_numbers_a.lt (Nat.le_of_eq g_bn.symm))
  have le_n0_bn : n0 ≤ bn := Nat.le_trans Z0 (Nat.le_of_eq g_bn.symm)
  have le_hh_bn : h0.size ≤ bn := Nat.le_trans Z1 (Nat.le_of_eq g_bn.symm)
  have Z0 := Nat.le_trans Z0 E_2.1
  have Z1 := Nat.le_trans Z1 E_2.1
  have F_numbers_a := F_numbers_a.ext E_2
  have F_lives_a := F_lives_a.ext E_2
  have F_places_a := F_places_a.ext E_2
  have F_bytesPerDoc_a := F_bytesPerDoc_a.ext E_2
  have F_aloneAt_a := F_aloneAt_a.ext E_2
  have F_handles_a := F_handles_a.ext E_2
  have F_groups_a := F_groups_a.ext E_2
  have F_watches_a := F_watches_a.ext E_2
  have F_leastSlack_a := F_leastSlack_a.ext E_2
  have F_oldest_a := F_oldest_a.ext E_2
  have F_leastHandled_a := F_leastHandled_a.ext E_2
  have F_handledPerDoc_a := F_handledPerDoc_a.ext E_2
  have F_heldCountedAt_a := F_heldCountedAt_a.ext E_2
  have F_home_a := F_home_a.ext E_2
  have F_handledIn_a := F_handledIn_a.ext E_2
  have F_handledPerDocsIn_a := F_handledPerDocsIn_a.ext E_2
  have F_size_a := F_size_a.ext E_2
  have F_oldestPlace_a := F_oldestPlace_a.ext E_2
  have E_a := E_a.ext E_2
  have K0 := K0.ext E_2
  have V_bn : Arv Z h_2 bn k_bn .int (256 : Int32) [(.int (0 : Int32)), (.int (0 : Int32)), (.int (0 : Int32))] (.int (0 : Int32)) := (Arv.new A_2 (by decide)).pad (pad_rep [] (.int (0 : Int32)) 3)
  refine hst st_2 ?_
  show G (T_2.setTop (mkF m 10 #[.val (.ref a), .val (.int (0 : Int32)), .val (.int (1 : Int32))] [(.ref bn), (.ref a)]))
  obtain ⟨T_3, h_3, X_3, e_3, W_3, st_3⟩ := putF X_2 hx hZ hown (host := "") (Or.inl (own_w11 hw)) Via.refl e_2 F_numbers_a E_a (Or.inr ⟨(own_w12 hw), rfl, hnm⟩) (own_w2 hw) (ty := (.array .int)) (by decide) rfl rfl (g := (mkF m 10 #[.val (.ref a), .val (.int (0 : Int32)), .val (.int (1 : Int32))] [(.ref bn), (.ref a)])) rfl rfl (hb hby d1_10)
  have Z0 := Nat.le_trans Z0 (Keep.of_wr W_3).1
  have Z1 := Nat.le_trans Z1 (Keep.of_wr W_3).1
  have F_numbers_a := F_numbers_a.same W_3
  have F_lives_a := F_lives_a.other W_3 (Or.inr (slot_ne (Or.inr (own_w15 hw)) (Or.inr (own_w12 hw)) (by decide) (t := (.array .long)) (t' := (.array .int)) (by decide) (by decide)))
  have F_places_a := F_places_a.other W_3 (Or.inr (slot_ne (Or.inr (own_w17 hw)) (Or.inr (own_w12 hw)) (by decide) (t := (.array .long)) (t' := (.array .int)) (by decide) (by decide)))
  have F_bytesPerDoc_a := F_bytesPerDoc_a.other W_3 (Or.inr (slot_ne (Or.inr (own_w19 hw)) (Or.inr (own_w12 hw)) (by decide) (t := (.array .long)) (t' := (.array .int)) (by decide) (by decide)))
  have F_aloneAt_a := F_aloneAt_a.other W_3 (Or.inr (slot_ne (Or.inr (own_w21 hw)) (Or.inr (own_w12 hw)) (by decide) (t := (.array .long)) (t' := (.array .int)) (by decide) (by decide)))
  have F_handles_a := F_handles_a.other W_3 (Or.inr (slot_ne (Or.inr (own_w23 hw)) (Or.inr (own_w12 hw)) (by decide) (t := (.array .int)) (t' := (.array .int)) (by decide) (by decide)))
  have F_groups_a := F_groups_a.other W_3 (Or.inr (slot_ne (Or.inr (own_w26 hw)) (Or.inr (own_w12 hw)) (by decide) (t := (.array .byte)) (t' := (.array .int)) (by decide) (by decide)))
  have F_watches_a := F_watches_a.other W_3 (Or.inr (slot_ne (Or.inr (own_w29 hw)) (Or.inr (own_w12 hw)) (by decide) (t := (.array .boolean)) (t' := (.array .int)) (by decide) (by decide)))
  have F_leastSlack_a := F_leastSlack_a.other W_3 (Or.inr (slot_ne (Or.inl (own_w32 hw)) (Or.inr (own_w12 hw)) (by decide) (t := .long) (t' := (.array .int)) (by decide) (by decide)))
  have F_oldest_a := F_oldest_a.other W_3 (Or.inr (slot_ne (Or.inl (own_w34 hw)) (Or.inr (own_w12 hw)) (by decide) (t := .int) (t' := (.array .int)) (by decide) (by decide)))
  have F_leastHandled_a := F_leastHandled_a.other W_3 (Or.inr (slot_ne (Or.inl (own_w36 hw)) (Or.inr (own_w12 hw)) (by decide) (t := .long) (t' := (.array .int)) (by decide) (by decide)))
  have F_handledPerDoc_a := F_handledPerDoc_a.other W_3 (Or.inr (slot_ne (Or.inl (own_w39 hw)) (Or.inr (own_w12 hw)) (by decide) (t := .long) (t' := (.array .int)) (by decide) (by decide)))
  have F_heldCountedAt_a := F_heldCountedAt_a.other W_3 (Or.inr (slot_ne (Or.inl (own_w41 hw)) (Or.inr (own_w12 hw)) (by decide) (t := .long) (t' := (.array .int)) (by decide) (by decide)))
  have F_home_a := F_home_a.other W_3 (Or.inr (slot_ne (Or.inr (own_w43 hw)) (Or.inr (own_w12 hw)) (by decide) (t := .int) (t' := (.array .int)) (by decide) (by decide)))
  have F_handledIn_a := F_handledIn_a.other W_3 (Or.inr (slot_ne (Or.inr (own_w45 hw)) (Or.inr (own_w12 hw)) (by decide) (t := (.array .int)) (t' := (.array .int)) (by decide) (by decide)))
  have F_handledPerDocsIn_a := F_handledPerDocsIn_a.other W_3 (Or.inr (slot_ne (Or.inr (own_w47 hw)) (Or.inr (own_w12 hw)) (by decide) (t := (.array .long)) (t' := (.array .int)) (by decide) (by decide)))
  have F_size_a := F_size_a.other W_3 (Or.inr (slot_ne (Or.inl (own_w51 hw)) (Or.inr (own_w12 hw)) (by decide) (t := .int) (t' := (.array .int)) (by decide) (by decide)))
  have F_oldestPlace_a := F_oldestPlace_a.other W_3 (Or.inr (slot_ne (Or.inl (own_w55 hw)) (Or.inr (own_w12 hw)) (by decide) (t := .long) (t' := (.array .int)) (by decide) (by decide)))
  have E_a := E_a.wr W_3
  have K0 := K0.wr W_3 (Or.inl (List.mem_of_getElem? (i := 0) rfl))
  have V_bn := V_bn.other W_3 (Ne.symm ne_a_bn)
  have N_3 := Fr.snoc X_3 N0 le_n0_a
  refine hst st_3 ?_
  show G (T_3.setTop (mkF m 13 #[.val (.ref a), .val (.int (0 : Int32)), .val (.int (1 : Int32))] []))
  refine hst (fun _ kt => XS.aloadN X_3.here hx rfl (hb hby d1_13) rfl rfl kt) ?_
  show G (T_3.setTop (mkF m 14 #[.val (.ref a), .val (.int (0 : Int32)), .val (.int (1 : Int32))] [(.ref a)]))
  refine hst (fun _ kt => XS.sipush X_3.here hx rfl (hb hby d1_14) kt) ?_
  show G (T_3.setTop (mkF m 17 #[.val (.ref a), .val (.int (0 : Int32)), .val (.int (1 : Int32))] [(.int (256 : Int32)), (.ref a)]))
  obtain ⟨T_4, h_4, k_x1, X_4, e_4, E_4, A_4, st_4⟩ := newP (aty := .long) X_3 hx hZ (own_w13 hw) e_3 (g := (mkF m 17 #[.val (.ref a), .val (.int (0 : Int32)), .val (.int (1 : Int32))] [(.int (256 : Int32)), (.ref a)])) rfl (hb hby d1_17) rfl (by decide) (cap := 256) (by decide) (by decide) (by decide) (by decide)
  obtain ⟨x1, g_x1⟩ : ∃ z, z = h_3.size := ⟨_, rfl⟩
  rw [← g_x1] at A_4 st_4
  have ne_a_x1 : a ≠ x1 := Nat.ne_of_lt (Nat.lt_of_lt_of_le F_numbers_a.lt (Nat.le_of_eq g_x1.symm))
  have ne_bn_x1 : bn ≠ x1 := Nat.ne_of_lt (Nat.lt_of_lt_of_le V_bn.lt (Nat.le_of_eq g_x1.symm))
  have le_n0_x1 : n0 ≤ x1 := Nat.le_trans Z0 (Nat.le_of_eq g_x1.symm)
  have le_hh_x1 : h0.size ≤ x1 := Nat.le_trans Z1 (Nat.le_of_eq g_x1.symm)
  have Z0 := Nat.le_trans Z0 E_4.1
  have Z1 := Nat.le_trans Z1 E_4.1
  have F_numbers_a := F_numbers_a.ext E_4
  have F_lives_a := F_lives_a.ext E_4
  have F_places_a := F_places_a.ext E_4
  have F_bytesPerDoc_a := F_bytesPerDoc_a.ext E_4
  have F_aloneAt_a := F_aloneAt_a.ext E_4
  have F_handles_a := F_handles_a.ext E_4
  have F_groups_a := F_groups_a.ext E_4
  have F_watches_a := F_watches_a.ext E_4
  have F_leastSlack_a := F_leastSlack_a.ext E_4
  have F_oldest_a := F_oldest_a.ext E_4
  have F_leastHandled_a := F_leastHandled_a.ext E_4
  have F_handledPerDoc_a := F_handledPerDoc_a.ext E_4
  have F_heldCountedAt_a := F_heldCountedAt_a.ext E_4
  have F_home_a := F_home_a.ext E_4
  have F_handledIn_a := F_handledIn_a.ext E_4
  have F_handledPerDocsIn_a := F_handledPerDocsIn_a.ext E_4
  have F_size_a := F_size_a.ext E_4
  have F_oldestPlace_a := F_oldestPlace_a.ext E_4
  have E_a := E_a.ext E_4
  have K0 := K0.ext E_4
  have V_bn := V_bn.ext E_4
  have V_x1 : Arv Z h_4 x1 k_x1 .long (256 : Int32) [] (.long (0 : Int64)) := Arv.new A_4 (by decide)
  refine hst st_4 ?_
  show G (T_4.setTop (mkF m 19 #[.val (.ref a), .val (.int (0 : Int32)), .val (.int (1 : Int32))] [(.ref x1), (.ref a)]))
  obtain ⟨T_5, h_5, X_5, e_5, W_5, st_5⟩ := putF X_4 hx hZ hown (host := "") (Or.inl (own_w14 hw)) Via.refl e_4 F_lives_a E_a (Or.inr ⟨(own_w15 hw), rfl, hnm⟩) (own_w2 hw) (ty := (.array .long)) (by decide) rfl rfl (g := (mkF m 19 #[.val (.ref a), .val (.int (0 : Int32)), .val (.int (1 : Int32))] [(.ref x1), (.ref a)])) rfl rfl (hb hby d1_19)
  have Z0 := Nat.le_trans Z0 (Keep.of_wr W_5).1
  have Z1 := Nat.le_trans Z1 (Keep.of_wr W_5).1
  have F_numbers_a := F_numbers_a.other W_5 (Or.inr (slot_ne (Or.inr (own_w12 hw)) (Or.inr (own_w15 hw)) (by decide) (t := (.array .int)) (t' := (.array .long)) (by decide) (by decide)))
  have F_lives_a := F_lives_a.same W_5
  have F_places_a := F_places_a.other W_5 (Or.inr (slot_ne (Or.inr (own_w17 hw)) (Or.inr (own_w15 hw)) (by decide) (t := (.array .long)) (t' := (.array .long)) (by decide) (by decide)))
  have F_bytesPerDoc_a := F_bytesPerDoc_a.other W_5 (Or.inr (slot_ne (Or.inr (own_w19 hw)) (Or.inr (own_w15 hw)) (by decide) (t := (.array .long)) (t' := (.array .long)) (by decide) (by decide)))
  have F_aloneAt_a := F_aloneAt_a.other W_5 (Or.inr (slot_ne (Or.inr (own_w21 hw)) (Or.inr (own_w15 hw)) (by decide) (t := (.array .long)) (t' := (.array .long)) (by decide) (by decide)))
  have F_handles_a := F_handles_a.other W_5 (Or.inr (slot_ne (Or.inr (own_w23 hw)) (Or.inr (own_w15 hw)) (by decide) (t := (.array .int)) (t' := (.array .long)) (by decide) (by decide)))
  have F_groups_a := F_groups_a.other W_5 (Or.inr (slot_ne (Or.inr (own_w26 hw)) (Or.inr (own_w15 hw)) (by decide) (t := (.array .byte)) (t' := (.array .long)) (by decide) (by decide)))
  have F_watches_a := F_watches_a.other W_5 (Or.inr (slot_ne (Or.inr (own_w29 hw)) (Or.inr (own_w15 hw)) (by decide) (t := (.array .boolean)) (t' := (.array .long)) (by decide) (by decide)))
  have F_leastSlack_a := F_leastSlack_a.other W_5 (Or.inr (slot_ne (Or.inl (own_w32 hw)) (Or.inr (own_w15 hw)) (by decide) (t := .long) (t' := (.array .long)) (by decide) (by decide)))
  have F_oldest_a := F_oldest_a.other W_5 (Or.inr (slot_ne (Or.inl (own_w34 hw)) (Or.inr (own_w15 hw)) (by decide) (t := .int) (t' := (.array .long)) (by decide) (by decide)))
  have F_leastHandled_a := F_leastHandled_a.other W_5 (Or.inr (slot_ne (Or.inl (own_w36 hw)) (Or.inr (own_w15 hw)) (by decide) (t := .long) (t' := (.array .long)) (by decide) (by decide)))
  have F_handledPerDoc_a := F_handledPerDoc_a.other W_5 (Or.inr (slot_ne (Or.inl (own_w39 hw)) (Or.inr (own_w15 hw)) (by decide) (t := .long) (t' := (.array .long)) (by decide) (by decide)))
  have F_heldCountedAt_a := F_heldCountedAt_a.other W_5 (Or.inr (slot_ne (Or.inl (own_w41 hw)) (Or.inr (own_w15 hw)) (by decide) (t := .long) (t' := (.array .long)) (by decide) (by decide)))
  have F_home_a := F_home_a.other W_5 (Or.inr (slot_ne (Or.inr (own_w43 hw)) (Or.inr (own_w15 hw)) (by decide) (t := .int) (t' := (.array .long)) (by decide) (by decide)))
  have F_handledIn_a := F_handledIn_a.other W_5 (Or.inr (slot_ne (Or.inr (own_w45 hw)) (Or.inr (own_w15 hw)) (by decide) (t := (.array .int)) (t' := (.array .long)) (by decide) (by decide)))
  have F_handledPerDocsIn_a := F_handledPerDocsIn_a.other W_5 (Or.inr (slot_ne (Or.inr (own_w47 hw)) (Or.inr (own_w15 hw)) (by decide) (t := (.array .long)) (t' := (.array .long)) (by decide) (by decide)))
  have F_size_a := F_size_a.other W_5 (Or.inr (slot_ne (Or.inl (own_w51 hw)) (Or.inr (own_w15 hw)) (by decide) (t := .int) (t' := (.array .long)) (by decide) (by decide)))
  have F_oldestPlace_a := F_oldestPlace_a.other W_5 (Or.inr (slot_ne (Or.inl (own_w55 hw)) (Or.inr (own_w15 hw)) (by decide) (t := .long) (t' := (.array .long)) (by decide) (by decide)))
  have E_a := E_a.wr W_5
  have K0 := K0.wr W_5 (Or.inl (List.mem_of_getElem? (i := 0) rfl))
  have V_bn := V_bn.other W_5 (Ne.symm ne_a_bn)
  have N_5 := Fr.snoc X_5 N_3 le_n0_a
  refine hst st_5 ?_
  show G (T_5.setTop (mkF m 22 #[.val (.ref a), .val (.int (0 : Int32)), .val (.int (1 : Int32))] []))
  refine hst (fun _ kt => XS.aloadN X_5.here hx rfl (hb hby d1_22) rfl rfl kt) ?_
  show G (T_5.setTop (mkF m 23 #[.val (.ref a), .val (.int (0 : Int32)), .val (.int (1 : Int32))] [(.ref a)]))
  refine hst (fun _ kt => XS.sipush X_5.here hx rfl (hb hby d1_23) kt) ?_
  show G (T_5.setTop (mkF m 26 #[.val (.ref a), .val (.int (0 : Int32)), .val (.int (1 : Int32))] [(.int (256 : Int32)), (.ref a)]))
  obtain ⟨T_6, h_6, k_bp, X_6, e_6, E_6, A_6, st_6⟩ := newP (aty := .long) X_5 hx hZ (own_w13 hw) e_5 (g := (mkF m 26 #[.val (.ref a), .val (.int (0 : Int32)), .val (.int (1 : Int32))] [(.int (256 : Int32)), (.ref a)])) rfl (hb hby d1_26) rfl (by decide) (cap := 256) (by decide) (by decide) (by decide) (by decide)
  obtain ⟨bp, g_bp⟩ : ∃ z, z = h_5.size := ⟨_, rfl⟩
  rw [← g_bp] at A_6 st_6
  have ne_a_bp : a ≠ bp := Nat.ne_of_lt (Nat.lt_of_lt_of_le F_numbers_a.lt (Nat.le_of_eq g_bp.symm))
  have ne_bn_bp : bn ≠ bp := Nat.ne_of_lt (Nat.lt_of_lt_of_le V_bn.lt (Nat.le_of_eq g_bp.symm))
  have le_n0_bp : n0 ≤ bp := Nat.le_trans Z0 (Nat.le_of_eq g_bp.symm)
  have le_hh_bp : h0.size ≤ bp := Nat.le_trans Z1 (Nat.le_of_eq g_bp.symm)
  have Z0 := Nat.le_trans Z0 E_6.1
  have Z1 := Nat.le_trans Z1 E_6.1
  have F_numbers_a := F_numbers_a.ext E_6
  have F_places_a := F_places_a.ext E_6
  have F_bytesPerDoc_a := F_bytesPerDoc_a.ext E_6
  have F_aloneAt_a := F_aloneAt_a.ext E_6
  have F_handles_a := F_handles_a.ext E_6
  have F_groups_a := F_groups_a.ext E_6
  have F_watches_a := F_watches_a.ext E_6
  have F_leastSlack_a := F_leastSlack_a.ext E_6
  have F_oldest_a := F_oldest_a.ext E_6
  have F_leastHandled_a := F_leastHandled_a.ext E_6
  have F_handledPerDoc_a := F_handledPerDoc_a.ext E_6
  have F_heldCountedAt_a := F_heldCountedAt_a.ext E_6
  have F_home_a := F_home_a.ext E_6
  have F_handledIn_a := F_handledIn_a.ext E_6
  have F_handledPerDocsIn_a := F_handledPerDocsIn_a.ext E_6
  have F_size_a := F_size_a.ext E_6
  have F_oldestPlace_a := F_oldestPlace_a.ext E_6
  have E_a := E_a.ext E_6
  have K0 := K0.ext E_6
  have V_bn := V_bn.ext E_6
  have V_bp : Arv Z h_6 bp k_bp .long (256 : Int32) [(.long (0 : Int64)), (.long (0 : Int64)), (.long (0 : Int64))] (.long (0 : Int64)) := (Arv.new A_6 (by decide)).pad (pad_rep [] (.long (0 : Int64)) 3)
  refine hst st_6 ?_
  show G (T_6.setTop (mkF m 28 #[.val (.ref a), .val (.int (0 : Int32)), .val (.int (1 : Int32))] [(.ref bp), (.ref a)]))
  obtain ⟨T_7, h_7, X_7, e_7, W_7, st_7⟩ := putF X_6 hx hZ hown (host := "") (Or.inl (own_w16 hw)) Via.refl e_6 F_places_a E_a (Or.inr ⟨(own_w17 hw), rfl, hnm⟩) (own_w2 hw) (ty := (.array .long)) (by decide) rfl rfl (g := (mkF m 28 #[.val (.ref a), .val (.int (0 : Int32)), .val (.int (1 : Int32))] [(.ref bp), (.ref a)])) rfl rfl (hb hby d1_28)
  have Z0 := Nat.le_trans Z0 (Keep.of_wr W_7).1
  have Z1 := Nat.le_trans Z1 (Keep.of_wr W_7).1
  have F_numbers_a := F_numbers_a.other W_7 (Or.inr (slot_ne (Or.inr (own_w12 hw)) (Or.inr (own_w17 hw)) (by decide) (t := (.array .int)) (t' := (.array .long)) (by decide) (by decide)))
  have F_places_a := F_places_a.same W_7
  have F_bytesPerDoc_a := F_bytesPerDoc_a.other W_7 (Or.inr (slot_ne (Or.inr (own_w19 hw)) (Or.inr (own_w17 hw)) (by decide) (t := (.array .long)) (t' := (.array .long)) (by decide) (by decide)))
  have F_aloneAt_a := F_aloneAt_a.other W_7 (Or.inr (slot_ne (Or.inr (own_w21 hw)) (Or.inr (own_w17 hw)) (by decide) (t := (.array .long)) (t' := (.array .long)) (by decide) (by decide)))
  have F_handles_a := F_handles_a.other W_7 (Or.inr (slot_ne (Or.inr (own_w23 hw)) (Or.inr (own_w17 hw)) (by decide) (t := (.array .int)) (t' := (.array .long)) (by decide) (by decide)))
  have F_groups_a := F_groups_a.other W_7 (Or.inr (slot_ne (Or.inr (own_w26 hw)) (Or.inr (own_w17 hw)) (by decide) (t := (.array .byte)) (t' := (.array .long)) (by decide) (by decide)))
  have F_watches_a := F_watches_a.other W_7 (Or.inr (slot_ne (Or.inr (own_w29 hw)) (Or.inr (own_w17 hw)) (by decide) (t := (.array .boolean)) (t' := (.array .long)) (by decide) (by decide)))
  have F_leastSlack_a := F_leastSlack_a.other W_7 (Or.inr (slot_ne (Or.inl (own_w32 hw)) (Or.inr (own_w17 hw)) (by decide) (t := .long) (t' := (.array .long)) (by decide) (by decide)))
  have F_oldest_a := F_oldest_a.other W_7 (Or.inr (slot_ne (Or.inl (own_w34 hw)) (Or.inr (own_w17 hw)) (by decide) (t := .int) (t' := (.array .long)) (by decide) (by decide)))
  have F_leastHandled_a := F_leastHandled_a.other W_7 (Or.inr (slot_ne (Or.inl (own_w36 hw)) (Or.inr (own_w17 hw)) (by decide) (t := .long) (t' := (.array .long)) (by decide) (by decide)))
  have F_handledPerDoc_a := F_handledPerDoc_a.other W_7 (Or.inr (slot_ne (Or.inl (own_w39 hw)) (Or.inr (own_w17 hw)) (by decide) (t := .long) (t' := (.array .long)) (by decide) (by decide)))
  have F_heldCountedAt_a := F_heldCountedAt_a.other W_7 (Or.inr (slot_ne (Or.inl (own_w41 hw)) (Or.inr (own_w17 hw)) (by decide) (t := .long) (t' := (.array .long)) (by decide) (by decide)))
  have F_home_a := F_home_a.other W_7 (Or.inr (slot_ne (Or.inr (own_w43 hw)) (Or.inr (own_w17 hw)) (by decide) (t := .int) (t' := (.array .long)) (by decide) (by decide)))
  have F_handledIn_a := F_handledIn_a.other W_7 (Or.inr (slot_ne (Or.inr (own_w45 hw)) (Or.inr (own_w17 hw)) (by decide) (t := (.array .int)) (t' := (.array .long)) (by decide) (by decide)))
  have F_handledPerDocsIn_a := F_handledPerDocsIn_a.other W_7 (Or.inr (slot_ne (Or.inr (own_w47 hw)) (Or.inr (own_w17 hw)) (by decide) (t := (.array .long)) (t' := (.array .long)) (by decide) (by decide)))
  have F_size_a := F_size_a.other W_7 (Or.inr (slot_ne (Or.inl (own_w51 hw)) (Or.inr (own_w17 hw)) (by decide) (t := .int) (t' := (.array .long)) (by decide) (by decide)))
  have F_oldestPlace_a := F_oldestPlace_a.other W_7 (Or.inr (slot_ne (Or.inl (own_w55 hw)) (Or.inr (own_w17 hw)) (by decide) (t := .long) (t' := (.array .long)) (by decide) (by decide)))
  have E_a := E_a.wr W_7
  have K0 := K0.wr W_7 (Or.inl (List.mem_of_getElem? (i := 0) rfl))
  have V_bn := V_bn.other W_7 (Ne.symm ne_a_bn)
  have V_bp := V_bp.other W_7 (Ne.symm ne_a_bp)
  have N_7 := Fr.snoc X_7 N_5 le_n0_a
  refine hst st_7 ?_
  show G (T_7.setTop (mkF m 31 #[.val (.ref a), .val (.int (0 : Int32)), .val (.int (1 : Int32))] []))
  refine hst (fun _ kt => XS.aloadN X_7.here hx rfl (hb hby d1_31) rfl rfl kt) ?_
  show G (T_7.setTop (mkF m 32 #[.val (.ref a), .val (.int (0 : Int32)), .val (.int (1 : Int32))] [(.ref a)]))
  refine hst (fun _ kt => XS.sipush X_7.here hx rfl (hb hby d1_32) kt) ?_
  show G (T_7.setTop (mkF m 35 #[.val (.ref a), .val (.int (0 : Int32)), .val (.int (1 : Int32))] [(.int (256 : Int32)), (.ref a)]))
  obtain ⟨T_8, h_8, k_x3, X_8, e_8, E_8, A_8, st_8⟩ := newP (aty := .long) X_7 hx hZ (own_w13 hw) e_7 (g := (mkF m 35 #[.val (.ref a), .val (.int (0 : Int32)), .val (.int (1 : Int32))] [(.int (256 : Int32)), (.ref a)])) rfl (hb hby d1_35) rfl (by decide) (cap := 256) (by decide) (by decide) (by decide) (by decide)
  obtain ⟨x3, g_x3⟩ : ∃ z, z = h_7.size := ⟨_, rfl⟩
  rw [← g_x3] at A_8 st_8
  have ne_a_x3 : a ≠ x3 := Nat.ne_of_lt (Nat.lt_of_lt_of_le F_numbers_a.lt (Nat.le_of_eq g_x3.symm))
  have ne_bn_x3 : bn ≠ x3 := Nat.ne_of_lt (Nat.lt_of_lt_of_le V_bn.lt (Nat.le_of_eq g_x3.symm))
  have ne_bp_x3 : bp ≠ x3 := Nat.ne_of_lt (Nat.lt_of_lt_of_le V_bp.lt (Nat.le_of_eq g_x3.symm))
  have le_n0_x3 : n0 ≤ x3 := Nat.le_trans Z0 (Nat.le_of_eq g_x3.symm)
  have le_hh_x3 : h0.size ≤ x3 := Nat.le_trans Z1 (Nat.le_of_eq g_x3.symm)
  have Z0 := Nat.le_trans Z0 E_8.1
  have Z1 := Nat.le_trans Z1 E_8.1
  have F_numbers_a := F_numbers_a.ext E_8
  have F_places_a := F_places_a.ext E_8
  have F_bytesPerDoc_a := F_bytesPerDoc_a.ext E_8
  have F_aloneAt_a := F_aloneAt_a.ext E_8
  have F_handles_a := F_handles_a.ext E_8
  have F_groups_a := F_groups_a.ext E_8
  have F_watches_a := F_watches_a.ext E_8
  have F_leastSlack_a := F_leastSlack_a.ext E_8
  have F_oldest_a := F_oldest_a.ext E_8
  have F_leastHandled_a := F_leastHandled_a.ext E_8
  have F_handledPerDoc_a := F_handledPerDoc_a.ext E_8
  have F_heldCountedAt_a := F_heldCountedAt_a.ext E_8
  have F_home_a := F_home_a.ext E_8
  have F_handledIn_a := F_handledIn_a.ext E_8
  have F_handledPerDocsIn_a := F_handledPerDocsIn_a.ext E_8
  have F_size_a := F_size_a.ext E_8
  have F_oldestPlace_a := F_oldestPlace_a.ext E_8
  have E_a := E_a.ext E_8
  have K0 := K0.ext E_8
  have V_bn := V_bn.ext E_8
  have V_bp := V_bp.ext E_8
  have V_x3 : Arv Z h_8 x3 k_x3 .long (256 : Int32) [] (.long (0 : Int64)) := Arv.new A_8 (by decide)
  refine hst st_8 ?_
  show G (T_8.setTop (mkF m 37 #[.val (.ref a), .val (.int (0 : Int32)), .val (.int (1 : Int32))] [(.ref x3), (.ref a)]))
  obtain ⟨T_9, h_9, X_9, e_9, W_9, st_9⟩ := putF X_8 hx hZ hown (host := "") (Or.inl (own_w18 hw)) Via.refl e_8 F_bytesPerDoc_a E_a (Or.inr ⟨(own_w19 hw), rfl, hnm⟩) (own_w2 hw) (ty := (.array .long)) (by decide) rfl rfl (g := (mkF m 37 #[.val (.ref a), .val (.int (0 : Int32)), .val (.int (1 : Int32))] [(.ref x3), (.ref a)])) rfl rfl (hb hby d1_37)
  have Z0 := Nat.le_trans Z0 (Keep.of_wr W_9).1
  have Z1 := Nat.le_trans Z1 (Keep.of_wr W_9).1
  have F_numbers_a := F_numbers_a.other W_9 (Or.inr (slot_ne (Or.inr (own_w12 hw)) (Or.inr (own_w19 hw)) (by decide) (t := (.array .int)) (t' := (.array .long)) (by decide) (by decide)))
  have F_places_a := F_places_a.other W_9 (Or.inr (slot_ne (Or.inr (own_w17 hw)) (Or.inr (own_w19 hw)) (by decide) (t := (.array .long)) (t' := (.array .long)) (by decide) (by decide)))
  have F_bytesPerDoc_a := F_bytesPerDoc_a.same W_9
  have F_aloneAt_a := F_aloneAt_a.other W_9 (Or.inr (slot_ne (Or.inr (own_w21 hw)) (Or.inr (own_w19 hw)) (by decide) (t := (.array .long)) (t' := (.array .long)) (by decide) (by decide)))
  have F_handles_a := F_handles_a.other W_9 (Or.inr (slot_ne (Or.inr (own_w23 hw)) (Or.inr (own_w19 hw)) (by decide) (t := (.array .int)) (t' := (.array .long)) (by decide) (by decide)))
  have F_groups_a := F_groups_a.other W_9 (Or.inr (slot_ne (Or.inr (own_w26 hw)) (Or.inr (own_w19 hw)) (by decide) (t := (.array .byte)) (t' := (.array .long)) (by decide) (by decide)))
  have F_watches_a := F_watches_a.other W_9 (Or.inr (slot_ne (Or.inr (own_w29 hw)) (Or.inr (own_w19 hw)) (by decide) (t := (.array .boolean)) (t' := (.array .long)) (by decide) (by decide)))
  have F_leastSlack_a := F_leastSlack_a.other W_9 (Or.inr (slot_ne (Or.inl (own_w32 hw)) (Or.inr (own_w19 hw)) (by decide) (t := .long) (t' := (.array .long)) (by decide) (by decide)))
  have F_oldest_a := F_oldest_a.other W_9 (Or.inr (slot_ne (Or.inl (own_w34 hw)) (Or.inr (own_w19 hw)) (by decide) (t := .int) (t' := (.array .long)) (by decide) (by decide)))
  have F_leastHandled_a := F_leastHandled_a.other W_9 (Or.inr (slot_ne (Or.inl (own_w36 hw)) (Or.inr (own_w19 hw)) (by decide) (t := .long) (t' := (.array .long)) (by decide) (by decide)))
  have F_handledPerDoc_a := F_handledPerDoc_a.other W_9 (Or.inr (slot_ne (Or.inl (own_w39 hw)) (Or.inr (own_w19 hw)) (by decide) (t := .long) (t' := (.array .long)) (by decide) (by decide)))
  have F_heldCountedAt_a := F_heldCountedAt_a.other W_9 (Or.inr (slot_ne (Or.inl (own_w41 hw)) (Or.inr (own_w19 hw)) (by decide) (t := .long) (t' := (.array .long)) (by decide) (by decide)))
  have F_home_a := F_home_a.other W_9 (Or.inr (slot_ne (Or.inr (own_w43 hw)) (Or.inr (own_w19 hw)) (by decide) (t := .int) (t' := (.array .long)) (by decide) (by decide)))
  have F_handledIn_a := F_handledIn_a.other W_9 (Or.inr (slot_ne (Or.inr (own_w45 hw)) (Or.inr (own_w19 hw)) (by decide) (t := (.array .int)) (t' := (.array .long)) (by decide) (by decide)))
  have F_handledPerDocsIn_a := F_handledPerDocsIn_a.other W_9 (Or.inr (slot_ne (Or.inr (own_w47 hw)) (Or.inr (own_w19 hw)) (by decide) (t := (.array .long)) (t' := (.array .long)) (by decide) (by decide)))
  have F_size_a := F_size_a.other W_9 (Or.inr (slot_ne (Or.inl (own_w51 hw)) (Or.inr (own_w19 hw)) (by decide) (t := .int) (t' := (.array .long)) (by decide) (by decide)))
  have F_oldestPlace_a := F_oldestPlace_a.other W_9 (Or.inr (slot_ne (Or.inl (own_w55 hw)) (Or.inr (own_w19 hw)) (by decide) (t := .long) (t' := (.array .long)) (by decide) (by decide)))
  have E_a := E_a.wr W_9
  have K0 := K0.wr W_9 (Or.inl (List.mem_of_getElem? (i := 0) rfl))
  have V_bn := V_bn.other W_9 (Ne.symm ne_a_bn)
  have V_bp := V_bp.other W_9 (Ne.symm ne_a_bp)
  have N_9 := Fr.snoc X_9 N_7 le_n0_a
  refine hst st_9 ?_
  show G (T_9.setTop (mkF m 40 #[.val (.ref a), .val (.int (0 : Int32)), .val (.int (1 : Int32))] []))
  refine hst (fun _ kt => XS.aloadN X_9.here hx rfl (hb hby d1_40) rfl rfl kt) ?_
  show G (T_9.setTop (mkF m 41 #[.val (.ref a), .val (.int (0 : Int32)), .val (.int (1 : Int32))] [(.ref a)]))
  refine hst (fun _ kt => XS.sipush X_9.here hx rfl (hb hby d1_41) kt) ?_
  show G (T_9.setTop (mkF m 44 #[.val (.ref a), .val (.int (0 : Int32)), .val (.int (1 : Int32))] [(.int (256 : Int32)), (.ref a)]))
  obtain ⟨T_10, h_10, k_x4, X_10, e_10, E_10, A_10, st_10⟩ := newP (aty := .long) X_9 hx hZ (own_w13 hw) e_9 (g := (mkF m 44 #[.val (.ref a), .val (.int (0 : Int32)), .val (.int (1 : Int32))] [(.int (256 : Int32)), (.ref a)])) rfl (hb hby d1_44) rfl (by decide) (cap := 256) (by decide) (by decide) (by decide) (by decide)
  obtain ⟨x4, g_x4⟩ : ∃ z, z = h_9.size := ⟨_, rfl⟩
  rw [← g_x4] at A_10 st_10
  have ne_a_x4 : a ≠ x4 := Nat.ne_of_lt (Nat.lt_of_lt_of_le F_numbers_a.lt (Nat.le_of_eq g_x4.symm))
  have ne_bn_x4 : bn ≠ x4 := Nat.ne_of_lt (Nat.lt_of_lt_of_le V_bn.lt (Nat.le_of_eq g_x4.symm))
  have ne_bp_x4 : bp ≠ x4 := Nat.ne_of_lt (Nat.lt_of_lt_of_le V_bp.lt (Nat.le_of_eq g_x4.symm))
  have le_n0_x4 : n0 ≤ x4 := Nat.le_trans Z0 (Nat.le_of_eq g_x4.symm)
  have le_hh_x4 : h0.size ≤ x4 := Nat.le_trans Z1 (Nat.le_of_eq g_x4.symm)
  have Z0 := Nat.le_trans Z0 E_10.1
  have Z1 := Nat.le_trans Z1 E_10.1
  have F_numbers_a := F_numbers_a.ext E_10
  have F_places_a := F_places_a.ext E_10
  have F_aloneAt_a := F_aloneAt_a.ext E_10
  have F_handles_a := F_handles_a.ext E_10
  have F_groups_a := F_groups_a.ext E_10
  have F_watches_a := F_watches_a.ext E_10
  have F_leastSlack_a := F_leastSlack_a.ext E_10
  have F_oldest_a := F_oldest_a.ext E_10
  have F_leastHandled_a := F_leastHandled_a.ext E_10
  have F_handledPerDoc_a := F_handledPerDoc_a.ext E_10
  have F_heldCountedAt_a := F_heldCountedAt_a.ext E_10
  have F_home_a := F_home_a.ext E_10
  have F_handledIn_a := F_handledIn_a.ext E_10
  have F_handledPerDocsIn_a := F_handledPerDocsIn_a.ext E_10
  have F_size_a := F_size_a.ext E_10
  have F_oldestPlace_a := F_oldestPlace_a.ext E_10
  have E_a := E_a.ext E_10
  have K0 := K0.ext E_10
  have V_bn := V_bn.ext E_10
  have V_bp := V_bp.ext E_10
  have V_x4 : Arv Z h_10 x4 k_x4 .long (256 : Int32) [] (.long (0 : Int64)) := Arv.new A_10 (by decide)
  refine hst st_10 ?_
  show G (T_10.setTop (mkF m 46 #[.val (.ref a), .val (.int (0 : Int32)), .val (.int (1 : Int32))] [(.ref x4), (.ref a)]))
  obtain ⟨T_11, h_11, X_11, e_11, W_11, st_11⟩ := putF X_10 hx hZ hown (host := "") (Or.inl (own_w20 hw)) Via.refl e_10 F_aloneAt_a E_a (Or.inr ⟨(own_w21 hw), rfl, hnm⟩) (own_w2 hw) (ty := (.array .long)) (by decide) rfl rfl (g := (mkF m 46 #[.val (.ref a), .val (.int (0 : Int32)), .val (.int (1 : Int32))] [(.ref x4), (.ref a)])) rfl rfl (hb hby d1_46)
  have Z0 := Nat.le_trans Z0 (Keep.of_wr W_11).1
  have Z1 := Nat.le_trans Z1 (Keep.of_wr W_11).1
  have F_numbers_a := F_numbers_a.other W_11 (Or.inr (slot_ne (Or.inr (own_w12 hw)) (Or.inr (own_w21 hw)) (by decide) (t := (.array .int)) (t' := (.array .long)) (by decide) (by decide)))
  have F_places_a := F_places_a.other W_11 (Or.inr (slot_ne (Or.inr (own_w17 hw)) (Or.inr (own_w21 hw)) (by decide) (t := (.array .long)) (t' := (.array .long)) (by decide) (by decide)))
  have F_aloneAt_a := F_aloneAt_a.same W_11
  have F_handles_a := F_handles_a.other W_11 (Or.inr (slot_ne (Or.inr (own_w23 hw)) (Or.inr (own_w21 hw)) (by decide) (t := (.array .int)) (t' := (.array .long)) (by decide) (by decide)))
  have F_groups_a := F_groups_a.other W_11 (Or.inr (slot_ne (Or.inr (own_w26 hw)) (Or.inr (own_w21 hw)) (by decide) (t := (.array .byte)) (t' := (.array .long)) (by decide) (by decide)))
  have F_watches_a := F_watches_a.other W_11 (Or.inr (slot_ne (Or.inr (own_w29 hw)) (Or.inr (own_w21 hw)) (by decide) (t := (.array .boolean)) (t' := (.array .long)) (by decide) (by decide)))
  have F_leastSlack_a := F_leastSlack_a.other W_11 (Or.inr (slot_ne (Or.inl (own_w32 hw)) (Or.inr (own_w21 hw)) (by decide) (t := .long) (t' := (.array .long)) (by decide) (by decide)))
  have F_oldest_a := F_oldest_a.other W_11 (Or.inr (slot_ne (Or.inl (own_w34 hw)) (Or.inr (own_w21 hw)) (by decide) (t := .int) (t' := (.array .long)) (by decide) (by decide)))
  have F_leastHandled_a := F_leastHandled_a.other W_11 (Or.inr (slot_ne (Or.inl (own_w36 hw)) (Or.inr (own_w21 hw)) (by decide) (t := .long) (t' := (.array .long)) (by decide) (by decide)))
  have F_handledPerDoc_a := F_handledPerDoc_a.other W_11 (Or.inr (slot_ne (Or.inl (own_w39 hw)) (Or.inr (own_w21 hw)) (by decide) (t := .long) (t' := (.array .long)) (by decide) (by decide)))
  have F_heldCountedAt_a := F_heldCountedAt_a.other W_11 (Or.inr (slot_ne (Or.inl (own_w41 hw)) (Or.inr (own_w21 hw)) (by decide) (t := .long) (t' := (.array .long)) (by decide) (by decide)))
  have F_home_a := F_home_a.other W_11 (Or.inr (slot_ne (Or.inr (own_w43 hw)) (Or.inr (own_w21 hw)) (by decide) (t := .int) (t' := (.array .long)) (by decide) (by decide)))
  have F_handledIn_a := F_handledIn_a.other W_11 (Or.inr (slot_ne (Or.inr (own_w45 hw)) (Or.inr (own_w21 hw)) (by decide) (t := (.array .int)) (t' := (.array .long)) (by decide) (by decide)))
  have F_handledPerDocsIn_a := F_handledPerDocsIn_a.other W_11 (Or.inr (slot_ne (Or.inr (own_w47 hw)) (Or.inr (own_w21 hw)) (by decide) (t := (.array .long)) (t' := (.array .long)) (by decide) (by decide)))
  have F_size_a := F_size_a.other W_11 (Or.inr (slot_ne (Or.inl (own_w51 hw)) (Or.inr (own_w21 hw)) (by decide) (t := .int) (t' := (.array .long)) (by decide) (by decide)))
  have F_oldestPlace_a := F_oldestPlace_a.other W_11 (Or.inr (slot_ne (Or.inl (own_w55 hw)) (Or.inr (own_w21 hw)) (by decide) (t := .long) (t' := (.array .long)) (by decide) (by decide)))
  have E_a := E_a.wr W_11
  have K0 := K0.wr W_11 (Or.inl (List.mem_of_getElem? (i := 0) rfl))
  have V_bn := V_bn.other W_11 (Ne.symm ne_a_bn)
  have V_bp := V_bp.other W_11 (Ne.symm ne_a_bp)
  have N_11 := Fr.snoc X_11 N_9 le_n0_a
  refine hst st_11 ?_
  show G (T_11.setTop (mkF m 49 #[.val (.ref a), .val (.int (0 : Int32)), .val (.int (1 : Int32))] []))
  refine hst (fun _ kt => XS.aloadN X_11.here hx rfl (hb hby d1_49) rfl rfl kt) ?_
  show G (T_11.setTop (mkF m 50 #[.val (.ref a), .val (.int (0 : Int32)), .val (.int (1 : Int32))] [(.ref a)]))
  refine hst (fun _ kt => XS.sipush X_11.here hx rfl (hb hby d1_50) kt) ?_
  show G (T_11.setTop (mkF m 53 #[.val (.ref a), .val (.int (0 : Int32)), .val (.int (1 : Int32))] [(.int (256 : Int32)), (.ref a)]))
  obtain ⟨T_12, h_12, k_x5, X_12, e_12, E_12, A_12, st_12⟩ := newP (aty := .int) X_11 hx hZ (own_w10 hw) e_11 (g := (mkF m 53 #[.val (.ref a), .val (.int (0 : Int32)), .val (.int (1 : Int32))] [(.int (256 : Int32)), (.ref a)])) rfl (hb hby d1_53) rfl (by decide) (cap := 256) (by decide) (by decide) (by decide) (by decide)
  obtain ⟨x5, g_x5⟩ : ∃ z, z = h_11.size := ⟨_, rfl⟩
  rw [← g_x5] at A_12 st_12
  have ne_a_x5 : a ≠ x5 := Nat.ne_of_lt (Nat.lt_of_lt_of_le F_numbers_a.lt (Nat.le_of_eq g_x5.symm))
  have ne_bn_x5 : bn ≠ x5 := Nat.ne_of_lt (Nat.lt_of_lt_of_le V_bn.lt (Nat.le_of_eq g_x5.symm))
  have ne_bp_x5 : bp ≠ x5 := Nat.ne_of_lt (Nat.lt_of_lt_of_le V_bp.lt (Nat.le_of_eq g_x5.symm))
  have le_n0_x5 : n0 ≤ x5 := Nat.le_trans Z0 (Nat.le_of_eq g_x5.symm)
  have le_hh_x5 : h0.size ≤ x5 := Nat.le_trans Z1 (Nat.le_of_eq g_x5.symm)
  have Z0 := Nat.le_trans Z0 E_12.1
  have Z1 := Nat.le_trans Z1 E_12.1
  have F_numbers_a := F_numbers_a.ext E_12
  have F_places_a := F_places_a.ext E_12
  have F_handles_a := F_handles_a.ext E_12
  have F_groups_a := F_groups_a.ext E_12
  have F_watches_a := F_watches_a.ext E_12
  have F_leastSlack_a := F_leastSlack_a.ext E_12
  have F_oldest_a := F_oldest_a.ext E_12
  have F_leastHandled_a := F_leastHandled_a.ext E_12
  have F_handledPerDoc_a := F_handledPerDoc_a.ext E_12
  have F_heldCountedAt_a := F_heldCountedAt_a.ext E_12
  have F_home_a := F_home_a.ext E_12
  have F_handledIn_a := F_handledIn_a.ext E_12
  have F_handledPerDocsIn_a := F_handledPerDocsIn_a.ext E_12
  have F_size_a := F_size_a.ext E_12
  have F_oldestPlace_a := F_oldestPlace_a.ext E_12
  have E_a := E_a.ext E_12
  have K0 := K0.ext E_12
  have V_bn := V_bn.ext E_12
  have V_bp := V_bp.ext E_12
  have V_x5 : Arv Z h_12 x5 k_x5 .int (256 : Int32) [] (.int (0 : Int32)) := Arv.new A_12 (by decide)
  refine hst st_12 ?_
  show G (T_12.setTop (mkF m 55 #[.val (.ref a), .val (.int (0 : Int32)), .val (.int (1 : Int32))] [(.ref x5), (.ref a)]))
  obtain ⟨T_13, h_13, X_13, e_13, W_13, st_13⟩ := putF X_12 hx hZ hown (host := "") (Or.inl (own_w22 hw)) Via.refl e_12 F_handles_a E_a (Or.inr ⟨(own_w23 hw), rfl, hnm⟩) (own_w2 hw) (ty := (.array .int)) (by decide) rfl rfl (g := (mkF m 55 #[.val (.ref a), .val (.int (0 : Int32)), .val (.int (1 : Int32))] [(.ref x5), (.ref a)])) rfl rfl (hb hby d1_55)
  have Z0 := Nat.le_trans Z0 (Keep.of_wr W_13).1
  have Z1 := Nat.le_trans Z1 (Keep.of_wr W_13).1
  have F_numbers_a := F_numbers_a.other W_13 (Or.inr (slot_ne (Or.inr (own_w12 hw)) (Or.inr (own_w23 hw)) (by decide) (t := (.array .int)) (t' := (.array .int)) (by decide) (by decide)))
  have F_places_a := F_places_a.other W_13 (Or.inr (slot_ne (Or.inr (own_w17 hw)) (Or.inr (own_w23 hw)) (by decide) (t := (.array .long)) (t' := (.array .int)) (by decide) (by decide)))
  have F_handles_a := F_handles_a.same W_13
  have F_groups_a := F_groups_a.other W_13 (Or.inr (slot_ne (Or.inr (own_w26 hw)) (Or.inr (own_w23 hw)) (by decide) (t := (.array .byte)) (t' := (.array .int)) (by decide) (by decide)))
  have F_watches_a := F_watches_a.other W_13 (Or.inr (slot_ne (Or.inr (own_w29 hw)) (Or.inr (own_w23 hw)) (by decide) (t := (.array .boolean)) (t' := (.array .int)) (by decide) (by decide)))
  have F_leastSlack_a := F_leastSlack_a.other W_13 (Or.inr (slot_ne (Or.inl (own_w32 hw)) (Or.inr (own_w23 hw)) (by decide) (t := .long) (t' := (.array .int)) (by decide) (by decide)))
  have F_oldest_a := F_oldest_a.other W_13 (Or.inr (slot_ne (Or.inl (own_w34 hw)) (Or.inr (own_w23 hw)) (by decide) (t := .int) (t' := (.array .int)) (by decide) (by decide)))
  have F_leastHandled_a := F_leastHandled_a.other W_13 (Or.inr (slot_ne (Or.inl (own_w36 hw)) (Or.inr (own_w23 hw)) (by decide) (t := .long) (t' := (.array .int)) (by decide) (by decide)))
  have F_handledPerDoc_a := F_handledPerDoc_a.other W_13 (Or.inr (slot_ne (Or.inl (own_w39 hw)) (Or.inr (own_w23 hw)) (by decide) (t := .long) (t' := (.array .int)) (by decide) (by decide)))
  have F_heldCountedAt_a := F_heldCountedAt_a.other W_13 (Or.inr (slot_ne (Or.inl (own_w41 hw)) (Or.inr (own_w23 hw)) (by decide) (t := .long) (t' := (.array .int)) (by decide) (by decide)))
  have F_home_a := F_home_a.other W_13 (Or.inr (slot_ne (Or.inr (own_w43 hw)) (Or.inr (own_w23 hw)) (by decide) (t := .int) (t' := (.array .int)) (by decide) (by decide)))
  have F_handledIn_a := F_handledIn_a.other W_13 (Or.inr (slot_ne (Or.inr (own_w45 hw)) (Or.inr (own_w23 hw)) (by decide) (t := (.array .int)) (t' := (.array .int)) (by decide) (by decide)))
  have F_handledPerDocsIn_a := F_handledPerDocsIn_a.other W_13 (Or.inr (slot_ne (Or.inr (own_w47 hw)) (Or.inr (own_w23 hw)) (by decide) (t := (.array .long)) (t' := (.array .int)) (by decide) (by decide)))
  have F_size_a := F_size_a.other W_13 (Or.inr (slot_ne (Or.inl (own_w51 hw)) (Or.inr (own_w23 hw)) (by decide) (t := .int) (t' := (.array .int)) (by decide) (by decide)))
  have F_oldestPlace_a := F_oldestPlace_a.other W_13 (Or.inr (slot_ne (Or.inl (own_w55 hw)) (Or.inr (own_w23 hw)) (by decide) (t := .long) (t' := (.array .int)) (by decide) (by decide)))
  have E_a := E_a.wr W_13
  have K0 := K0.wr W_13 (Or.inl (List.mem_of_getElem? (i := 0) rfl))
  have V_bn := V_bn.other W_13 (Ne.symm ne_a_bn)
  have V_bp := V_bp.other W_13 (Ne.symm ne_a_bp)
  have N_13 := Fr.snoc X_13 N_11 le_n0_a
  refine hst st_13 ?_
  show G (T_13.setTop (mkF m 58 #[.val (.ref a), .val (.int (0 : Int32)), .val (.int (1 : Int32))] []))
  refine hst (fun _ kt => XS.aloadN X_13.here hx rfl (hb hby d1_58) rfl rfl kt) ?_
  show G (T_13.setTop (mkF m 59 #[.val (.ref a), .val (.int (0 : Int32)), .val (.int (1 : Int32))] [(.ref a)]))
  refine hst (fun _ kt => XS.sipush X_13.here hx rfl (hb hby d1_59) kt) ?_
  show G (T_13.setTop (mkF m 62 #[.val (.ref a), .val (.int (0 : Int32)), .val (.int (1 : Int32))] [(.int (256 : Int32)), (.ref a)]))
  obtain ⟨T_14, h_14, k_x6, X_14, e_14, E_14, A_14, st_14⟩ := newP (aty := .byte) X_13 hx hZ (own_w24 hw) e_13 (g := (mkF m 62 #[.val (.ref a), .val (.int (0 : Int32)), .val (.int (1 : Int32))] [(.int (256 : Int32)), (.ref a)])) rfl (hb hby d1_62) rfl (by decide) (cap := 256) (by decide) (by decide) (by decide) (by decide)
  obtain ⟨x6, g_x6⟩ : ∃ z, z = h_13.size := ⟨_, rfl⟩
  rw [← g_x6] at A_14 st_14
  have ne_a_x6 : a ≠ x6 := Nat.ne_of_lt (Nat.lt_of_lt_of_le F_numbers_a.lt (Nat.le_of_eq g_x6.symm))
  have ne_bn_x6 : bn ≠ x6 := Nat.ne_of_lt (Nat.lt_of_lt_of_le V_bn.lt (Nat.le_of_eq g_x6.symm))
  have ne_bp_x6 : bp ≠ x6 := Nat.ne_of_lt (Nat.lt_of_lt_of_le V_bp.lt (Nat.le_of_eq g_x6.symm))
  have le_n0_x6 : n0 ≤ x6 := Nat.le_trans Z0 (Nat.le_of_eq g_x6.symm)
  have le_hh_x6 : h0.size ≤ x6 := Nat.le_trans Z1 (Nat.le_of_eq g_x6.symm)
  have Z0 := Nat.le_trans Z0 E_14.1
  have Z1 := Nat.le_trans Z1 E_14.1
  have F_numbers_a := F_numbers_a.ext E_14
  have F_places_a := F_places_a.ext E_14
  have F_groups_a := F_groups_a.ext E_14
  have F_watches_a := F_watches_a.ext E_14
  have F_leastSlack_a := F_leastSlack_a.ext E_14
  have F_oldest_a := F_oldest_a.ext E_14
  have F_leastHandled_a := F_leastHandled_a.ext E_14
  have F_handledPerDoc_a := F_handledPerDoc_a.ext E_14
  have F_heldCountedAt_a := F_heldCountedAt_a.ext E_14
  have F_home_a := F_home_a.ext E_14
  have F_handledIn_a := F_handledIn_a.ext E_14
  have F_handledPerDocsIn_a := F_handledPerDocsIn_a.ext E_14
  have F_size_a := F_size_a.ext E_14
  have F_oldestPlace_a := F_oldestPlace_a.ext E_14
  have E_a := E_a.ext E_14
  have K0 := K0.ext E_14
  have V_bn := V_bn.ext E_14
  have V_bp := V_bp.ext E_14
  have V_x6 : Arv Z h_14 x6 k_x6 .byte (256 : Int32) [] (.int (0 : Int32)) := Arv.new A_14 (by decide)
  refine hst st_14 ?_
  show G (T_14.setTop (mkF m 64 #[.val (.ref a), .val (.int (0 : Int32)), .val (.int (1 : Int32))] [(.ref x6), (.ref a)]))
  obtain ⟨T_15, h_15, X_15, e_15, W_15, st_15⟩ := putF X_14 hx hZ hown (host := "") (Or.inl (own_w25 hw)) Via.refl e_14 F_groups_a E_a (Or.inr ⟨(own_w26 hw), rfl, hnm⟩) (own_w2 hw) (ty := (.array .byte)) (by decide) rfl rfl (g := (mkF m 64 #[.val (.ref a), .val (.int (0 : Int32)), .val (.int (1 : Int32))] [(.ref x6), (.ref a)])) rfl rfl (hb hby d1_64)
  have Z0 := Nat.le_trans Z0 (Keep.of_wr W_15).1
  have Z1 := Nat.le_trans Z1 (Keep.of_wr W_15).1
  have F_numbers_a := F_numbers_a.other W_15 (Or.inr (slot_ne (Or.inr (own_w12 hw)) (Or.inr (own_w26 hw)) (by decide) (t := (.array .int)) (t' := (.array .byte)) (by decide) (by decide)))
  have F_places_a := F_places_a.other W_15 (Or.inr (slot_ne (Or.inr (own_w17 hw)) (Or.inr (own_w26 hw)) (by decide) (t := (.array .long)) (t' := (.array .byte)) (by decide) (by decide)))
  have F_groups_a := F_groups_a.same W_15
  have F_watches_a := F_watches_a.other W_15 (Or.inr (slot_ne (Or.inr (own_w29 hw)) (Or.inr (own_w26 hw)) (by decide) (t := (.array .boolean)) (t' := (.array .byte)) (by decide) (by decide)))
  have F_leastSlack_a := F_leastSlack_a.other W_15 (Or.inr (slot_ne (Or.inl (own_w32 hw)) (Or.inr (own_w26 hw)) (by decide) (t := .long) (t' := (.array .byte)) (by decide) (by decide)))
  have F_oldest_a := F_oldest_a.other W_15 (Or.inr (slot_ne (Or.inl (own_w34 hw)) (Or.inr (own_w26 hw)) (by decide) (t := .int) (t' := (.array .byte)) (by decide) (by decide)))
  have F_leastHandled_a := F_leastHandled_a.other W_15 (Or.inr (slot_ne (Or.inl (own_w36 hw)) (Or.inr (own_w26 hw)) (by decide) (t := .long) (t' := (.array .byte)) (by decide) (by decide)))
  have F_handledPerDoc_a := F_handledPerDoc_a.other W_15 (Or.inr (slot_ne (Or.inl (own_w39 hw)) (Or.inr (own_w26 hw)) (by decide) (t := .long) (t' := (.array .byte)) (by decide) (by decide)))
  have F_heldCountedAt_a := F_heldCountedAt_a.other W_15 (Or.inr (slot_ne (Or.inl (own_w41 hw)) (Or.inr (own_w26 hw)) (by decide) (t := .long) (t' := (.array .byte)) (by decide) (by decide)))
  have F_home_a := F_home_a.other W_15 (Or.inr (slot_ne (Or.inr (own_w43 hw)) (Or.inr (own_w26 hw)) (by decide) (t := .int) (t' := (.array .byte)) (by decide) (by decide)))
  have F_handledIn_a := F_handledIn_a.other W_15 (Or.inr (slot_ne (Or.inr (own_w45 hw)) (Or.inr (own_w26 hw)) (by decide) (t := (.array .int)) (t' := (.array .byte)) (by decide) (by decide)))
  have F_handledPerDocsIn_a := F_handledPerDocsIn_a.other W_15 (Or.inr (slot_ne (Or.inr (own_w47 hw)) (Or.inr (own_w26 hw)) (by decide) (t := (.array .long)) (t' := (.array .byte)) (by decide) (by decide)))
  have F_size_a := F_size_a.other W_15 (Or.inr (slot_ne (Or.inl (own_w51 hw)) (Or.inr (own_w26 hw)) (by decide) (t := .int) (t' := (.array .byte)) (by decide) (by decide)))
  have F_oldestPlace_a := F_oldestPlace_a.other W_15 (Or.inr (slot_ne (Or.inl (own_w55 hw)) (Or.inr (own_w26 hw)) (by decide) (t := .long) (t' := (.array .byte)) (by decide) (by decide)))
  have E_a := E_a.wr W_15
  have K0 := K0.wr W_15 (Or.inl (List.mem_of_getElem? (i := 0) rfl))
  have V_bn := V_bn.other W_15 (Ne.symm ne_a_bn)
  have V_bp := V_bp.other W_15 (Ne.symm ne_a_bp)
  have N_15 := Fr.snoc X_15 N_13 le_n0_a
  refine hst st_15 ?_
  show G (T_15.setTop (mkF m 67 #[.val (.ref a), .val (.int (0 : Int32)), .val (.int (1 : Int32))] []))
  refine hst (fun _ kt => XS.aloadN X_15.here hx rfl (hb hby d1_67) rfl rfl kt) ?_
  show G (T_15.setTop (mkF m 68 #[.val (.ref a), .val (.int (0 : Int32)), .val (.int (1 : Int32))] [(.ref a)]))
  refine hst (fun _ kt => XS.sipush X_15.here hx rfl (hb hby d1_68) kt) ?_
  show G (T_15.setTop (mkF m 71 #[.val (.ref a), .val (.int (0 : Int32)), .val (.int (1 : Int32))] [(.int (256 : Int32)), (.ref a)]))
  obtain ⟨T_16, h_16, k_x7, X_16, e_16, E_16, A_16, st_16⟩ := newP (aty := .boolean) X_15 hx hZ (own_w27 hw) e_15 (g := (mkF m 71 #[.val (.ref a), .val (.int (0 : Int32)), .val (.int (1 : Int32))] [(.int (256 : Int32)), (.ref a)])) rfl (hb hby d1_71) rfl (by decide) (cap := 256) (by decide) (by decide) (by decide) (by decide)
  obtain ⟨x7, g_x7⟩ : ∃ z, z = h_15.size := ⟨_, rfl⟩
  rw [← g_x7] at A_16 st_16
  have ne_a_x7 : a ≠ x7 := Nat.ne_of_lt (Nat.lt_of_lt_of_le F_numbers_a.lt (Nat.le_of_eq g_x7.symm))
  have ne_bn_x7 : bn ≠ x7 := Nat.ne_of_lt (Nat.lt_of_lt_of_le V_bn.lt (Nat.le_of_eq g_x7.symm))
  have ne_bp_x7 : bp ≠ x7 := Nat.ne_of_lt (Nat.lt_of_lt_of_le V_bp.lt (Nat.le_of_eq g_x7.symm))
  have le_n0_x7 : n0 ≤ x7 := Nat.le_trans Z0 (Nat.le_of_eq g_x7.symm)
  have le_hh_x7 : h0.size ≤ x7 := Nat.le_trans Z1 (Nat.le_of_eq g_x7.symm)
  have Z0 := Nat.le_trans Z0 E_16.1
  have Z1 := Nat.le_trans Z1 E_16.1
  have F_numbers_a := F_numbers_a.ext E_16
  have F_places_a := F_places_a.ext E_16
  have F_watches_a := F_watches_a.ext E_16
  have F_leastSlack_a := F_leastSlack_a.ext E_16
  have F_oldest_a := F_oldest_a.ext E_16
  have F_leastHandled_a := F_leastHandled_a.ext E_16
  have F_handledPerDoc_a := F_handledPerDoc_a.ext E_16
  have F_heldCountedAt_a := F_heldCountedAt_a.ext E_16
  have F_home_a := F_home_a.ext E_16
  have F_handledIn_a := F_handledIn_a.ext E_16
  have F_handledPerDocsIn_a := F_handledPerDocsIn_a.ext E_16
  have F_size_a := F_size_a.ext E_16
  have F_oldestPlace_a := F_oldestPlace_a.ext E_16
  have E_a := E_a.ext E_16
  have K0 := K0.ext E_16
  have V_bn := V_bn.ext E_16
  have V_bp := V_bp.ext E_16
  have V_x7 : Arv Z h_16 x7 k_x7 .boolean (256 : Int32) [] (.int (0 : Int32)) := Arv.new A_16 (by decide)
  refine hst st_16 ?_
  show G (T_16.setTop (mkF m 73 #[.val (.ref a), .val (.int (0 : Int32)), .val (.int (1 : Int32))] [(.ref x7), (.ref a)]))
  obtain ⟨T_17, h_17, X_17, e_17, W_17, st_17⟩ := putF X_16 hx hZ hown (host := "") (Or.inl (own_w28 hw)) Via.refl e_16 F_watches_a E_a (Or.inr ⟨(own_w29 hw), rfl, hnm⟩) (own_w2 hw) (ty := (.array .boolean)) (by decide) rfl rfl (g := (mkF m 73 #[.val (.ref a), .val (.int (0 : Int32)), .val (.int (1 : Int32))] [(.ref x7), (.ref a)])) rfl rfl (hb hby d1_73)
  have Z0 := Nat.le_trans Z0 (Keep.of_wr W_17).1
  have Z1 := Nat.le_trans Z1 (Keep.of_wr W_17).1
  have F_numbers_a := F_numbers_a.other W_17 (Or.inr (slot_ne (Or.inr (own_w12 hw)) (Or.inr (own_w29 hw)) (by decide) (t := (.array .int)) (t' := (.array .boolean)) (by decide) (by decide)))
  have F_places_a := F_places_a.other W_17 (Or.inr (slot_ne (Or.inr (own_w17 hw)) (Or.inr (own_w29 hw)) (by decide) (t := (.array .long)) (t' := (.array .boolean)) (by decide) (by decide)))
  have F_watches_a := F_watches_a.same W_17
  have F_leastSlack_a := F_leastSlack_a.other W_17 (Or.inr (slot_ne (Or.inl (own_w32 hw)) (Or.inr (own_w29 hw)) (by decide) (t := .long) (t' := (.array .boolean)) (by decide) (by decide)))
  have F_oldest_a := F_oldest_a.other W_17 (Or.inr (slot_ne (Or.inl (own_w34 hw)) (Or.inr (own_w29 hw)) (by decide) (t := .int) (t' := (.array .boolean)) (by decide) (by decide)))
  have F_leastHandled_a := F_leastHandled_a.other W_17 (Or.inr (slot_ne (Or.inl (own_w36 hw)) (Or.inr (own_w29 hw)) (by decide) (t := .long) (t' := (.array .boolean)) (by decide) (by decide)))
  have F_handledPerDoc_a := F_handledPerDoc_a.other W_17 (Or.inr (slot_ne (Or.inl (own_w39 hw)) (Or.inr (own_w29 hw)) (by decide) (t := .long) (t' := (.array .boolean)) (by decide) (by decide)))
  have F_heldCountedAt_a := F_heldCountedAt_a.other W_17 (Or.inr (slot_ne (Or.inl (own_w41 hw)) (Or.inr (own_w29 hw)) (by decide) (t := .long) (t' := (.array .boolean)) (by decide) (by decide)))
  have F_home_a := F_home_a.other W_17 (Or.inr (slot_ne (Or.inr (own_w43 hw)) (Or.inr (own_w29 hw)) (by decide) (t := .int) (t' := (.array .boolean)) (by decide) (by decide)))
  have F_handledIn_a := F_handledIn_a.other W_17 (Or.inr (slot_ne (Or.inr (own_w45 hw)) (Or.inr (own_w29 hw)) (by decide) (t := (.array .int)) (t' := (.array .boolean)) (by decide) (by decide)))
  have F_handledPerDocsIn_a := F_handledPerDocsIn_a.other W_17 (Or.inr (slot_ne (Or.inr (own_w47 hw)) (Or.inr (own_w29 hw)) (by decide) (t := (.array .long)) (t' := (.array .boolean)) (by decide) (by decide)))
  have F_size_a := F_size_a.other W_17 (Or.inr (slot_ne (Or.inl (own_w51 hw)) (Or.inr (own_w29 hw)) (by decide) (t := .int) (t' := (.array .boolean)) (by decide) (by decide)))
  have F_oldestPlace_a := F_oldestPlace_a.other W_17 (Or.inr (slot_ne (Or.inl (own_w55 hw)) (Or.inr (own_w29 hw)) (by decide) (t := .long) (t' := (.array .boolean)) (by decide) (by decide)))
  have E_a := E_a.wr W_17
  have K0 := K0.wr W_17 (Or.inl (List.mem_of_getElem? (i := 0) rfl))
  have V_bn := V_bn.other W_17 (Ne.symm ne_a_bn)
  have V_bp := V_bp.other W_17 (Ne.symm ne_a_bp)
  have N_17 := Fr.snoc X_17 N_15 le_n0_a
  refine hst st_17 ?_
  show G (T_17.setTop (mkF m 76 #[.val (.ref a), .val (.int (0 : Int32)), .val (.int (1 : Int32))] []))
  refine hst (fun _ kt => XS.aloadN X_17.here hx rfl (hb hby d1_76) rfl rfl kt) ?_
  show G (T_17.setTop (mkF m 77 #[.val (.ref a), .val (.int (0 : Int32)), .val (.int (1 : Int32))] [(.ref a)]))
  refine hst (X_17.ldc2Long hx hown (mvT hZ (own_w30 hw)) (g := (mkF m 77 #[.val (.ref a), .val (.int (0 : Int32)), .val (.int (1 : Int32))] [(.ref a)])) rfl (hb hby d1_77)) ?_
  show G (T_17.setTop (mkF m 80 #[.val (.ref a), .val (.int (0 : Int32)), .val (.int (1 : Int32))] [(.long (9223372036854775807 : Int64)), (.ref a)]))
  obtain ⟨T_18, h_18, X_18, e_18, W_18, st_18⟩ := putF X_17 hx hZ hown (host := "") (Or.inl (own_w31 hw)) Via.refl e_17 F_leastSlack_a E_a (Or.inl (own_w32 hw)) (own_w2 hw) (ty := .long) (by decide) rfl rfl (g := (mkF m 80 #[.val (.ref a), .val (.int (0 : Int32)), .val (.int (1 : Int32))] [(.long (9223372036854775807 : Int64)), (.ref a)])) rfl rfl (hb hby d1_80)
  have Z0 := Nat.le_trans Z0 (Keep.of_wr W_18).1
  have Z1 := Nat.le_trans Z1 (Keep.of_wr W_18).1
  have F_numbers_a := F_numbers_a.other W_18 (Or.inr (slot_ne (Or.inr (own_w12 hw)) (Or.inl (own_w32 hw)) (by decide) (t := (.array .int)) (t' := .long) (by decide) (by decide)))
  have F_places_a := F_places_a.other W_18 (Or.inr (slot_ne (Or.inr (own_w17 hw)) (Or.inl (own_w32 hw)) (by decide) (t := (.array .long)) (t' := .long) (by decide) (by decide)))
  have F_leastSlack_a := F_leastSlack_a.same W_18
  have F_oldest_a := F_oldest_a.other W_18 (Or.inr (slot_ne (Or.inl (own_w34 hw)) (Or.inl (own_w32 hw)) (by decide) (t := .int) (t' := .long) (by decide) (by decide)))
  have F_leastHandled_a := F_leastHandled_a.other W_18 (Or.inr (slot_ne (Or.inl (own_w36 hw)) (Or.inl (own_w32 hw)) (by decide) (t := .long) (t' := .long) (by decide) (by decide)))
  have F_handledPerDoc_a := F_handledPerDoc_a.other W_18 (Or.inr (slot_ne (Or.inl (own_w39 hw)) (Or.inl (own_w32 hw)) (by decide) (t := .long) (t' := .long) (by decide) (by decide)))
  have F_heldCountedAt_a := F_heldCountedAt_a.other W_18 (Or.inr (slot_ne (Or.inl (own_w41 hw)) (Or.inl (own_w32 hw)) (by decide) (t := .long) (t' := .long) (by decide) (by decide)))
  have F_home_a := F_home_a.other W_18 (Or.inr (slot_ne (Or.inr (own_w43 hw)) (Or.inl (own_w32 hw)) (by decide) (t := .int) (t' := .long) (by decide) (by decide)))
  have F_handledIn_a := F_handledIn_a.other W_18 (Or.inr (slot_ne (Or.inr (own_w45 hw)) (Or.inl (own_w32 hw)) (by decide) (t := (.array .int)) (t' := .long) (by decide) (by decide)))
  have F_handledPerDocsIn_a := F_handledPerDocsIn_a.other W_18 (Or.inr (slot_ne (Or.inr (own_w47 hw)) (Or.inl (own_w32 hw)) (by decide) (t := (.array .long)) (t' := .long) (by decide) (by decide)))
  have F_size_a := F_size_a.other W_18 (Or.inr (slot_ne (Or.inl (own_w51 hw)) (Or.inl (own_w32 hw)) (by decide) (t := .int) (t' := .long) (by decide) (by decide)))
  have F_oldestPlace_a := F_oldestPlace_a.other W_18 (Or.inr (slot_ne (Or.inl (own_w55 hw)) (Or.inl (own_w32 hw)) (by decide) (t := .long) (t' := .long) (by decide) (by decide)))
  have E_a := E_a.wr W_18
  have K0 := K0.wr W_18 (Or.inl (List.mem_of_getElem? (i := 0) rfl))
  have V_bn := V_bn.other W_18 (Ne.symm ne_a_bn)
  have V_bp := V_bp.other W_18 (Ne.symm ne_a_bp)
  have N_18 := Fr.snoc X_18 N_17 le_n0_a
  refine hst st_18 ?_
  show G (T_18.setTop (mkF m 83 #[.val (.ref a), .val (.int (0 : Int32)), .val (.int (1 : Int32))] []))
  refine hst (fun _ kt => XS.aloadN X_18.here hx rfl (hb hby d1_83) rfl rfl kt) ?_
  show G (T_18.setTop (mkF m 84 #[.val (.ref a), .val (.int (0 : Int32)), .val (.int (1 : Int32))] [(.ref a)]))
  refine hst (fun _ kt => XS.iconst X_18.here hx rfl (hb hby d1_84) kt) ?_
  show G (T_18.setTop (mkF m 85 #[.val (.ref a), .val (.int (0 : Int32)), .val (.int (1 : Int32))] [(.int (-1 : Int32)), (.ref a)]))
  obtain ⟨T_19, h_19, X_19, e_19, W_19, st_19⟩ := putF X_18 hx hZ hown (host := "") (Or.inl (own_w33 hw)) Via.refl e_18 F_oldest_a E_a (Or.inl (own_w34 hw)) (own_w2 hw) (ty := .int) (by decide) rfl rfl (g := (mkF m 85 #[.val (.ref a), .val (.int (0 : Int32)), .val (.int (1 : Int32))] [(.int (-1 : Int32)), (.ref a)])) rfl rfl (hb hby d1_85)
  have Z0 := Nat.le_trans Z0 (Keep.of_wr W_19).1
  have Z1 := Nat.le_trans Z1 (Keep.of_wr W_19).1
  have F_numbers_a := F_numbers_a.other W_19 (Or.inr (slot_ne (Or.inr (own_w12 hw)) (Or.inl (own_w34 hw)) (by decide) (t := (.array .int)) (t' := .int) (by decide) (by decide)))
  have F_places_a := F_places_a.other W_19 (Or.inr (slot_ne (Or.inr (own_w17 hw)) (Or.inl (own_w34 hw)) (by decide) (t := (.array .long)) (t' := .int) (by decide) (by decide)))
  have F_oldest_a := F_oldest_a.same W_19
  have F_leastHandled_a := F_leastHandled_a.other W_19 (Or.inr (slot_ne (Or.inl (own_w36 hw)) (Or.inl (own_w34 hw)) (by decide) (t := .long) (t' := .int) (by decide) (by decide)))
  have F_handledPerDoc_a := F_handledPerDoc_a.other W_19 (Or.inr (slot_ne (Or.inl (own_w39 hw)) (Or.inl (own_w34 hw)) (by decide) (t := .long) (t' := .int) (by decide) (by decide)))
  have F_heldCountedAt_a := F_heldCountedAt_a.other W_19 (Or.inr (slot_ne (Or.inl (own_w41 hw)) (Or.inl (own_w34 hw)) (by decide) (t := .long) (t' := .int) (by decide) (by decide)))
  have F_home_a := F_home_a.other W_19 (Or.inr (slot_ne (Or.inr (own_w43 hw)) (Or.inl (own_w34 hw)) (by decide) (t := .int) (t' := .int) (by decide) (by decide)))
  have F_handledIn_a := F_handledIn_a.other W_19 (Or.inr (slot_ne (Or.inr (own_w45 hw)) (Or.inl (own_w34 hw)) (by decide) (t := (.array .int)) (t' := .int) (by decide) (by decide)))
  have F_handledPerDocsIn_a := F_handledPerDocsIn_a.other W_19 (Or.inr (slot_ne (Or.inr (own_w47 hw)) (Or.inl (own_w34 hw)) (by decide) (t := (.array .long)) (t' := .int) (by decide) (by decide)))
  have F_size_a := F_size_a.other W_19 (Or.inr (slot_ne (Or.inl (own_w51 hw)) (Or.inl (own_w34 hw)) (by decide) (t := .int) (t' := .int) (by decide) (by decide)))
  have F_oldestPlace_a := F_oldestPlace_a.other W_19 (Or.inr (slot_ne (Or.inl (own_w55 hw)) (Or.inl (own_w34 hw)) (by decide) (t := .long) (t' := .int) (by decide) (by decide)))
  have E_a := E_a.wr W_19
  have K0 := K0.wr W_19 (Or.inl (List.mem_of_getElem? (i := 0) rfl))
  have V_bn := V_bn.other W_19 (Ne.symm ne_a_bn)
  have V_bp := V_bp.other W_19 (Ne.symm ne_a_bp)
  have N_19 := Fr.snoc X_19 N_18 le_n0_a
  refine hst st_19 ?_
  show G (T_19.setTop (mkF m 88 #[.val (.ref a), .val (.int (0 : Int32)), .val (.int (1 : Int32))] []))
  refine hst (fun _ kt => XS.aloadN X_19.here hx rfl (hb hby d1_88) rfl rfl kt) ?_
  show G (T_19.setTop (mkF m 89 #[.val (.ref a), .val (.int (0 : Int32)), .val (.int (1 : Int32))] [(.ref a)]))
  refine hst (X_19.ldc2Long hx hown (mvT hZ (own_w30 hw)) (g := (mkF m 89 #[.val (.ref a), .val (.int (0 : Int32)), .val (.int (1 : Int32))] [(.ref a)])) rfl (hb hby d1_89)) ?_
  show G (T_19.setTop (mkF m 92 #[.val (.ref a), .val (.int (0 : Int32)), .val (.int (1 : Int32))] [(.long (9223372036854775807 : Int64)), (.ref a)]))
  obtain ⟨T_20, h_20, X_20, e_20, W_20, st_20⟩ := putF X_19 hx hZ hown (host := "") (Or.inl (own_w35 hw)) Via.refl e_19 F_leastHandled_a E_a (Or.inl (own_w36 hw)) (own_w2 hw) (ty := .long) (by decide) rfl rfl (g := (mkF m 92 #[.val (.ref a), .val (.int (0 : Int32)), .val (.int (1 : Int32))] [(.long (9223372036854775807 : Int64)), (.ref a)])) rfl rfl (hb hby d1_92)
  have Z0 := Nat.le_trans Z0 (Keep.of_wr W_20).1
  have Z1 := Nat.le_trans Z1 (Keep.of_wr W_20).1
  have F_numbers_a := F_numbers_a.other W_20 (Or.inr (slot_ne (Or.inr (own_w12 hw)) (Or.inl (own_w36 hw)) (by decide) (t := (.array .int)) (t' := .long) (by decide) (by decide)))
  have F_places_a := F_places_a.other W_20 (Or.inr (slot_ne (Or.inr (own_w17 hw)) (Or.inl (own_w36 hw)) (by decide) (t := (.array .long)) (t' := .long) (by decide) (by decide)))
  have F_oldest_a := F_oldest_a.other W_20 (Or.inr (slot_ne (Or.inl (own_w34 hw)) (Or.inl (own_w36 hw)) (by decide) (t := .int) (t' := .long) (by decide) (by decide)))
  have F_leastHandled_a := F_leastHandled_a.same W_20
  have F_handledPerDoc_a := F_handledPerDoc_a.other W_20 (Or.inr (slot_ne (Or.inl (own_w39 hw)) (Or.inl (own_w36 hw)) (by decide) (t := .long) (t' := .long) (by decide) (by decide)))
  have F_heldCountedAt_a := F_heldCountedAt_a.other W_20 (Or.inr (slot_ne (Or.inl (own_w41 hw)) (Or.inl (own_w36 hw)) (by decide) (t := .long) (t' := .long) (by decide) (by decide)))
  have F_home_a := F_home_a.other W_20 (Or.inr (slot_ne (Or.inr (own_w43 hw)) (Or.inl (own_w36 hw)) (by decide) (t := .int) (t' := .long) (by decide) (by decide)))
  have F_handledIn_a := F_handledIn_a.other W_20 (Or.inr (slot_ne (Or.inr (own_w45 hw)) (Or.inl (own_w36 hw)) (by decide) (t := (.array .int)) (t' := .long) (by decide) (by decide)))
  have F_handledPerDocsIn_a := F_handledPerDocsIn_a.other W_20 (Or.inr (slot_ne (Or.inr (own_w47 hw)) (Or.inl (own_w36 hw)) (by decide) (t := (.array .long)) (t' := .long) (by decide) (by decide)))
  have F_size_a := F_size_a.other W_20 (Or.inr (slot_ne (Or.inl (own_w51 hw)) (Or.inl (own_w36 hw)) (by decide) (t := .int) (t' := .long) (by decide) (by decide)))
  have F_oldestPlace_a := F_oldestPlace_a.other W_20 (Or.inr (slot_ne (Or.inl (own_w55 hw)) (Or.inl (own_w36 hw)) (by decide) (t := .long) (t' := .long) (by decide) (by decide)))
  have E_a := E_a.wr W_20
  have K0 := K0.wr W_20 (Or.inl (List.mem_of_getElem? (i := 0) rfl))
  have V_bn := V_bn.other W_20 (Ne.symm ne_a_bn)
  have V_bp := V_bp.other W_20 (Ne.symm ne_a_bp)
  have N_20 := Fr.snoc X_20 N_19 le_n0_a
  refine hst st_20 ?_
  show G (T_20.setTop (mkF m 95 #[.val (.ref a), .val (.int (0 : Int32)), .val (.int (1 : Int32))] []))
  refine hst (fun _ kt => XS.aloadN X_20.here hx rfl (hb hby d1_95) rfl rfl kt) ?_
  show G (T_20.setTop (mkF m 96 #[.val (.ref a), .val (.int (0 : Int32)), .val (.int (1 : Int32))] [(.ref a)]))
  refine hst (X_20.ldc2Long hx hown (mvT hZ (own_w37 hw)) (g := (mkF m 96 #[.val (.ref a), .val (.int (0 : Int32)), .val (.int (1 : Int32))] [(.ref a)])) rfl (hb hby d1_96)) ?_
  show G (T_20.setTop (mkF m 99 #[.val (.ref a), .val (.int (0 : Int32)), .val (.int (1 : Int32))] [(.long (-1 : Int64)), (.ref a)]))
  obtain ⟨T_21, h_21, X_21, e_21, W_21, st_21⟩ := putF X_20 hx hZ hown (host := "") (Or.inl (own_w38 hw)) Via.refl e_20 F_handledPerDoc_a E_a (Or.inl (own_w39 hw)) (own_w2 hw) (ty := .long) (by decide) rfl rfl (g := (mkF m 99 #[.val (.ref a), .val (.int (0 : Int32)), .val (.int (1 : Int32))] [(.long (-1 : Int64)), (.ref a)])) rfl rfl (hb hby d1_99)
  have Z0 := Nat.le_trans Z0 (Keep.of_wr W_21).1
  have Z1 := Nat.le_trans Z1 (Keep.of_wr W_21).1
  have F_numbers_a := F_numbers_a.other W_21 (Or.inr (slot_ne (Or.inr (own_w12 hw)) (Or.inl (own_w39 hw)) (by decide) (t := (.array .int)) (t' := .long) (by decide) (by decide)))
  have F_places_a := F_places_a.other W_21 (Or.inr (slot_ne (Or.inr (own_w17 hw)) (Or.inl (own_w39 hw)) (by decide) (t := (.array .long)) (t' := .long) (by decide) (by decide)))
  have F_oldest_a := F_oldest_a.other W_21 (Or.inr (slot_ne (Or.inl (own_w34 hw)) (Or.inl (own_w39 hw)) (by decide) (t := .int) (t' := .long) (by decide) (by decide)))
  have F_handledPerDoc_a := F_handledPerDoc_a.same W_21
  have F_heldCountedAt_a := F_heldCountedAt_a.other W_21 (Or.inr (slot_ne (Or.inl (own_w41 hw)) (Or.inl (own_w39 hw)) (by decide) (t := .long) (t' := .long) (by decide) (by decide)))
  have F_home_a := F_home_a.other W_21 (Or.inr (slot_ne (Or.inr (own_w43 hw)) (Or.inl (own_w39 hw)) (by decide) (t := .int) (t' := .long) (by decide) (by decide)))
  have F_handledIn_a := F_handledIn_a.other W_21 (Or.inr (slot_ne (Or.inr (own_w45 hw)) (Or.inl (own_w39 hw)) (by decide) (t := (.array .int)) (t' := .long) (by decide) (by decide)))
  have F_handledPerDocsIn_a := F_handledPerDocsIn_a.other W_21 (Or.inr (slot_ne (Or.inr (own_w47 hw)) (Or.inl (own_w39 hw)) (by decide) (t := (.array .long)) (t' := .long) (by decide) (by decide)))
  have F_size_a := F_size_a.other W_21 (Or.inr (slot_ne (Or.inl (own_w51 hw)) (Or.inl (own_w39 hw)) (by decide) (t := .int) (t' := .long) (by decide) (by decide)))
  have F_oldestPlace_a := F_oldestPlace_a.other W_21 (Or.inr (slot_ne (Or.inl (own_w55 hw)) (Or.inl (own_w39 hw)) (by decide) (t := .long) (t' := .long) (by decide) (by decide)))
  have E_a := E_a.wr W_21
  have K0 := K0.wr W_21 (Or.inl (List.mem_of_getElem? (i := 0) rfl))
  have V_bn := V_bn.other W_21 (Ne.symm ne_a_bn)
  have V_bp := V_bp.other W_21 (Ne.symm ne_a_bp)
  have N_21 := Fr.snoc X_21 N_20 le_n0_a
  refine hst st_21 ?_
  show G (T_21.setTop (mkF m 102 #[.val (.ref a), .val (.int (0 : Int32)), .val (.int (1 : Int32))] []))
  refine hst (fun _ kt => XS.aloadN X_21.here hx rfl (hb hby d1_102) rfl rfl kt) ?_
  show G (T_21.setTop (mkF m 103 #[.val (.ref a), .val (.int (0 : Int32)), .val (.int (1 : Int32))] [(.ref a)]))
  refine hst (X_21.ldc2Long hx hown (mvT hZ (own_w37 hw)) (g := (mkF m 103 #[.val (.ref a), .val (.int (0 : Int32)), .val (.int (1 : Int32))] [(.ref a)])) rfl (hb hby d1_103)) ?_
  show G (T_21.setTop (mkF m 106 #[.val (.ref a), .val (.int (0 : Int32)), .val (.int (1 : Int32))] [(.long (-1 : Int64)), (.ref a)]))
  obtain ⟨T_22, h_22, X_22, e_22, W_22, st_22⟩ := putF X_21 hx hZ hown (host := "") (Or.inl (own_w40 hw)) Via.refl e_21 F_heldCountedAt_a E_a (Or.inl (own_w41 hw)) (own_w2 hw) (ty := .long) (by decide) rfl rfl (g := (mkF m 106 #[.val (.ref a), .val (.int (0 : Int32)), .val (.int (1 : Int32))] [(.long (-1 : Int64)), (.ref a)])) rfl rfl (hb hby d1_106)
  have Z0 := Nat.le_trans Z0 (Keep.of_wr W_22).1
  have Z1 := Nat.le_trans Z1 (Keep.of_wr W_22).1
  have F_numbers_a := F_numbers_a.other W_22 (Or.inr (slot_ne (Or.inr (own_w12 hw)) (Or.inl (own_w41 hw)) (by decide) (t := (.array .int)) (t' := .long) (by decide) (by decide)))
  have F_places_a := F_places_a.other W_22 (Or.inr (slot_ne (Or.inr (own_w17 hw)) (Or.inl (own_w41 hw)) (by decide) (t := (.array .long)) (t' := .long) (by decide) (by decide)))
  have F_oldest_a := F_oldest_a.other W_22 (Or.inr (slot_ne (Or.inl (own_w34 hw)) (Or.inl (own_w41 hw)) (by decide) (t := .int) (t' := .long) (by decide) (by decide)))
  have F_heldCountedAt_a := F_heldCountedAt_a.same W_22
  have F_home_a := F_home_a.other W_22 (Or.inr (slot_ne (Or.inr (own_w43 hw)) (Or.inl (own_w41 hw)) (by decide) (t := .int) (t' := .long) (by decide) (by decide)))
  have F_handledIn_a := F_handledIn_a.other W_22 (Or.inr (slot_ne (Or.inr (own_w45 hw)) (Or.inl (own_w41 hw)) (by decide) (t := (.array .int)) (t' := .long) (by decide) (by decide)))
  have F_handledPerDocsIn_a := F_handledPerDocsIn_a.other W_22 (Or.inr (slot_ne (Or.inr (own_w47 hw)) (Or.inl (own_w41 hw)) (by decide) (t := (.array .long)) (t' := .long) (by decide) (by decide)))
  have F_size_a := F_size_a.other W_22 (Or.inr (slot_ne (Or.inl (own_w51 hw)) (Or.inl (own_w41 hw)) (by decide) (t := .int) (t' := .long) (by decide) (by decide)))
  have F_oldestPlace_a := F_oldestPlace_a.other W_22 (Or.inr (slot_ne (Or.inl (own_w55 hw)) (Or.inl (own_w41 hw)) (by decide) (t := .long) (t' := .long) (by decide) (by decide)))
  have E_a := E_a.wr W_22
  have K0 := K0.wr W_22 (Or.inl (List.mem_of_getElem? (i := 0) rfl))
  have V_bn := V_bn.other W_22 (Ne.symm ne_a_bn)
  have V_bp := V_bp.other W_22 (Ne.symm ne_a_bp)
  have N_22 := Fr.snoc X_22 N_21 le_n0_a
  refine hst st_22 ?_
  show G (T_22.setTop (mkF m 109 #[.val (.ref a), .val (.int (0 : Int32)), .val (.int (1 : Int32))] []))
  refine hst (fun _ kt => XS.aloadN X_22.here hx rfl (hb hby d1_109) rfl rfl kt) ?_
  show G (T_22.setTop (mkF m 110 #[.val (.ref a), .val (.int (0 : Int32)), .val (.int (1 : Int32))] [(.ref a)]))
  refine hst (fun _ kt => XS.iloadN X_22.here hx rfl (hb hby d1_110) rfl kt) ?_
  show G (T_22.setTop (mkF m 111 #[.val (.ref a), .val (.int (0 : Int32)), .val (.int (1 : Int32))] [(.int (0 : Int32)), (.ref a)]))
  obtain ⟨T_23, h_23, X_23, e_23, W_23, st_23⟩ := putF X_22 hx hZ hown (host := "") (Or.inl (own_w42 hw)) Via.refl e_22 F_home_a E_a (Or.inr ⟨(own_w43 hw), rfl, hnm⟩) (own_w2 hw) (ty := .int) (by decide) rfl rfl (g := (mkF m 111 #[.val (.ref a), .val (.int (0 : Int32)), .val (.int (1 : Int32))] [(.int (0 : Int32)), (.ref a)])) rfl rfl (hb hby d1_111)
  have Z0 := Nat.le_trans Z0 (Keep.of_wr W_23).1
  have Z1 := Nat.le_trans Z1 (Keep.of_wr W_23).1
  have F_numbers_a := F_numbers_a.other W_23 (Or.inr (slot_ne (Or.inr (own_w12 hw)) (Or.inr (own_w43 hw)) (by decide) (t := (.array .int)) (t' := .int) (by decide) (by decide)))
  have F_places_a := F_places_a.other W_23 (Or.inr (slot_ne (Or.inr (own_w17 hw)) (Or.inr (own_w43 hw)) (by decide) (t := (.array .long)) (t' := .int) (by decide) (by decide)))
  have F_oldest_a := F_oldest_a.other W_23 (Or.inr (slot_ne (Or.inl (own_w34 hw)) (Or.inr (own_w43 hw)) (by decide) (t := .int) (t' := .int) (by decide) (by decide)))
  have F_home_a := F_home_a.same W_23
  have F_handledIn_a := F_handledIn_a.other W_23 (Or.inr (slot_ne (Or.inr (own_w45 hw)) (Or.inr (own_w43 hw)) (by decide) (t := (.array .int)) (t' := .int) (by decide) (by decide)))
  have F_handledPerDocsIn_a := F_handledPerDocsIn_a.other W_23 (Or.inr (slot_ne (Or.inr (own_w47 hw)) (Or.inr (own_w43 hw)) (by decide) (t := (.array .long)) (t' := .int) (by decide) (by decide)))
  have F_size_a := F_size_a.other W_23 (Or.inr (slot_ne (Or.inl (own_w51 hw)) (Or.inr (own_w43 hw)) (by decide) (t := .int) (t' := .int) (by decide) (by decide)))
  have F_oldestPlace_a := F_oldestPlace_a.other W_23 (Or.inr (slot_ne (Or.inl (own_w55 hw)) (Or.inr (own_w43 hw)) (by decide) (t := .long) (t' := .int) (by decide) (by decide)))
  have E_a := E_a.wr W_23
  have K0 := K0.wr W_23 (Or.inl (List.mem_of_getElem? (i := 0) rfl))
  have V_bn := V_bn.other W_23 (Ne.symm ne_a_bn)
  have V_bp := V_bp.other W_23 (Ne.symm ne_a_bp)
  have N_23 := Fr.snoc X_23 N_22 le_n0_a
  refine hst st_23 ?_
  show G (T_23.setTop (mkF m 114 #[.val (.ref a), .val (.int (0 : Int32)), .val (.int (1 : Int32))] []))
  refine hst (fun _ kt => XS.aloadN X_23.here hx rfl (hb hby d1_114) rfl rfl kt) ?_
  show G (T_23.setTop (mkF m 115 #[.val (.ref a), .val (.int (0 : Int32)), .val (.int (1 : Int32))] [(.ref a)]))
  refine hst (fun _ kt => XS.iloadN X_23.here hx rfl (hb hby d1_115) rfl kt) ?_
  show G (T_23.setTop (mkF m 116 #[.val (.ref a), .val (.int (0 : Int32)), .val (.int (1 : Int32))] [(.int (1 : Int32)), (.ref a)]))
  obtain ⟨T_24, h_24, k_x8, X_24, e_24, E_24, A_24, st_24⟩ := newP (aty := .int) X_23 hx hZ (own_w10 hw) e_23 (g := (mkF m 116 #[.val (.ref a), .val (.int (0 : Int32)), .val (.int (1 : Int32))] [(.int (1 : Int32)), (.ref a)])) rfl (hb hby d1_116) rfl (by decide) (cap := 1) (by decide) (by decide) (by decide) (by decide)
  obtain ⟨x8, g_x8⟩ : ∃ z, z = h_23.size := ⟨_, rfl⟩
  rw [← g_x8] at A_24 st_24
  have ne_a_x8 : a ≠ x8 := Nat.ne_of_lt (Nat.lt_of_lt_of_le F_numbers_a.lt (Nat.le_of_eq g_x8.symm))
  have ne_bn_x8 : bn ≠ x8 := Nat.ne_of_lt (Nat.lt_of_lt_of_le V_bn.lt (Nat.le_of_eq g_x8.symm))
  have ne_bp_x8 : bp ≠ x8 := Nat.ne_of_lt (Nat.lt_of_lt_of_le V_bp.lt (Nat.le_of_eq g_x8.symm))
  have le_n0_x8 : n0 ≤ x8 := Nat.le_trans Z0 (Nat.le_of_eq g_x8.symm)
  have le_hh_x8 : h0.size ≤ x8 := Nat.le_trans Z1 (Nat.le_of_eq g_x8.symm)
  have Z0 := Nat.le_trans Z0 E_24.1
  have Z1 := Nat.le_trans Z1 E_24.1
  have F_numbers_a := F_numbers_a.ext E_24
  have F_places_a := F_places_a.ext E_24
  have F_oldest_a := F_oldest_a.ext E_24
  have F_handledIn_a := F_handledIn_a.ext E_24
  have F_handledPerDocsIn_a := F_handledPerDocsIn_a.ext E_24
  have F_size_a := F_size_a.ext E_24
  have F_oldestPlace_a := F_oldestPlace_a.ext E_24
  have E_a := E_a.ext E_24
  have K0 := K0.ext E_24
  have V_bn := V_bn.ext E_24
  have V_bp := V_bp.ext E_24
  have V_x8 : Arv Z h_24 x8 k_x8 .int (1 : Int32) [(.int (0 : Int32))] (.int (0 : Int32)) := (Arv.new A_24 (by decide)).pad (pad_rep [] (.int (0 : Int32)) 1)
  refine hst st_24 ?_
  show G (T_24.setTop (mkF m 118 #[.val (.ref a), .val (.int (0 : Int32)), .val (.int (1 : Int32))] [(.ref x8), (.ref a)]))
  obtain ⟨T_25, h_25, X_25, e_25, W_25, st_25⟩ := putF X_24 hx hZ hown (host := "") (Or.inl (own_w44 hw)) Via.refl e_24 F_handledIn_a E_a (Or.inr ⟨(own_w45 hw), rfl, hnm⟩) (own_w2 hw) (ty := (.array .int)) (by decide) rfl rfl (g := (mkF m 118 #[.val (.ref a), .val (.int (0 : Int32)), .val (.int (1 : Int32))] [(.ref x8), (.ref a)])) rfl rfl (hb hby d1_118)
  have Z0 := Nat.le_trans Z0 (Keep.of_wr W_25).1
  have Z1 := Nat.le_trans Z1 (Keep.of_wr W_25).1
  have F_numbers_a := F_numbers_a.other W_25 (Or.inr (slot_ne (Or.inr (own_w12 hw)) (Or.inr (own_w45 hw)) (by decide) (t := (.array .int)) (t' := (.array .int)) (by decide) (by decide)))
  have F_places_a := F_places_a.other W_25 (Or.inr (slot_ne (Or.inr (own_w17 hw)) (Or.inr (own_w45 hw)) (by decide) (t := (.array .long)) (t' := (.array .int)) (by decide) (by decide)))
  have F_oldest_a := F_oldest_a.other W_25 (Or.inr (slot_ne (Or.inl (own_w34 hw)) (Or.inr (own_w45 hw)) (by decide) (t := .int) (t' := (.array .int)) (by decide) (by decide)))
  have F_handledIn_a := F_handledIn_a.same W_25
  have F_handledPerDocsIn_a := F_handledPerDocsIn_a.other W_25 (Or.inr (slot_ne (Or.inr (own_w47 hw)) (Or.inr (own_w45 hw)) (by decide) (t := (.array .long)) (t' := (.array .int)) (by decide) (by decide)))
  have F_size_a := F_size_a.other W_25 (Or.inr (slot_ne (Or.inl (own_w51 hw)) (Or.inr (own_w45 hw)) (by decide) (t := .int) (t' := (.array .int)) (by decide) (by decide)))
  have F_oldestPlace_a := F_oldestPlace_a.other W_25 (Or.inr (slot_ne (Or.inl (own_w55 hw)) (Or.inr (own_w45 hw)) (by decide) (t := .long) (t' := (.array .int)) (by decide) (by decide)))
  have E_a := E_a.wr W_25
  have K0 := K0.wr W_25 (Or.inl (List.mem_of_getElem? (i := 0) rfl))
  have V_bn := V_bn.other W_25 (Ne.symm ne_a_bn)
  have V_bp := V_bp.other W_25 (Ne.symm ne_a_bp)
  have N_25 := Fr.snoc X_25 N_23 le_n0_a
  refine hst st_25 ?_
  show G (T_25.setTop (mkF m 121 #[.val (.ref a), .val (.int (0 : Int32)), .val (.int (1 : Int32))] []))
  refine hst (fun _ kt => XS.aloadN X_25.here hx rfl (hb hby d1_121) rfl rfl kt) ?_
  show G (T_25.setTop (mkF m 122 #[.val (.ref a), .val (.int (0 : Int32)), .val (.int (1 : Int32))] [(.ref a)]))
  refine hst (fun _ kt => XS.iloadN X_25.here hx rfl (hb hby d1_122) rfl kt) ?_
  show G (T_25.setTop (mkF m 123 #[.val (.ref a), .val (.int (0 : Int32)), .val (.int (1 : Int32))] [(.int (1 : Int32)), (.ref a)]))
  obtain ⟨T_26, h_26, k_x9, X_26, e_26, E_26, A_26, st_26⟩ := newP (aty := .long) X_25 hx hZ (own_w13 hw) e_25 (g := (mkF m 123 #[.val (.ref a), .val (.int (0 : Int32)), .val (.int (1 : Int32))] [(.int (1 : Int32)), (.ref a)])) rfl (hb hby d1_123) rfl (by decide) (cap := 1) (by decide) (by decide) (by decide) (by decide)
  obtain ⟨x9, g_x9⟩ : ∃ z, z = h_25.size := ⟨_, rfl⟩
  rw [← g_x9] at A_26 st_26
  have ne_a_x9 : a ≠ x9 := Nat.ne_of_lt (Nat.lt_of_lt_of_le F_numbers_a.lt (Nat.le_of_eq g_x9.symm))
  have ne_bn_x9 : bn ≠ x9 := Nat.ne_of_lt (Nat.lt_of_lt_of_le V_bn.lt (Nat.le_of_eq g_x9.symm))
  have ne_bp_x9 : bp ≠ x9 := Nat.ne_of_lt (Nat.lt_of_lt_of_le V_bp.lt (Nat.le_of_eq g_x9.symm))
  have le_n0_x9 : n0 ≤ x9 := Nat.le_trans Z0 (Nat.le_of_eq g_x9.symm)
  have le_hh_x9 : h0.size ≤ x9 := Nat.le_trans Z1 (Nat.le_of_eq g_x9.symm)
  have Z0 := Nat.le_trans Z0 E_26.1
  have Z1 := Nat.le_trans Z1 E_26.1
  have F_numbers_a := F_numbers_a.ext E_26
  have F_places_a := F_places_a.ext E_26
  have F_oldest_a := F_oldest_a.ext E_26
  have F_handledPerDocsIn_a := F_handledPerDocsIn_a.ext E_26
  have F_size_a := F_size_a.ext E_26
  have F_oldestPlace_a := F_oldestPlace_a.ext E_26
  have E_a := E_a.ext E_26
  have K0 := K0.ext E_26
  have V_bn := V_bn.ext E_26
  have V_bp := V_bp.ext E_26
  have V_x9 : Arv Z h_26 x9 k_x9 .long (1 : Int32) [(.long (0 : Int64))] (.long (0 : Int64)) := (Arv.new A_26 (by decide)).pad (pad_rep [] (.long (0 : Int64)) 1)
  refine hst st_26 ?_
  show G (T_26.setTop (mkF m 125 #[.val (.ref a), .val (.int (0 : Int32)), .val (.int (1 : Int32))] [(.ref x9), (.ref a)]))
  obtain ⟨T_27, h_27, X_27, e_27, W_27, st_27⟩ := putF X_26 hx hZ hown (host := "") (Or.inl (own_w46 hw)) Via.refl e_26 F_handledPerDocsIn_a E_a (Or.inr ⟨(own_w47 hw), rfl, hnm⟩) (own_w2 hw) (ty := (.array .long)) (by decide) rfl rfl (g := (mkF m 125 #[.val (.ref a), .val (.int (0 : Int32)), .val (.int (1 : Int32))] [(.ref x9), (.ref a)])) rfl rfl (hb hby d1_125)
  have Z0 := Nat.le_trans Z0 (Keep.of_wr W_27).1
  have Z1 := Nat.le_trans Z1 (Keep.of_wr W_27).1
  have F_numbers_a := F_numbers_a.other W_27 (Or.inr (slot_ne (Or.inr (own_w12 hw)) (Or.inr (own_w47 hw)) (by decide) (t := (.array .int)) (t' := (.array .long)) (by decide) (by decide)))
  have F_places_a := F_places_a.other W_27 (Or.inr (slot_ne (Or.inr (own_w17 hw)) (Or.inr (own_w47 hw)) (by decide) (t := (.array .long)) (t' := (.array .long)) (by decide) (by decide)))
  have F_oldest_a := F_oldest_a.other W_27 (Or.inr (slot_ne (Or.inl (own_w34 hw)) (Or.inr (own_w47 hw)) (by decide) (t := .int) (t' := (.array .long)) (by decide) (by decide)))
  have F_handledPerDocsIn_a := F_handledPerDocsIn_a.same W_27
  have F_size_a := F_size_a.other W_27 (Or.inr (slot_ne (Or.inl (own_w51 hw)) (Or.inr (own_w47 hw)) (by decide) (t := .int) (t' := (.array .long)) (by decide) (by decide)))
  have F_oldestPlace_a := F_oldestPlace_a.other W_27 (Or.inr (slot_ne (Or.inl (own_w55 hw)) (Or.inr (own_w47 hw)) (by decide) (t := .long) (t' := (.array .long)) (by decide) (by decide)))
  have E_a := E_a.wr W_27
  have K0 := K0.wr W_27 (Or.inl (List.mem_of_getElem? (i := 0) rfl))
  have V_bn := V_bn.other W_27 (Ne.symm ne_a_bn)
  have V_bp := V_bp.other W_27 (Ne.symm ne_a_bp)
  have N_27 := Fr.snoc X_27 N_25 le_n0_a
  refine hst st_27 ?_
  show G (T_27.setTop (mkF m 128 #[.val (.ref a), .val (.int (0 : Int32)), .val (.int (1 : Int32))] []))
  exact hend (own_goVoid X_27 hx Bd.returns (hb hby d1_128) Bd.notSynchronized (by rw [e_27]; exact ⟨rfl, N_27, K0, E_a, bn, bp, k_bn, k_bp, le_hh_bn, le_hh_bp, ne_bn_bp, F_numbers_a, F_places_a, F_size_a, F_oldest_a, F_oldestPlace_a, V_bn, V_bp⟩) (by decide) (by decide))
theorem d2_0 : decode prog_101_method_17_code 0 = .ok (.aload_n 0, 1) := by decide +kernel
theorem d2_1 : decode prog_101_method_17_code 1 = .ok (.iconst (-1), 1) := by decide +kernel
theorem d2_2 : decode prog_101_method_17_code 2 = .ok (.putfield 333, 3) := by decide +kernel
theorem d2_5 : decode prog_101_method_17_code 5 = .ok (.iconst 0, 1) := by decide +kernel
theorem d2_6 : decode prog_101_method_17_code 6 = .ok (.istore_n 1, 1) := by decide +kernel
theorem d2_7 : decode prog_101_method_17_code 7 = .ok (.iload_n 1, 1) := by decide +kernel
theorem d2_8 : decode prog_101_method_17_code 8 = .ok (.aload_n 0, 1) := by decide +kernel
theorem d2_9 : decode prog_101_method_17_code 9 = .ok (.getfield 119, 3) := by decide +kernel
theorem d2_12 : decode prog_101_method_17_code 12 = .ok (.if_icmp .ge 61, 3) := by decide +kernel
theorem d2_15 : decode prog_101_method_17_code 15 = .ok (.aload_n 0, 1) := by decide +kernel
theorem d2_16 : decode prog_101_method_17_code 16 = .ok (.getfield 169, 3) := by decide +kernel
theorem d2_19 : decode prog_101_method_17_code 19 = .ok (.iload_n 1, 1) := by decide +kernel
theorem d2_20 : decode prog_101_method_17_code 20 = .ok (.iaload, 1) := by decide +kernel
theorem d2_21 : decode prog_101_method_17_code 21 = .ok (.iconst (-1), 1) := by decide +kernel
theorem d2_22 : decode prog_101_method_17_code 22 = .ok (.if_icmp .eq 45, 3) := by decide +kernel
theorem d2_25 : decode prog_101_method_17_code 25 = .ok (.aload_n 0, 1) := by decide +kernel
theorem d2_26 : decode prog_101_method_17_code 26 = .ok (.getfield 333, 3) := by decide +kernel
theorem d2_29 : decode prog_101_method_17_code 29 = .ok (.iconst (-1), 1) := by decide +kernel
theorem d2_30 : decode prog_101_method_17_code 30 = .ok (.if_icmp .eq 17, 3) := by decide +kernel
theorem d2_33 : decode prog_101_method_17_code 33 = .ok (.aload_n 0, 1) := by decide +kernel
theorem d2_34 : decode prog_101_method_17_code 34 = .ok (.getfield 187, 3) := by decide +kernel
theorem d2_37 : decode prog_101_method_17_code 37 = .ok (.iload_n 1, 1) := by decide +kernel
theorem d2_38 : decode prog_101_method_17_code 38 = .ok (.laload, 1) := by decide +kernel
theorem d2_39 : decode prog_101_method_17_code 39 = .ok (.aload_n 0, 1) := by decide +kernel
theorem d2_40 : decode prog_101_method_17_code 40 = .ok (.getfield 336, 3) := by decide +kernel
theorem d2_43 : decode prog_101_method_17_code 43 = .ok (.lcmp, 1) := by decide +kernel
theorem d2_44 : decode prog_101_method_17_code 44 = .ok (.ifCond .ge 23, 3) := by decide +kernel
theorem d2_47 : decode prog_101_method_17_code 47 = .ok (.aload_n 0, 1) := by decide +kernel
theorem d2_48 : decode prog_101_method_17_code 48 = .ok (.aload_n 0, 1) := by decide +kernel
theorem d2_49 : decode prog_101_method_17_code 49 = .ok (.getfield 169, 3) := by decide +kernel
theorem d2_52 : decode prog_101_method_17_code 52 = .ok (.iload_n 1, 1) := by decide +kernel
theorem d2_53 : decode prog_101_method_17_code 53 = .ok (.iaload, 1) := by decide +kernel
theorem d2_54 : decode prog_101_method_17_code 54 = .ok (.putfield 333, 3) := by decide +kernel
theorem d2_57 : decode prog_101_method_17_code 57 = .ok (.aload_n 0, 1) := by decide +kernel
theorem d2_58 : decode prog_101_method_17_code 58 = .ok (.aload_n 0, 1) := by decide +kernel
theorem d2_59 : decode prog_101_method_17_code 59 = .ok (.getfield 187, 3) := by decide +kernel
theorem d2_62 : decode prog_101_method_17_code 62 = .ok (.iload_n 1, 1) := by decide +kernel
theorem d2_63 : decode prog_101_method_17_code 63 = .ok (.laload, 1) := by decide +kernel
theorem d2_64 : decode prog_101_method_17_code 64 = .ok (.putfield 336, 3) := by decide +kernel
theorem d2_67 : decode prog_101_method_17_code 67 = .ok (.iinc 1 1, 3) := by decide +kernel
theorem d2_70 : decode prog_101_method_17_code 70 = .ok (.goto (-63), 3) := by decide +kernel
theorem d2_73 : decode prog_101_method_17_code 73 = .ok (.return_, 1) := by decide +kernel
theorem ef_2 (m : MethodId) (a : Addr) : entryFrame m #[(.ref a)] 2 = mkF m 0 #[.val (.ref a), .unset] [] := by first | (simp [entryFrame, mkF, argsToLocals, Value.category]; done) | rfl
theorem pn_2 : plainName own_S = true := by first | decide +kernel | (simp [plainName, overriddenIn]; done)
set_option maxRecDepth 65536 in
set_option maxHeartbeats 40000000 in
theorem rm2 (l : Launch) (Z : State) (a0 : Array Value) (hw : ∀ d ∈ tables_1, d.before a0 Z = true) (ws : List Jvm.Cond) (a : Addr) (bn : Addr) (bp : Addr) (kn : ClassId) (kp : ClassId) (m0 : Int32) (m1 : Int32) (m2 : Int32) (r0 : Int64) (r1 : Int64) (r2 : Int64) (sz : Int32) (u : Int32) (uq : Int64) (h0 : Heap) (n0 : Nat) (Z0 : n0 ≤ h0.size) (hsz : ¬ (3 : Int32) < sz) (E_a : Exa Z h0 a own_B) (F_numbers_a : Fld Z h0 a own_B "numbers" "[I" (.ref bn)) (F_places_a : Fld Z h0 a own_B "places" "[J" (.ref bp)) (F_size_a : Fld Z h0 a own_B "size" "I" (.int sz)) (F_oldest_a : Fld Z h0 a own_B "oldest" "I" (.int u)) (F_oldestPlace_a : Fld Z h0 a own_B "oldestPlace" "J" (.long uq)) (V_bn : Arv Z h0 bn kn .int (256 : Int32) [(.int m0), (.int m1), (.int m2)] (.int (0 : Int32))) (V_bp : Arv Z h0 bp kp .long (256 : Int32) [(.long r0), (.long r1), (.long r2)] (.long (0 : Int64))) (le_n0_a : n0 ≤ a) (ne_a_bn : a ≠ bn) (ne_a_bp : a ≠ bp) :
    MetFree l (⟨own_S, "findOldest", "(Lcom/example/tierfold/tierfold/simulation/SlotOrder$Block;)V"⟩ : MethodName) (head1 (Jvm.Cond.code (⟨own_S, "findOldest", "(Lcom/example/tierfold/tierfold/simulation/SlotOrder$Block;)V"⟩ : MethodName) prog_101_method_17_code 2 none :: ws) ({ frames := 0, cells := 0, slots := 0, locals := 0 } : Room)) (fun a_ U_ => a_ = #[(.ref a)] ∧ Z.Warmed39 U_.vm ∧ U_.heap = h0) (fun _ _ _ _ _ => True) (fun _ U_ o_ W_ => ∃ v_ L_, o_ = .returned v_ ∧ own_Qf Z a (own_f0 sz m0 r0 m1 r1 m2 r2 ((-1 : Int32), uq)) h0 n0 v_ W_.heap L_ ∧ FrameEnd U_ o_ W_ L_ ({ frames := 0, cells := 0, slots := 0, locals := 0 } : Room).cells ({ frames := 0, cells := 0, slots := 0, locals := 0 } : Room).slots) := by
  refine MetFree.of_bodySF (plainFor_of_name pn_2) hisR ?_
  intro p e s m args below meth c s₁ Bd hml0 hP hK
  obtain ⟨rfl, hZ, hh⟩ := hP
  have hx := Bd.exec
  have hby := Bd.bytes
  have hml : c.maxLocals = 2 := hml0
  have hown : s.vm.findClass own_S = some m.cls := by have z := findClass_of_methodNamed Bd.named; exact z
  have hnm := (name_of_methodNamed Bd.named Bd.method).1
  have X0 : Stand p l e ({ frames := 0, cells := 0, slots := 0, locals := 0 } : Room) s m #[(.ref a)] below meth c s₁ [] 0 0 := Stand.of_body Bd
  have e0 : s₁.heap = h0 := by rw [← hh, Bd.state]; rfl
  have N0 := Fr.nil n0
  obtain ⟨G, hG, hst, hend⟩ := own_abs p e below s (own_Qf Z a (own_f0 sz m0 r0 m1 r1 m2 r2 ((-1 : Int32), uq)) h0 n0) ({ frames := 0, cells := 0, slots := 0, locals := 0 } : Room).cells ({ frames := 0, cells := 0, slots := 0, locals := 0 } : Room).slots
  refine hG (S := s₁.setTop (entryFrame m #[(.ref a)] 2)) (hst (fun t_ kt_ => castTop (ef_2 m a) kt_) ?_)
  have K0 := Keep.refl h0 [a]
  obtain ⟨res, hres⟩ : ∃ z, z = own_f0 sz m0 r0 m1 r1 m2 r2 ((-1 : Int32), uq) := ⟨_, rfl⟩
  rw [← hres] at hend
  have J3 : ∀ (o : Int32) (oq : Int64) (hj_1 : Heap) (Tj_1 : State) (lj_1 : List Loc) (Xj_1 : Stand p l e ({ frames := 0, cells := 0, slots := 0, locals := 0 } : Room) s m #[(.ref a)] below meth c Tj_1 lj_1 0 0) (ej_1 : Tj_1.heap = hj_1) (Nj_1 : Fr n0 lj_1) (Z0 : n0 ≤ hj_1.size) (E_a : Exa Z hj_1 a own_B) (F_numbers_a : Fld Z hj_1 a own_B "numbers" "[I" (.ref bn)) (F_places_a : Fld Z hj_1 a own_B "places" "[J" (.ref bp)) (F_size_a : Fld Z hj_1 a own_B "size" "I" (.int sz)) (F_oldest_a : Fld Z hj_1 a own_B "oldest" "I" (.int o)) (F_oldestPlace_a : Fld Z hj_1 a own_B "oldestPlace" "J" (.long oq)) (V_bn : Arv Z hj_1 bn kn .int (256 : Int32) [(.int m0), (.int m1), (.int m2)] (.int (0 : Int32))) (V_bp : Arv Z hj_1 bp kp .long (256 : Int32) [(.long r0), (.long r1), (.long r2)] (.long (0 : Int64))) (K0 : Keep h0 hj_1 [a]) (hr : (o, oq) = res), G (Tj_1.setTop (mkF m 7 #[.val (.ref a), .val (.int (3 : Int32))] [])) := by
    intro o oq hj_1 Tj_1 lj_1 Xj_1 ej_1 Nj_1 Z0 E_a F_numbers_a F_places_a F_size_a F_oldest_a F_oldestPlace_a V_bn V_bp K0 hr
    show G (Tj_1.setTop (mkF m 7 #[.val (.ref a), .val (.int (3 : Int32))] []))
    refine hst (fun _ kt => XS.iloadN Xj_1.here hx rfl (hb hby d2_7) rfl kt) ?_
    show G (Tj_1.setTop (mkF m 8 #[.val (.ref a), .val (.int (3 : Int32))] [(.int (3 : Int32))]))
    refine hst (fun _ kt => XS.aloadN Xj_1.here hx rfl (hb hby d2_8) rfl rfl kt) ?_
    show G (Tj_1.setTop (mkF m 9 #[.val (.ref a), .val (.int (3 : Int32))] [(.ref a), (.int (3 : Int32))]))
    obtain ⟨T_2, X_2, e_2, st_2⟩ := getF Xj_1 hx hZ hown (host := "") (Or.inl (own_w61 hw)) Via.refl ej_1 F_size_a (g := (mkF m 9 #[.val (.ref a), .val (.int (3 : Int32))] [(.ref a), (.int (3 : Int32))])) rfl rfl (hb hby d2_9)
    refine hst st_2 ?_
    show G (T_2.setTop (mkF m 12 #[.val (.ref a), .val (.int (3 : Int32))] [(.int sz), (.int (3 : Int32))]))
    have hc12 : ¬ ((3 : Int32) < sz) := hsz
    refine hst (fun _ kt => XS.icmpYes X_2.here hx rfl (pc0 := 12) (pc' := 73) rfl (hb hby d2_12) rfl (flt hc12).2.1 (by decide) (by decide) kt) ?_
    show G (T_2.setTop (mkF m 73 #[.val (.ref a), .val (.int (3 : Int32))] []))
    exact hend (own_goVoid X_2 hx Bd.returns (hb hby d2_73) Bd.notSynchronized (by rw [e_2]; exact ⟨rfl, Nj_1, K0, E_a, by rw [← hr]; exact F_oldest_a, by rw [← hr]; exact F_oldestPlace_a⟩) (by decide) (by decide))
  have J2 : ∀ (o : Int32) (oq : Int64) (hj_3 : Heap) (Tj_3 : State) (lj_3 : List Loc) (Xj_3 : Stand p l e ({ frames := 0, cells := 0, slots := 0, locals := 0 } : Room) s m #[(.ref a)] below meth c Tj_3 lj_3 0 0) (ej_3 : Tj_3.heap = hj_3) (Nj_3 : Fr n0 lj_3) (Z0 : n0 ≤ hj_3.size) (E_a : Exa Z hj_3 a own_B) (F_numbers_a : Fld Z hj_3 a own_B "numbers" "[I" (.ref bn)) (F_places_a : Fld Z hj_3 a own_B "places" "[J" (.ref bp)) (F_size_a : Fld Z hj_3 a own_B "size" "I" (.int sz)) (F_oldest_a : Fld Z hj_3 a own_B "oldest" "I" (.int o)) (F_oldestPlace_a : Fld Z hj_3 a own_B "oldestPlace" "J" (.long oq)) (V_bn : Arv Z hj_3 bn kn .int (256 : Int32) [(.int m0), (.int m1), (.int m2)] (.int (0 : Int32))) (V_bp : Arv Z hj_3 bp kp .long (256 : Int32) [(.long r0), (.long r1), (.long r2)] (.long (0 : Int64))) (K0 : Keep h0 hj_3 [a]) (hr : own_f2 sz m2 r2 (o, oq) = res), G (Tj_3.setTop (mkF m 7 #[.val (.ref a), .val (.int (2 : Int32))] [])) := by
    intro o oq hj_3 Tj_3 lj_3 Xj_3 ej_3 Nj_3 Z0 E_a F_numbers_a F_places_a F_size_a F_oldest_a F_oldestPlace_a V_bn V_bp K0 hr
    show G (Tj_3.setTop (mkF m 7 #[.val (.ref a), .val (.int (2 : Int32))] []))
    refine hst (fun _ kt => XS.iloadN Xj_3.here hx rfl (hb hby d2_7) rfl kt) ?_
    show G (Tj_3.setTop (mkF m 8 #[.val (.ref a), .val (.int (2 : Int32))] [(.int (2 : Int32))]))
    refine hst (fun _ kt => XS.aloadN Xj_3.here hx rfl (hb hby d2_8) rfl rfl kt) ?_
    show G (Tj_3.setTop (mkF m 9 #[.val (.ref a), .val (.int (2 : Int32))] [(.ref a), (.int (2 : Int32))]))
    obtain ⟨T_4, X_4, e_4, st_4⟩ := getF Xj_3 hx hZ hown (host := "") (Or.inl (own_w61 hw)) Via.refl ej_3 F_size_a (g := (mkF m 9 #[.val (.ref a), .val (.int (2 : Int32))] [(.ref a), (.int (2 : Int32))])) rfl rfl (hb hby d2_9)
    refine hst st_4 ?_
    show G (T_4.setTop (mkF m 12 #[.val (.ref a), .val (.int (2 : Int32))] [(.int sz), (.int (2 : Int32))]))
    by_cases hc12 : (2 : Int32) < sz
    ·
      refine hst (fun _ kt => XS.icmpNo X_4.here hx rfl (hb hby d2_12) rfl (tlt hc12).2.1 kt) ?_
      show G (T_4.setTop (mkF m 15 #[.val (.ref a), .val (.int (2 : Int32))] []))
      rw [own_f2, if_pos hc12] at hr
      refine hst (fun _ kt => XS.aloadN X_4.here hx rfl (hb hby d2_15) rfl rfl kt) ?_
      show G (T_4.setTop (mkF m 16 #[.val (.ref a), .val (.int (2 : Int32))] [(.ref a)]))
      obtain ⟨T_5, X_5, e_5, st_5⟩ := getF X_4 hx hZ hown (host := "") (Or.inl (own_w62 hw)) Via.refl e_4 F_numbers_a (g := (mkF m 16 #[.val (.ref a), .val (.int (2 : Int32))] [(.ref a)])) rfl rfl (hb hby d2_16)
      refine hst st_5 ?_
      show G (T_5.setTop (mkF m 19 #[.val (.ref a), .val (.int (2 : Int32))] [(.ref bn)]))
      refine hst (fun _ kt => XS.iloadN X_5.here hx rfl (hb hby d2_19) rfl kt) ?_
      show G (T_5.setTop (mkF m 20 #[.val (.ref a), .val (.int (2 : Int32))] [(.int (2 : Int32)), (.ref bn)]))
      obtain ⟨cl_6, Ar_6, -, S_6, M_6, Hs_6, -⟩ := id V_bn
      have hin_6 : ¬ ((2 : Int32) < 0 ∨ cl_6.slots.size ≤ ((2 : Int32)).toNatClampNeg) := inb_of S_6 ⟨by decide, by decide⟩
      have hat_6 : cl_6.slots[((2 : Int32)).toNatClampNeg]? = some (.int m2) := Has.at Hs_6 hin_6 rfl
      refine hst (X_5.iaload hx (j := (2 : Int32)) (v := (.int m2)) (by rw [e_5]; exact Ar_6.1) (State.isArrayOf_alike hZ.alike Ar_6.2.1) Ar_6.2.2 hin_6 hat_6 (g := (mkF m 20 #[.val (.ref a), .val (.int (2 : Int32))] [(.int (2 : Int32)), (.ref bn)])) rfl rfl (hb hby d2_20)) ?_
      show G (T_5.setTop (mkF m 21 #[.val (.ref a), .val (.int (2 : Int32))] [(.int m2)]))
      refine hst (fun _ kt => XS.iconst X_5.here hx rfl (hb hby d2_21) kt) ?_
      show G (T_5.setTop (mkF m 22 #[.val (.ref a), .val (.int (2 : Int32))] [(.int (-1 : Int32)), (.int m2)]))
      by_cases hc22 : m2 = (-1 : Int32)
      ·
        refine hst (fun _ kt => XS.icmpYes X_5.here hx rfl (pc0 := 22) (pc' := 67) rfl (hb hby d2_22) rfl (teq hc22).1 (by decide) (by decide) kt) ?_
        show G (T_5.setTop (mkF m 67 #[.val (.ref a), .val (.int (2 : Int32))] []))
        refine hst (fun _ kt => XS.iinc X_5.here hx rfl (hb hby d2_67) rfl (l' := #[.val (.ref a), .val (.int ((2 : Int32) + (1 : Int32)))]) rfl kt) ?_
        show G (T_5.setTop (mkF m 70 #[.val (.ref a), .val (.int ((2 : Int32) + (1 : Int32)))] []))
        rw [show ((2 : Int32) + (1 : Int32)) = (3 : Int32) from by decide]
        show G (T_5.setTop (mkF m 70 #[.val (.ref a), .val (.int (3 : Int32))] []))
        refine hst (fun _ kt => XS.goto X_5.here hx rfl (pc0 := 70) (pc' := 7) rfl (hb hby d2_70) (by decide) (by decide) kt) ?_
        show G (T_5.setTop (mkF m 7 #[.val (.ref a), .val (.int (3 : Int32))] []))
        exact J3 o oq hj_3 T_5 _ X_5 e_5 Nj_3 Z0 E_a F_numbers_a F_places_a F_size_a F_oldest_a F_oldestPlace_a V_bn V_bp K0 (by rw [own_stp, if_pos hc22] at hr; exact hr)
      ·
        refine hst (fun _ kt => XS.icmpNo X_5.here hx rfl (hb hby d2_22) rfl (feq hc22).1 kt) ?_
        show G (T_5.setTop (mkF m 25 #[.val (.ref a), .val (.int (2 : Int32))] []))
        refine hst (fun _ kt => XS.aloadN X_5.here hx rfl (hb hby d2_25) rfl rfl kt) ?_
        show G (T_5.setTop (mkF m 26 #[.val (.ref a), .val (.int (2 : Int32))] [(.ref a)]))
        obtain ⟨T_7, X_7, e_7, st_7⟩ := getF X_5 hx hZ hown (host := "") (Or.inl (own_w60 hw)) Via.refl e_5 F_oldest_a (g := (mkF m 26 #[.val (.ref a), .val (.int (2 : Int32))] [(.ref a)])) rfl rfl (hb hby d2_26)
        refine hst st_7 ?_
        show G (T_7.setTop (mkF m 29 #[.val (.ref a), .val (.int (2 : Int32))] [(.int o)]))
        refine hst (fun _ kt => XS.iconst X_7.here hx rfl (hb hby d2_29) kt) ?_
        show G (T_7.setTop (mkF m 30 #[.val (.ref a), .val (.int (2 : Int32))] [(.int (-1 : Int32)), (.int o)]))
        by_cases hc30 : o = (-1 : Int32)
        ·
          refine hst (fun _ kt => XS.icmpYes X_7.here hx rfl (pc0 := 30) (pc' := 47) rfl (hb hby d2_30) rfl (teq hc30).1 (by decide) (by decide) kt) ?_
          show G (T_7.setTop (mkF m 47 #[.val (.ref a), .val (.int (2 : Int32))] []))
          refine hst (fun _ kt => XS.aloadN X_7.here hx rfl (hb hby d2_47) rfl rfl kt) ?_
          show G (T_7.setTop (mkF m 48 #[.val (.ref a), .val (.int (2 : Int32))] [(.ref a)]))
          refine hst (fun _ kt => XS.aloadN X_7.here hx rfl (hb hby d2_48) rfl rfl kt) ?_
          show G (T_7.setTop (mkF m 49 #[.val (.ref a), .val (.int (2 : Int32))] [(.ref a), (.ref a)]))
          obtain ⟨T_8, X_8, e_8, st_8⟩ := getF X_7 hx hZ hown (host := "") (Or.inl (own_w62 hw)) Via.refl e_7 F_numbers_a (g := (mkF m 49 #[.val (.ref a), .val (.int (2 : Int32))] [(.ref a), (.ref a)])) rfl rfl (hb hby d2_49)
          refine hst st_8 ?_
          show G (T_8.setTop (mkF m 52 #[.val (.ref a), .val (.int (2 : Int32))] [(.ref bn), (.ref a)]))
          refine hst (fun _ kt => XS.iloadN X_8.here hx rfl (hb hby d2_52) rfl kt) ?_
          show G (T_8.setTop (mkF m 53 #[.val (.ref a), .val (.int (2 : Int32))] [(.int (2 : Int32)), (.ref bn), (.ref a)]))
          obtain ⟨cl_9, Ar_9, -, S_9, M_9, Hs_9, -⟩ := id V_bn
          have hin_9 : ¬ ((2 : Int32) < 0 ∨ cl_9.slots.size ≤ ((2 : Int32)).toNatClampNeg) := inb_of S_9 ⟨by decide, by decide⟩
          have hat_9 : cl_9.slots[((2 : Int32)).toNatClampNeg]? = some (.int m2) := Has.at Hs_9 hin_9 rfl
          refine hst (X_8.iaload hx (j := (2 : Int32)) (v := (.int m2)) (by rw [e_8]; exact Ar_9.1) (State.isArrayOf_alike hZ.alike Ar_9.2.1) Ar_9.2.2 hin_9 hat_9 (g := (mkF m 53 #[.val (.ref a), .val (.int (2 : Int32))] [(.int (2 : Int32)), (.ref bn), (.ref a)])) rfl rfl (hb hby d2_53)) ?_
          show G (T_8.setTop (mkF m 54 #[.val (.ref a), .val (.int (2 : Int32))] [(.int m2), (.ref a)]))
          obtain ⟨T_10, h_10, X_10, e_10, W_10, st_10⟩ := putF X_8 hx hZ hown (host := "") (Or.inl (own_w60 hw)) Via.refl e_8 F_oldest_a E_a (Or.inl (own_w34 hw)) (own_w2 hw) (ty := .int) (by decide) rfl rfl (g := (mkF m 54 #[.val (.ref a), .val (.int (2 : Int32))] [(.int m2), (.ref a)])) rfl rfl (hb hby d2_54)
          have Z0 := Nat.le_trans Z0 (Keep.of_wr W_10).1
          have E_a := E_a.wr W_10
          have F_numbers_a := F_numbers_a.other W_10 (Or.inr (slot_ne (Or.inr (own_w12 hw)) (Or.inl (own_w34 hw)) (by decide) (t := (.array .int)) (t' := .int) (by decide) (by decide)))
          have F_places_a := F_places_a.other W_10 (Or.inr (slot_ne (Or.inr (own_w17 hw)) (Or.inl (own_w34 hw)) (by decide) (t := (.array .long)) (t' := .int) (by decide) (by decide)))
          have F_size_a := F_size_a.other W_10 (Or.inr (slot_ne (Or.inl (own_w51 hw)) (Or.inl (own_w34 hw)) (by decide) (t := .int) (t' := .int) (by decide) (by decide)))
          have F_oldest_a := F_oldest_a.same W_10
          have F_oldestPlace_a := F_oldestPlace_a.other W_10 (Or.inr (slot_ne (Or.inl (own_w55 hw)) (Or.inl (own_w34 hw)) (by decide) (t := .long) (t' := .int) (by decide) (by decide)))
          have V_bn := V_bn.other W_10 (Ne.symm ne_a_bn)
          have V_bp := V_bp.other W_10 (Ne.symm ne_a_bp)
          have K0 := K0.wr W_10 (Or.inl (List.mem_of_getElem? (i := 0) rfl))
          have N_10 := Fr.snoc X_10 Nj_3 le_n0_a
          refine hst st_10 ?_
          show G (T_10.setTop (mkF m 57 #[.val (.ref a), .val (.int (2 : Int32))] []))
          refine hst (fun _ kt => XS.aloadN X_10.here hx rfl (hb hby d2_57) rfl rfl kt) ?_
          show G (T_10.setTop (mkF m 58 #[.val (.ref a), .val (.int (2 : Int32))] [(.ref a)]))
          refine hst (fun _ kt => XS.aloadN X_10.here hx rfl (hb hby d2_58) rfl rfl kt) ?_
          show G (T_10.setTop (mkF m 59 #[.val (.ref a), .val (.int (2 : Int32))] [(.ref a), (.ref a)]))
          obtain ⟨T_11, X_11, e_11, st_11⟩ := getF X_10 hx hZ hown (host := "") (Or.inl (own_w63 hw)) Via.refl e_10 F_places_a (g := (mkF m 59 #[.val (.ref a), .val (.int (2 : Int32))] [(.ref a), (.ref a)])) rfl rfl (hb hby d2_59)
          refine hst st_11 ?_
          show G (T_11.setTop (mkF m 62 #[.val (.ref a), .val (.int (2 : Int32))] [(.ref bp), (.ref a)]))
          refine hst (fun _ kt => XS.iloadN X_11.here hx rfl (hb hby d2_62) rfl kt) ?_
          show G (T_11.setTop (mkF m 63 #[.val (.ref a), .val (.int (2 : Int32))] [(.int (2 : Int32)), (.ref bp), (.ref a)]))
          obtain ⟨cl_12, Ar_12, -, S_12, M_12, Hs_12, -⟩ := id V_bp
          have hin_12 : ¬ ((2 : Int32) < 0 ∨ cl_12.slots.size ≤ ((2 : Int32)).toNatClampNeg) := inb_of S_12 ⟨by decide, by decide⟩
          have hat_12 : cl_12.slots[((2 : Int32)).toNatClampNeg]? = some (.long r2) := Has.at Hs_12 hin_12 rfl
          refine hst (X_11.laload hx (j := (2 : Int32)) (v := (.long r2)) (by rw [e_11]; exact Ar_12.1) (State.isArrayOf_alike hZ.alike Ar_12.2.1) Ar_12.2.2 hin_12 hat_12 (g := (mkF m 63 #[.val (.ref a), .val (.int (2 : Int32))] [(.int (2 : Int32)), (.ref bp), (.ref a)])) rfl rfl (hb hby d2_63)) ?_
          show G (T_11.setTop (mkF m 64 #[.val (.ref a), .val (.int (2 : Int32))] [(.long r2), (.ref a)]))
          obtain ⟨T_13, h_13, X_13, e_13, W_13, st_13⟩ := putF X_11 hx hZ hown (host := "") (Or.inl (own_w64 hw)) Via.refl e_11 F_oldestPlace_a E_a (Or.inl (own_w55 hw)) (own_w2 hw) (ty := .long) (by decide) rfl rfl (g := (mkF m 64 #[.val (.ref a), .val (.int (2 : Int32))] [(.long r2), (.ref a)])) rfl rfl (hb hby d2_64)
          have Z0 := Nat.le_trans Z0 (Keep.of_wr W_13).1
          have E_a := E_a.wr W_13
          have F_numbers_a := F_numbers_a.other W_13 (Or.inr (slot_ne (Or.inr (own_w12 hw)) (Or.inl (own_w55 hw)) (by decide) (t := (.array .int)) (t' := .long) (by decide) (by decide)))
          have F_places_a := F_places_a.other W_13 (Or.inr (slot_ne (Or.inr (own_w17 hw)) (Or.inl (own_w55 hw)) (by decide) (t := (.array .long)) (t' := .long) (by decide) (by decide)))
          have F_size_a := F_size_a.other W_13 (Or.inr (slot_ne (Or.inl (own_w51 hw)) (Or.inl (own_w55 hw)) (by decide) (t := .int) (t' := .long) (by decide) (by decide)))
          have F_oldest_a := F_oldest_a.other W_13 (Or.inr (slot_ne (Or.inl (own_w34 hw)) (Or.inl (own_w55 hw)) (by decide) (t := .int) (t' := .long) (by decide) (by decide)))
          have F_oldestPlace_a := F_oldestPlace_a.same W_13
          have V_bn := V_bn.other W_13 (Ne.symm ne_a_bn)
          have V_bp := V_bp.other W_13 (Ne.symm ne_a_bp)
          have K0 := K0.wr W_13 (Or.inl (List.mem_of_getElem? (i := 0) rfl))
          have N_13 := Fr.snoc X_13 N_10 le_n0_a
          refine hst st_13 ?_
          show G (T_13.setTop (mkF m 67 #[.val (.ref a), .val (.int (2 : Int32))] []))
          refine hst (fun _ kt => XS.iinc X_13.here hx rfl (hb hby d2_67) rfl (l' := #[.val (.ref a), .val (.int ((2 : Int32) + (1 : Int32)))]) rfl kt) ?_
          show G (T_13.setTop (mkF m 70 #[.val (.ref a), .val (.int ((2 : Int32) + (1 : Int32)))] []))
          rw [show ((2 : Int32) + (1 : Int32)) = (3 : Int32) from by decide]
          show G (T_13.setTop (mkF m 70 #[.val (.ref a), .val (.int (3 : Int32))] []))
          refine hst (fun _ kt => XS.goto X_13.here hx rfl (pc0 := 70) (pc' := 7) rfl (hb hby d2_70) (by decide) (by decide) kt) ?_
          show G (T_13.setTop (mkF m 7 #[.val (.ref a), .val (.int (3 : Int32))] []))
          exact J3 m2 r2 h_13 T_13 _ X_13 e_13 N_13 Z0 E_a F_numbers_a F_places_a F_size_a F_oldest_a F_oldestPlace_a V_bn V_bp K0 (by rw [own_stp, if_neg hc22, if_pos hc30] at hr; exact hr)
        ·
          refine hst (fun _ kt => XS.icmpNo X_7.here hx rfl (hb hby d2_30) rfl (feq hc30).1 kt) ?_
          show G (T_7.setTop (mkF m 33 #[.val (.ref a), .val (.int (2 : Int32))] []))
          refine hst (fun _ kt => XS.aloadN X_7.here hx rfl (hb hby d2_33) rfl rfl kt) ?_
          show G (T_7.setTop (mkF m 34 #[.val (.ref a), .val (.int (2 : Int32))] [(.ref a)]))
          obtain ⟨T_14, X_14, e_14, st_14⟩ := getF X_7 hx hZ hown (host := "") (Or.inl (own_w63 hw)) Via.refl e_7 F_places_a (g := (mkF m 34 #[.val (.ref a), .val (.int (2 : Int32))] [(.ref a)])) rfl rfl (hb hby d2_34)
          refine hst st_14 ?_
          show G (T_14.setTop (mkF m 37 #[.val (.ref a), .val (.int (2 : Int32))] [(.ref bp)]))
          refine hst (fun _ kt => XS.iloadN X_14.here hx rfl (hb hby d2_37) rfl kt) ?_
          show G (T_14.setTop (mkF m 38 #[.val (.ref a), .val (.int (2 : Int32))] [(.int (2 : Int32)), (.ref bp)]))
          obtain ⟨cl_15, Ar_15, -, S_15, M_15, Hs_15, -⟩ := id V_bp
          have hin_15 : ¬ ((2 : Int32) < 0 ∨ cl_15.slots.size ≤ ((2 : Int32)).toNatClampNeg) := inb_of S_15 ⟨by decide, by decide⟩
          have hat_15 : cl_15.slots[((2 : Int32)).toNatClampNeg]? = some (.long r2) := Has.at Hs_15 hin_15 rfl
          refine hst (X_14.laload hx (j := (2 : Int32)) (v := (.long r2)) (by rw [e_14]; exact Ar_15.1) (State.isArrayOf_alike hZ.alike Ar_15.2.1) Ar_15.2.2 hin_15 hat_15 (g := (mkF m 38 #[.val (.ref a), .val (.int (2 : Int32))] [(.int (2 : Int32)), (.ref bp)])) rfl rfl (hb hby d2_38)) ?_
          show G (T_14.setTop (mkF m 39 #[.val (.ref a), .val (.int (2 : Int32))] [(.long r2)]))
          refine hst (fun _ kt => XS.aloadN X_14.here hx rfl (hb hby d2_39) rfl rfl kt) ?_
          show G (T_14.setTop (mkF m 40 #[.val (.ref a), .val (.int (2 : Int32))] [(.ref a), (.long r2)]))
          obtain ⟨T_16, X_16, e_16, st_16⟩ := getF X_14 hx hZ hown (host := "") (Or.inl (own_w64 hw)) Via.refl e_14 F_oldestPlace_a (g := (mkF m 40 #[.val (.ref a), .val (.int (2 : Int32))] [(.ref a), (.long r2)])) rfl rfl (hb hby d2_40)
          refine hst st_16 ?_
          show G (T_16.setTop (mkF m 43 #[.val (.ref a), .val (.int (2 : Int32))] [(.long oq), (.long r2)]))
          refine hst (fun _ kt => XS.lcmp X_16.here hx rfl (hb hby d2_43) rfl kt) ?_
          show G (T_16.setTop (mkF m 44 #[.val (.ref a), .val (.int (2 : Int32))] [(.int (lcmpW r2 oq))]))
          by_cases hc44 : r2 < oq
          ·
            refine hst (fun _ kt => XS.ifNo X_16.here hx rfl (hb hby d2_44) rfl ((if0 _ _).trans (tlt ((lw_lt _ _).mpr hc44)).2.1) kt) ?_
            show G (T_16.setTop (mkF m 47 #[.val (.ref a), .val (.int (2 : Int32))] []))
            refine hst (fun _ kt => XS.aloadN X_16.here hx rfl (hb hby d2_47) rfl rfl kt) ?_
            show G (T_16.setTop (mkF m 48 #[.val (.ref a), .val (.int (2 : Int32))] [(.ref a)]))
            refine hst (fun _ kt => XS.aloadN X_16.here hx rfl (hb hby d2_48) rfl rfl kt) ?_
            show G (T_16.setTop (mkF m 49 #[.val (.ref a), .val (.int (2 : Int32))] [(.ref a), (.ref a)]))
            obtain ⟨T_17, X_17, e_17, st_17⟩ := getF X_16 hx hZ hown (host := "") (Or.inl (own_w62 hw)) Via.refl e_16 F_numbers_a (g := (mkF m 49 #[.val (.ref a), .val (.int (2 : Int32))] [(.ref a), (.ref a)])) rfl rfl (hb hby d2_49)
            refine hst st_17 ?_
            show G (T_17.setTop (mkF m 52 #[.val (.ref a), .val (.int (2 : Int32))] [(.ref bn), (.ref a)]))
            refine hst (fun _ kt => XS.iloadN X_17.here hx rfl (hb hby d2_52) rfl kt) ?_
            show G (T_17.setTop (mkF m 53 #[.val (.ref a), .val (.int (2 : Int32))] [(.int (2 : Int32)), (.ref bn), (.ref a)]))
            obtain ⟨cl_18, Ar_18, -, S_18, M_18, Hs_18, -⟩ := id V_bn
            have hin_18 : ¬ ((2 : Int32) < 0 ∨ cl_18.slots.size ≤ ((2 : Int32)).toNatClampNeg) := inb_of S_18 ⟨by decide, by decide⟩
            have hat_18 : cl_18.slots[((2 : Int32)).toNatClampNeg]? = some (.int m2) := Has.at Hs_18 hin_18 rfl
            refine hst (X_17.iaload hx (j := (2 : Int32)) (v := (.int m2)) (by rw [e_17]; exact Ar_18.1) (State.isArrayOf_alike hZ.alike Ar_18.2.1) Ar_18.2.2 hin_18 hat_18 (g := (mkF m 53 #[.val (.ref a), .val (.int (2 : Int32))] [(.int (2 : Int32)), (.ref bn), (.ref a)])) rfl rfl (hb hby d2_53)) ?_
            show G (T_17.setTop (mkF m 54 #[.val (.ref a), .val (.int (2 : Int32))] [(.int m2), (.ref a)]))
            obtain ⟨T_19, h_19, X_19, e_19, W_19, st_19⟩ := putF X_17 hx hZ hown (host := "") (Or.inl (own_w60 hw)) Via.refl e_17 F_oldest_a E_a (Or.inl (own_w34 hw)) (own_w2 hw) (ty := .int) (by decide) rfl rfl (g := (mkF m 54 #[.val (.ref a), .val (.int (2 : Int32))] [(.int m2), (.ref a)])) rfl rfl (hb hby d2_54)
            have Z0 := Nat.le_trans Z0 (Keep.of_wr W_19).1
            have E_a := E_a.wr W_19
            have F_numbers_a := F_numbers_a.other W_19 (Or.inr (slot_ne (Or.inr (own_w12 hw)) (Or.inl (own_w34 hw)) (by decide) (t := (.array .int)) (t' := .int) (by decide) (by decide)))
            have F_places_a := F_places_a.other W_19 (Or.inr (slot_ne (Or.inr (own_w17 hw)) (Or.inl (own_w34 hw)) (by decide) (t := (.array .long)) (t' := .int) (by decide) (by decide)))
            have F_size_a := F_size_a.other W_19 (Or.inr (slot_ne (Or.inl (own_w51 hw)) (Or.inl (own_w34 hw)) (by decide) (t := .int) (t' := .int) (by decide) (by decide)))
            have F_oldest_a := F_oldest_a.same W_19
            have F_oldestPlace_a := F_oldestPlace_a.other W_19 (Or.inr (slot_ne (Or.inl (own_w55 hw)) (Or.inl (own_w34 hw)) (by decide) (t := .long) (t' := .int) (by decide) (by decide)))
            have V_bn := V_bn.other W_19 (Ne.symm ne_a_bn)
            have V_bp := V_bp.other W_19 (Ne.symm ne_a_bp)
            have K0 := K0.wr W_19 (Or.inl (List.mem_of_getElem? (i := 0) rfl))
            have N_19 := Fr.snoc X_19 Nj_3 le_n0_a
            refine hst st_19 ?_
            show G (T_19.setTop (mkF m 57 #[.val (.ref a), .val (.int (2 : Int32))] []))
            refine hst (fun _ kt => XS.aloadN X_19.here hx rfl (hb hby d2_57) rfl rfl kt) ?_
            show G (T_19.setTop (mkF m 58 #[.val (.ref a), .val (.int (2 : Int32))] [(.ref a)]))
            refine hst (fun _ kt => XS.aloadN X_19.here hx rfl (hb hby d2_58) rfl rfl kt) ?_
            show G (T_19.setTop (mkF m 59 #[.val (.ref a), .val (.int (2 : Int32))] [(.ref a), (.ref a)]))
            obtain ⟨T_20, X_20, e_20, st_20⟩ := getF X_19 hx hZ hown (host := "") (Or.inl (own_w63 hw)) Via.refl e_19 F_places_a (g := (mkF m 59 #[.val (.ref a), .val (.int (2 : Int32))] [(.ref a), (.ref a)])) rfl rfl (hb hby d2_59)
            refine hst st_20 ?_
            show G (T_20.setTop (mkF m 62 #[.val (.ref a), .val (.int (2 : Int32))] [(.ref bp), (.ref a)]))
            refine hst (fun _ kt => XS.iloadN X_20.here hx rfl (hb hby d2_62) rfl kt) ?_
            show G (T_20.setTop (mkF m 63 #[.val (.ref a), .val (.int (2 : Int32))] [(.int (2 : Int32)), (.ref bp), (.ref a)]))
            obtain ⟨cl_21, Ar_21, -, S_21, M_21, Hs_21, -⟩ := id V_bp
            have hin_21 : ¬ ((2 : Int32) < 0 ∨ cl_21.slots.size ≤ ((2 : Int32)).toNatClampNeg) := inb_of S_21 ⟨by decide, by decide⟩
            have hat_21 : cl_21.slots[((2 : Int32)).toNatClampNeg]? = some (.long r2) := Has.at Hs_21 hin_21 rfl
            refine hst (X_20.laload hx (j := (2 : Int32)) (v := (.long r2)) (by rw [e_20]; exact Ar_21.1) (State.isArrayOf_alike hZ.alike Ar_21.2.1) Ar_21.2.2 hin_21 hat_21 (g := (mkF m 63 #[.val (.ref a), .val (.int (2 : Int32))] [(.int (2 : Int32)), (.ref bp), (.ref a)])) rfl rfl (hb hby d2_63)) ?_
            show G (T_20.setTop (mkF m 64 #[.val (.ref a), .val (.int (2 : Int32))] [(.long r2), (.ref a)]))
            obtain ⟨T_22, h_22, X_22, e_22, W_22, st_22⟩ := putF X_20 hx hZ hown (host := "") (Or.inl (own_w64 hw)) Via.refl e_20 F_oldestPlace_a E_a (Or.inl (own_w55 hw)) (own_w2 hw) (ty := .long) (by decide) rfl rfl (g := (mkF m 64 #[.val (.ref a), .val (.int (2 : Int32))] [(.long r2), (.ref a)])) rfl rfl (hb hby d2_64)
            have Z0 := Nat.le_trans Z0 (Keep.of_wr W_22).1
            have E_a := E_a.wr W_22
            have F_numbers_a := F_numbers_a.other W_22 (Or.inr (slot_ne (Or.inr (own_w12 hw)) (Or.inl (own_w55 hw)) (by decide) (t := (.array .int)) (t' := .long) (by decide) (by decide)))
            have F_places_a := F_places_a.other W_22 (Or.inr (slot_ne (Or.inr (own_w17 hw)) (Or.inl (own_w55 hw)) (by decide) (t := (.array .long)) (t' := .long) (by decide) (by decide)))
            have F_size_a := F_size_a.other W_22 (Or.inr (slot_ne (Or.inl (own_w51 hw)) (Or.inl (own_w55 hw)) (by decide) (t := .int) (t' := .long) (by decide) (by decide)))
            have F_oldest_a := F_oldest_a.other W_22 (Or.inr (slot_ne (Or.inl (own_w34 hw)) (Or.inl (own_w55 hw)) (by decide) (t := .int) (t' := .long) (by decide) (by decide)))
            have F_oldestPlace_a := F_oldestPlace_a.same W_22
            have V_bn := V_bn.other W_22 (Ne.symm ne_a_bn)
            have V_bp := V_bp.other W_22 (Ne.symm ne_a_bp)
            have K0 := K0.wr W_22 (Or.inl (List.mem_of_getElem? (i := 0) rfl))
            have N_22 := Fr.snoc X_22 N_19 le_n0_a
            refine hst st_22 ?_
            show G (T_22.setTop (mkF m 67 #[.val (.ref a), .val (.int (2 : Int32))] []))
            refine hst (fun _ kt => XS.iinc X_22.here hx rfl (hb hby d2_67) rfl (l' := #[.val (.ref a), .val (.int ((2 : Int32) + (1 : Int32)))]) rfl kt) ?_
            show G (T_22.setTop (mkF m 70 #[.val (.ref a), .val (.int ((2 : Int32) + (1 : Int32)))] []))
            rw [show ((2 : Int32) + (1 : Int32)) = (3 : Int32) from by decide]
            show G (T_22.setTop (mkF m 70 #[.val (.ref a), .val (.int (3 : Int32))] []))
            refine hst (fun _ kt => XS.goto X_22.here hx rfl (pc0 := 70) (pc' := 7) rfl (hb hby d2_70) (by decide) (by decide) kt) ?_
            show G (T_22.setTop (mkF m 7 #[.val (.ref a), .val (.int (3 : Int32))] []))
            exact J3 m2 r2 h_22 T_22 _ X_22 e_22 N_22 Z0 E_a F_numbers_a F_places_a F_size_a F_oldest_a F_oldestPlace_a V_bn V_bp K0 (by rw [own_stp, if_neg hc22, if_neg hc30, if_pos hc44] at hr; exact hr)
          ·
            refine hst (fun _ kt => XS.ifYes X_16.here hx rfl (pc0 := 44) (pc' := 67) rfl (hb hby d2_44) rfl ((if0 _ _).trans (flt (mt (lw_lt _ _).mp hc44)).2.1) (by decide) (by decide) kt) ?_
            show G (T_16.setTop (mkF m 67 #[.val (.ref a), .val (.int (2 : Int32))] []))
            refine hst (fun _ kt => XS.iinc X_16.here hx rfl (hb hby d2_67) rfl (l' := #[.val (.ref a), .val (.int ((2 : Int32) + (1 : Int32)))]) rfl kt) ?_
            show G (T_16.setTop (mkF m 70 #[.val (.ref a), .val (.int ((2 : Int32) + (1 : Int32)))] []))
            rw [show ((2 : Int32) + (1 : Int32)) = (3 : Int32) from by decide]
            show G (T_16.setTop (mkF m 70 #[.val (.ref a), .val (.int (3 : Int32))] []))
            refine hst (fun _ kt => XS.goto X_16.here hx rfl (pc0 := 70) (pc' := 7) rfl (hb hby d2_70) (by decide) (by decide) kt) ?_
            show G (T_16.setTop (mkF m 7 #[.val (.ref a), .val (.int (3 : Int32))] []))
            exact J3 o oq hj_3 T_16 _ X_16 e_16 Nj_3 Z0 E_a F_numbers_a F_places_a F_size_a F_oldest_a F_oldestPlace_a V_bn V_bp K0 (by rw [own_stp, if_neg hc22, if_neg hc30, if_neg hc44] at hr; exact hr)
    ·
      refine hst (fun _ kt => XS.icmpYes X_4.here hx rfl (pc0 := 12) (pc' := 73) rfl (hb hby d2_12) rfl (flt hc12).2.1 (by decide) (by decide) kt) ?_
      show G (T_4.setTop (mkF m 73 #[.val (.ref a), .val (.int (2 : Int32))] []))
      rw [own_f2, if_neg hc12] at hr
      exact hend (own_goVoid X_4 hx Bd.returns (hb hby d2_73) Bd.notSynchronized (by rw [e_4]; exact ⟨rfl, Nj_3, K0, E_a, by rw [← hr]; exact F_oldest_a, by rw [← hr]; exact F_oldestPlace_a⟩) (by decide) (by decide))
  have J1 : ∀ (o : Int32) (oq : Int64) (hj_23 : Heap) (Tj_23 : State) (lj_23 : List Loc) (Xj_23 : Stand p l e ({ frames := 0, cells := 0, slots := 0, locals := 0 } : Room) s m #[(.ref a)] below meth c Tj_23 lj_23 0 0) (ej_23 : Tj_23.heap = hj_23) (Nj_23 : Fr n0 lj_23) (Z0 : n0 ≤ hj_23.size) (E_a : Exa Z hj_23 a own_B) (F_numbers_a : Fld Z hj_23 a own_B "numbers" "[I" (.ref bn)) (F_places_a : Fld Z hj_23 a own_B "places" "[J" (.ref bp)) (F_size_a : Fld Z hj_23 a own_B "size" "I" (.int sz)) (F_oldest_a : Fld Z hj_23 a own_B "oldest" "I" (.int o)) (F_oldestPlace_a : Fld Z hj_23 a own_B "oldestPlace" "J" (.long oq)) (V_bn : Arv Z hj_23 bn kn .int (256 : Int32) [(.int m0), (.int m1), (.int m2)] (.int (0 : Int32))) (V_bp : Arv Z hj_23 bp kp .long (256 : Int32) [(.long r0), (.long r1), (.long r2)] (.long (0 : Int64))) (K0 : Keep h0 hj_23 [a]) (hr : own_f1 sz m1 r1 m2 r2 (o, oq) = res), G (Tj_23.setTop (mkF m 7 #[.val (.ref a), .val (.int (1 : Int32))] [])) := by
    intro o oq hj_23 Tj_23 lj_23 Xj_23 ej_23 Nj_23 Z0 E_a F_numbers_a F_places_a F_size_a F_oldest_a F_oldestPlace_a V_bn V_bp K0 hr
    show G (Tj_23.setTop (mkF m 7 #[.val (.ref a), .val (.int (1 : Int32))] []))
    refine hst (fun _ kt => XS.iloadN Xj_23.here hx rfl (hb hby d2_7) rfl kt) ?_
    show G (Tj_23.setTop (mkF m 8 #[.val (.ref a), .val (.int (1 : Int32))] [(.int (1 : Int32))]))
    refine hst (fun _ kt => XS.aloadN Xj_23.here hx rfl (hb hby d2_8) rfl rfl kt) ?_
    show G (Tj_23.setTop (mkF m 9 #[.val (.ref a), .val (.int (1 : Int32))] [(.ref a), (.int (1 : Int32))]))
    obtain ⟨T_24, X_24, e_24, st_24⟩ := getF Xj_23 hx hZ hown (host := "") (Or.inl (own_w61 hw)) Via.refl ej_23 F_size_a (g := (mkF m 9 #[.val (.ref a), .val (.int (1 : Int32))] [(.ref a), (.int (1 : Int32))])) rfl rfl (hb hby d2_9)
    refine hst st_24 ?_
    show G (T_24.setTop (mkF m 12 #[.val (.ref a), .val (.int (1 : Int32))] [(.int sz), (.int (1 : Int32))]))
    by_cases hc12 : (1 : Int32) < sz
    ·
      refine hst (fun _ kt => XS.icmpNo X_24.here hx rfl (hb hby d2_12) rfl (tlt hc12).2.1 kt) ?_
      show G (T_24.setTop (mkF m 15 #[.val (.ref a), .val (.int (1 : Int32))] []))
      rw [own_f1, if_pos hc12] at hr
      refine hst (fun _ kt => XS.aloadN X_24.here hx rfl (hb hby d2_15) rfl rfl kt) ?_
      show G (T_24.setTop (mkF m 16 #[.val (.ref a), .val (.int (1 : Int32))] [(.ref a)]))
      obtain ⟨T_25, X_25, e_25, st_25⟩ := getF X_24 hx hZ hown (host := "") (Or.inl (own_w62 hw)) Via.refl e_24 F_numbers_a (g := (mkF m 16 #[.val (.ref a), .val (.int (1 : Int32))] [(.ref a)])) rfl rfl (hb hby d2_16)
      refine hst st_25 ?_
      show G (T_25.setTop (mkF m 19 #[.val (.ref a), .val (.int (1 : Int32))] [(.ref bn)]))
      refine hst (fun _ kt => XS.iloadN X_25.here hx rfl (hb hby d2_19) rfl kt) ?_
      show G (T_25.setTop (mkF m 20 #[.val (.ref a), .val (.int (1 : Int32))] [(.int (1 : Int32)), (.ref bn)]))
      obtain ⟨cl_26, Ar_26, -, S_26, M_26, Hs_26, -⟩ := id V_bn
      have hin_26 : ¬ ((1 : Int32) < 0 ∨ cl_26.slots.size ≤ ((1 : Int32)).toNatClampNeg) := inb_of S_26 ⟨by decide, by decide⟩
      have hat_26 : cl_26.slots[((1 : Int32)).toNatClampNeg]? = some (.int m1) := Has.at Hs_26 hin_26 rfl
      refine hst (X_25.iaload hx (j := (1 : Int32)) (v := (.int m1)) (by rw [e_25]; exact Ar_26.1) (State.isArrayOf_alike hZ.alike Ar_26.2.1) Ar_26.2.2 hin_26 hat_26 (g := (mkF m 20 #[.val (.ref a), .val (.int (1 : Int32))] [(.int (1 : Int32)), (.ref bn)])) rfl rfl (hb hby d2_20)) ?_
      show G (T_25.setTop (mkF m 21 #[.val (.ref a), .val (.int (1 : Int32))] [(.int m1)]))
      refine hst (fun _ kt => XS.iconst X_25.here hx rfl (hb hby d2_21) kt) ?_
      show G (T_25.setTop (mkF m 22 #[.val (.ref a), .val (.int (1 : Int32))] [(.int (-1 : Int32)), (.int m1)]))
      by_cases hc22 : m1 = (-1 : Int32)
      ·
        refine hst (fun _ kt => XS.icmpYes X_25.here hx rfl (pc0 := 22) (pc' := 67) rfl (hb hby d2_22) rfl (teq hc22).1 (by decide) (by decide) kt) ?_
        show G (T_25.setTop (mkF m 67 #[.val (.ref a), .val (.int (1 : Int32))] []))
        refine hst (fun _ kt => XS.iinc X_25.here hx rfl (hb hby d2_67) rfl (l' := #[.val (.ref a), .val (.int ((1 : Int32) + (1 : Int32)))]) rfl kt) ?_
        show G (T_25.setTop (mkF m 70 #[.val (.ref a), .val (.int ((1 : Int32) + (1 : Int32)))] []))
        rw [show ((1 : Int32) + (1 : Int32)) = (2 : Int32) from by decide]
        show G (T_25.setTop (mkF m 70 #[.val (.ref a), .val (.int (2 : Int32))] []))
        refine hst (fun _ kt => XS.goto X_25.here hx rfl (pc0 := 70) (pc' := 7) rfl (hb hby d2_70) (by decide) (by decide) kt) ?_
        show G (T_25.setTop (mkF m 7 #[.val (.ref a), .val (.int (2 : Int32))] []))
        exact J2 o oq hj_23 T_25 _ X_25 e_25 Nj_23 Z0 E_a F_numbers_a F_places_a F_size_a F_oldest_a F_oldestPlace_a V_bn V_bp K0 (by rw [own_stp, if_pos hc22] at hr; exact hr)
      ·
        refine hst (fun _ kt => XS.icmpNo X_25.here hx rfl (hb hby d2_22) rfl (feq hc22).1 kt) ?_
        show G (T_25.setTop (mkF m 25 #[.val (.ref a), .val (.int (1 : Int32))] []))
        refine hst (fun _ kt => XS.aloadN X_25.here hx rfl (hb hby d2_25) rfl rfl kt) ?_
        show G (T_25.setTop (mkF m 26 #[.val (.ref a), .val (.int (1 : Int32))] [(.ref a)]))
        obtain ⟨T_27, X_27, e_27, st_27⟩ := getF X_25 hx hZ hown (host := "") (Or.inl (own_w60 hw)) Via.refl e_25 F_oldest_a (g := (mkF m 26 #[.val (.ref a), .val (.int (1 : Int32))] [(.ref a)])) rfl rfl (hb hby d2_26)
        refine hst st_27 ?_
        show G (T_27.setTop (mkF m 29 #[.val (.ref a), .val (.int (1 : Int32))] [(.int o)]))
        refine hst (fun _ kt => XS.iconst X_27.here hx rfl (hb hby d2_29) kt) ?_
        show G (T_27.setTop (mkF m 30 #[.val (.ref a), .val (.int (1 : Int32))] [(.int (-1 : Int32)), (.int o)]))
        by_cases hc30 : o = (-1 : Int32)
        ·
          refine hst (fun _ kt => XS.icmpYes X_27.here hx rfl (pc0 := 30) (pc' := 47) rfl (hb hby d2_30) rfl (teq hc30).1 (by decide) (by decide) kt) ?_
          show G (T_27.setTop (mkF m 47 #[.val (.ref a), .val (.int (1 : Int32))] []))
          refine hst (fun _ kt => XS.aloadN X_27.here hx rfl (hb hby d2_47) rfl rfl kt) ?_
          show G (T_27.setTop (mkF m 48 #[.val (.ref a), .val (.int (1 : Int32))] [(.ref a)]))
          refine hst (fun _ kt => XS.aloadN X_27.here hx rfl (hb hby d2_48) rfl rfl kt) ?_
          show G (T_27.setTop (mkF m 49 #[.val (.ref a), .val (.int (1 : Int32))] [(.ref a), (.ref a)]))
          obtain ⟨T_28, X_28, e_28, st_28⟩ := getF X_27 hx hZ hown (host := "") (Or.inl (own_w62 hw)) Via.refl e_27 F_numbers_a (g := (mkF m 49 #[.val (.ref a), .val (.int (1 : Int32))] [(.ref a), (.ref a)])) rfl rfl (hb hby d2_49)
          refine hst st_28 ?_
          show G (T_28.setTop (mkF m 52 #[.val (.ref a), .val (.int (1 : Int32))] [(.ref bn), (.ref a)]))
          refine hst (fun _ kt => XS.iloadN X_28.here hx rfl (hb hby d2_52) rfl kt) ?_
          show G (T_28.setTop (mkF m 53 #[.val (.ref a), .val (.int (1 : Int32))] [(.int (1 : Int32)), (.ref bn), (.ref a)]))
          obtain ⟨cl_29, Ar_29, -, S_29, M_29, Hs_29, -⟩ := id V_bn
          have hin_29 : ¬ ((1 : Int32) < 0 ∨ cl_29.slots.size ≤ ((1 : Int32)).toNatClampNeg) := inb_of S_29 ⟨by decide, by decide⟩
          have hat_29 : cl_29.slots[((1 : Int32)).toNatClampNeg]? = some (.int m1) := Has.at Hs_29 hin_29 rfl
          refine hst (X_28.iaload hx (j := (1 : Int32)) (v := (.int m1)) (by rw [e_28]; exact Ar_29.1) (State.isArrayOf_alike hZ.alike Ar_29.2.1) Ar_29.2.2 hin_29 hat_29 (g := (mkF m 53 #[.val (.ref a), .val (.int (1 : Int32))] [(.int (1 : Int32)), (.ref bn), (.ref a)])) rfl rfl (hb hby d2_53)) ?_
          show G (T_28.setTop (mkF m 54 #[.val (.ref a), .val (.int (1 : Int32))] [(.int m1), (.ref a)]))
          obtain ⟨T_30, h_30, X_30, e_30, W_30, st_30⟩ := putF X_28 hx hZ hown (host := "") (Or.inl (own_w60 hw)) Via.refl e_28 F_oldest_a E_a (Or.inl (own_w34 hw)) (own_w2 hw) (ty := .int) (by decide) rfl rfl (g := (mkF m 54 #[.val (.ref a), .val (.int (1 : Int32))] [(.int m1), (.ref a)])) rfl rfl (hb hby d2_54)
          have Z0 := Nat.le_trans Z0 (Keep.of_wr W_30).1
          have E_a := E_a.wr W_30
          have F_numbers_a := F_numbers_a.other W_30 (Or.inr (slot_ne (Or.inr (own_w12 hw)) (Or.inl (own_w34 hw)) (by decide) (t := (.array .int)) (t' := .int) (by decide) (by decide)))
          have F_places_a := F_places_a.other W_30 (Or.inr (slot_ne (Or.inr (own_w17 hw)) (Or.inl (own_w34 hw)) (by decide) (t := (.array .long)) (t' := .int) (by decide) (by decide)))
          have F_size_a := F_size_a.other W_30 (Or.inr (slot_ne (Or.inl (own_w51 hw)) (Or.inl (own_w34 hw)) (by decide) (t := .int) (t' := .int) (by decide) (by decide)))
          have F_oldest_a := F_oldest_a.same W_30
          have F_oldestPlace_a := F_oldestPlace_a.other W_30 (Or.inr (slot_ne (Or.inl (own_w55 hw)) (Or.inl (own_w34 hw)) (by decide) (t := .long) (t' := .int) (by decide) (by decide)))
          have V_bn := V_bn.other W_30 (Ne.symm ne_a_bn)
          have V_bp := V_bp.other W_30 (Ne.symm ne_a_bp)
          have K0 := K0.wr W_30 (Or.inl (List.mem_of_getElem? (i := 0) rfl))
          have N_30 := Fr.snoc X_30 Nj_23 le_n0_a
          refine hst st_30 ?_
          show G (T_30.setTop (mkF m 57 #[.val (.ref a), .val (.int (1 : Int32))] []))
          refine hst (fun _ kt => XS.aloadN X_30.here hx rfl (hb hby d2_57) rfl rfl kt) ?_
          show G (T_30.setTop (mkF m 58 #[.val (.ref a), .val (.int (1 : Int32))] [(.ref a)]))
          refine hst (fun _ kt => XS.aloadN X_30.here hx rfl (hb hby d2_58) rfl rfl kt) ?_
          show G (T_30.setTop (mkF m 59 #[.val (.ref a), .val (.int (1 : Int32))] [(.ref a), (.ref a)]))
          obtain ⟨T_31, X_31, e_31, st_31⟩ := getF X_30 hx hZ hown (host := "") (Or.inl (own_w63 hw)) Via.refl e_30 F_places_a (g := (mkF m 59 #[.val (.ref a), .val (.int (1 : Int32))] [(.ref a), (.ref a)])) rfl rfl (hb hby d2_59)
          refine hst st_31 ?_
          show G (T_31.setTop (mkF m 62 #[.val (.ref a), .val (.int (1 : Int32))] [(.ref bp), (.ref a)]))
          refine hst (fun _ kt => XS.iloadN X_31.here hx rfl (hb hby d2_62) rfl kt) ?_
          show G (T_31.setTop (mkF m 63 #[.val (.ref a), .val (.int (1 : Int32))] [(.int (1 : Int32)), (.ref bp), (.ref a)]))
          obtain ⟨cl_32, Ar_32, -, S_32, M_32, Hs_32, -⟩ := id V_bp
          have hin_32 : ¬ ((1 : Int32) < 0 ∨ cl_32.slots.size ≤ ((1 : Int32)).toNatClampNeg) := inb_of S_32 ⟨by decide, by decide⟩
          have hat_32 : cl_32.slots[((1 : Int32)).toNatClampNeg]? = some (.long r1) := Has.at Hs_32 hin_32 rfl
          refine hst (X_31.laload hx (j := (1 : Int32)) (v := (.long r1)) (by rw [e_31]; exact Ar_32.1) (State.isArrayOf_alike hZ.alike Ar_32.2.1) Ar_32.2.2 hin_32 hat_32 (g := (mkF m 63 #[.val (.ref a), .val (.int (1 : Int32))] [(.int (1 : Int32)), (.ref bp), (.ref a)])) rfl rfl (hb hby d2_63)) ?_
          show G (T_31.setTop (mkF m 64 #[.val (.ref a), .val (.int (1 : Int32))] [(.long r1), (.ref a)]))
          obtain ⟨T_33, h_33, X_33, e_33, W_33, st_33⟩ := putF X_31 hx hZ hown (host := "") (Or.inl (own_w64 hw)) Via.refl e_31 F_oldestPlace_a E_a (Or.inl (own_w55 hw)) (own_w2 hw) (ty := .long) (by decide) rfl rfl (g := (mkF m 64 #[.val (.ref a), .val (.int (1 : Int32))] [(.long r1), (.ref a)])) rfl rfl (hb hby d2_64)
          have Z0 := Nat.le_trans Z0 (Keep.of_wr W_33).1
          have E_a := E_a.wr W_33
          have F_numbers_a := F_numbers_a.other W_33 (Or.inr (slot_ne (Or.inr (own_w12 hw)) (Or.inl (own_w55 hw)) (by decide) (t := (.array .int)) (t' := .long) (by decide) (by decide)))
          have F_places_a := F_places_a.other W_33 (Or.inr (slot_ne (Or.inr (own_w17 hw)) (Or.inl (own_w55 hw)) (by decide) (t := (.array .long)) (t' := .long) (by decide) (by decide)))
          have F_size_a := F_size_a.other W_33 (Or.inr (slot_ne (Or.inl (own_w51 hw)) (Or.inl (own_w55 hw)) (by decide) (t := .int) (t' := .long) (by decide) (by decide)))
          have F_oldest_a := F_oldest_a.other W_33 (Or.inr (slot_ne (Or.inl (own_w34 hw)) (Or.inl (own_w55 hw)) (by decide) (t := .int) (t' := .long) (by decide) (by decide)))
          have F_oldestPlace_a := F_oldestPlace_a.same W_33
          have V_bn := V_bn.other W_33 (Ne.symm ne_a_bn)
          have V_bp := V_bp.other W_33 (Ne.symm ne_a_bp)
          have K0 := K0.wr W_33 (Or.inl (List.mem_of_getElem? (i := 0) rfl))
          have N_33 := Fr.snoc X_33 N_30 le_n0_a
          refine hst st_33 ?_
          show G (T_33.setTop (mkF m 67 #[.val (.ref a), .val (.int (1 : Int32))] []))
          refine hst (fun _ kt => XS.iinc X_33.here hx rfl (hb hby d2_67) rfl (l' := #[.val (.ref a), .val (.int ((1 : Int32) + (1 : Int32)))]) rfl kt) ?_
          show G (T_33.setTop (mkF m 70 #[.val (.ref a), .val (.int ((1 : Int32) + (1 : Int32)))] []))
          rw [show ((1 : Int32) + (1 : Int32)) = (2 : Int32) from by decide]
          show G (T_33.setTop (mkF m 70 #[.val (.ref a), .val (.int (2 : Int32))] []))
          refine hst (fun _ kt => XS.goto X_33.here hx rfl (pc0 := 70) (pc' := 7) rfl (hb hby d2_70) (by decide) (by decide) kt) ?_
          show G (T_33.setTop (mkF m 7 #[.val (.ref a), .val (.int (2 : Int32))] []))
          exact J2 m1 r1 h_33 T_33 _ X_33 e_33 N_33 Z0 E_a F_numbers_a F_places_a F_size_a F_oldest_a F_oldestPlace_a V_bn V_bp K0 (by rw [own_stp, if_neg hc22, if_pos hc30] at hr; exact hr)
        ·
          refine hst (fun _ kt => XS.icmpNo X_27.here hx rfl (hb hby d2_30) rfl (feq hc30).1 kt) ?_
          show G (T_27.setTop (mkF m 33 #[.val (.ref a), .val (.int (1 : Int32))] []))
          refine hst (fun _ kt => XS.aloadN X_27.here hx rfl (hb hby d2_33) rfl rfl kt) ?_
          show G (T_27.setTop (mkF m 34 #[.val (.ref a), .val (.int (1 : Int32))] [(.ref a)]))
          obtain ⟨T_34, X_34, e_34, st_34⟩ := getF X_27 hx hZ hown (host := "") (Or.inl (own_w63 hw)) Via.refl e_27 F_places_a (g := (mkF m 34 #[.val (.ref a), .val (.int (1 : Int32))] [(.ref a)])) rfl rfl (hb hby d2_34)
          refine hst st_34 ?_
          show G (T_34.setTop (mkF m 37 #[.val (.ref a), .val (.int (1 : Int32))] [(.ref bp)]))
          refine hst (fun _ kt => XS.iloadN X_34.here hx rfl (hb hby d2_37) rfl kt) ?_
          show G (T_34.setTop (mkF m 38 #[.val (.ref a), .val (.int (1 : Int32))] [(.int (1 : Int32)), (.ref bp)]))
          obtain ⟨cl_35, Ar_35, -, S_35, M_35, Hs_35, -⟩ := id V_bp
          have hin_35 : ¬ ((1 : Int32) < 0 ∨ cl_35.slots.size ≤ ((1 : Int32)).toNatClampNeg) := inb_of S_35 ⟨by decide, by decide⟩
          have hat_35 : cl_35.slots[((1 : Int32)).toNatClampNeg]? = some (.long r1) := Has.at Hs_35 hin_35 rfl
          refine hst (X_34.laload hx (j := (1 : Int32)) (v := (.long r1)) (by rw [e_34]; exact Ar_35.1) (State.isArrayOf_alike hZ.alike Ar_35.2.1) Ar_35.2.2 hin_35 hat_35 (g := (mkF m 38 #[.val (.ref a), .val (.int (1 : Int32))] [(.int (1 : Int32)), (.ref bp)])) rfl rfl (hb hby d2_38)) ?_
          show G (T_34.setTop (mkF m 39 #[.val (.ref a), .val (.int (1 : Int32))] [(.long r1)]))
          refine hst (fun _ kt => XS.aloadN X_34.here hx rfl (hb hby d2_39) rfl rfl kt) ?_
          show G (T_34.setTop (mkF m 40 #[.val (.ref a), .val (.int (1 : Int32))] [(.ref a), (.long r1)]))
          obtain ⟨T_36, X_36, e_36, st_36⟩ := getF X_34 hx hZ hown (host := "") (Or.inl (own_w64 hw)) Via.refl e_34 F_oldestPlace_a (g := (mkF m 40 #[.val (.ref a), .val (.int (1 : Int32))] [(.ref a), (.long r1)])) rfl rfl (hb hby d2_40)
          refine hst st_36 ?_
          show G (T_36.setTop (mkF m 43 #[.val (.ref a), .val (.int (1 : Int32))] [(.long oq), (.long r1)]))
          refine hst (fun _ kt => XS.lcmp X_36.here hx rfl (hb hby d2_43) rfl kt) ?_
          show G (T_36.setTop (mkF m 44 #[.val (.ref a), .val (.int (1 : Int32))] [(.int (lcmpW r1 oq))]))
          by_cases hc44 : r1 < oq
          ·
            refine hst (fun _ kt => XS.ifNo X_36.here hx rfl (hb hby d2_44) rfl ((if0 _ _).trans (tlt ((lw_lt _ _).mpr hc44)).2.1) kt) ?_
            show G (T_36.setTop (mkF m 47 #[.val (.ref a), .val (.int (1 : Int32))] []))
            refine hst (fun _ kt => XS.aloadN X_36.here hx rfl (hb hby d2_47) rfl rfl kt) ?_
            show G (T_36.setTop (mkF m 48 #[.val (.ref a), .val (.int (1 : Int32))] [(.ref a)]))
            refine hst (fun _ kt => XS.aloadN X_36.here hx rfl (hb hby d2_48) rfl rfl kt) ?_
            show G (T_36.setTop (mkF m 49 #[.val (.ref a), .val (.int (1 : Int32))] [(.ref a), (.ref a)]))
            obtain ⟨T_37, X_37, e_37, st_37⟩ := getF X_36 hx hZ hown (host := "") (Or.inl (own_w62 hw)) Via.refl e_36 F_numbers_a (g := (mkF m 49 #[.val (.ref a), .val (.int (1 : Int32))] [(.ref a), (.ref a)])) rfl rfl (hb hby d2_49)
            refine hst st_37 ?_
            show G (T_37.setTop (mkF m 52 #[.val (.ref a), .val (.int (1 : Int32))] [(.ref bn), (.ref a)]))
            refine hst (fun _ kt => XS.iloadN X_37.here hx rfl (hb hby d2_52) rfl kt) ?_
            show G (T_37.setTop (mkF m 53 #[.val (.ref a), .val (.int (1 : Int32))] [(.int (1 : Int32)), (.ref bn), (.ref a)]))
            obtain ⟨cl_38, Ar_38, -, S_38, M_38, Hs_38, -⟩ := id V_bn
            have hin_38 : ¬ ((1 : Int32) < 0 ∨ cl_38.slots.size ≤ ((1 : Int32)).toNatClampNeg) := inb_of S_38 ⟨by decide, by decide⟩
            have hat_38 : cl_38.slots[((1 : Int32)).toNatClampNeg]? = some (.int m1) := Has.at Hs_38 hin_38 rfl
            refine hst (X_37.iaload hx (j := (1 : Int32)) (v := (.int m1)) (by rw [e_37]; exact Ar_38.1) (State.isArrayOf_alike hZ.alike Ar_38.2.1) Ar_38.2.2 hin_38 hat_38 (g := (mkF m 53 #[.val (.ref a), .val (.int (1 : Int32))] [(.int (1 : Int32)), (.ref bn), (.ref a)])) rfl rfl (hb hby d2_53)) ?_
            show G (T_37.setTop (mkF m 54 #[.val (.ref a), .val (.int (1 : Int32))] [(.int m1), (.ref a)]))
            obtain ⟨T_39, h_39, X_39, e_39, W_39, st_39⟩ := putF X_37 hx hZ hown (host := "") (Or.inl (own_w60 hw)) Via.refl e_37 F_oldest_a E_a (Or.inl (own_w34 hw)) (own_w2 hw) (ty := .int) (by decide) rfl rfl (g := (mkF m 54 #[.val (.ref a), .val (.int (1 : Int32))] [(.int m1), (.ref a)])) rfl rfl (hb hby d2_54)
            have Z0 := Nat.le_trans Z0 (Keep.of_wr W_39).1
            have E_a := E_a.wr W_39
            have F_numbers_a := F_numbers_a.other W_39 (Or.inr (slot_ne (Or.inr (own_w12 hw)) (Or.inl (own_w34 hw)) (by decide) (t := (.array .int)) (t' := .int) (by decide) (by decide)))
            have F_places_a := F_places_a.other W_39 (Or.inr (slot_ne (Or.inr (own_w17 hw)) (Or.inl (own_w34 hw)) (by decide) (t := (.array .long)) (t' := .int) (by decide) (by decide)))
            have F_size_a := F_size_a.other W_39 (Or.inr (slot_ne (Or.inl (own_w51 hw)) (Or.inl (own_w34 hw)) (by decide) (t := .int) (t' := .int) (by decide) (by decide)))
            have F_oldest_a := F_oldest_a.same W_39
            have F_oldestPlace_a := F_oldestPlace_a.other W_39 (Or.inr (slot_ne (Or.inl (own_w55 hw)) (Or.inl (own_w34 hw)) (by decide) (t := .long) (t' := .int) (by decide) (by decide)))
            have V_bn := V_bn.other W_39 (Ne.symm ne_a_bn)
            have V_bp := V_bp.other W_39 (Ne.symm ne_a_bp)
            have K0 := K0.wr W_39 (Or.inl (List.mem_of_getElem? (i := 0) rfl))
            have N_39 := Fr.snoc X_39 Nj_23 le_n0_a
            refine hst st_39 ?_
            show G (T_39.setTop (mkF m 57 #[.val (.ref a), .val (.int (1 : Int32))] []))
            refine hst (fun _ kt => XS.aloadN X_39.here hx rfl (hb hby d2_57) rfl rfl kt) ?_
            show G (T_39.setTop (mkF m 58 #[.val (.ref a), .val (.int (1 : Int32))] [(.ref a)]))
            refine hst (fun _ kt => XS.aloadN X_39.here hx rfl (hb hby d2_58) rfl rfl kt) ?_
            show G (T_39.setTop (mkF m 59 #[.val (.ref a), .val (.int (1 : Int32))] [(.ref a), (.ref a)]))
            obtain ⟨T_40, X_40, e_40, st_40⟩ := getF X_39 hx hZ hown (host := "") (Or.inl (own_w63 hw)) Via.refl e_39 F_places_a (g := (mkF m 59 #[.val (.ref a), .val (.int (1 : Int32))] [(.ref a), (.ref a)])) rfl rfl (hb hby d2_59)
            refine hst st_40 ?_
            show G (T_40.setTop (mkF m 62 #[.val (.ref a), .val (.int (1 : Int32))] [(.ref bp), (.ref a)]))
            refine hst (fun _ kt => XS.iloadN X_40.here hx rfl (hb hby d2_62) rfl kt) ?_
            show G (T_40.setTop (mkF m 63 #[.val (.ref a), .val (.int (1 : Int32))] [(.int (1 : Int32)), (.ref bp), (.ref a)]))
            obtain ⟨cl_41, Ar_41, -, S_41, M_41, Hs_41, -⟩ := id V_bp
            have hin_41 : ¬ ((1 : Int32) < 0 ∨ cl_41.slots.size ≤ ((1 : Int32)).toNatClampNeg) := inb_of S_41 ⟨by decide, by decide⟩
            have hat_41 : cl_41.slots[((1 : Int32)).toNatClampNeg]? = some (.long r1) := Has.at Hs_41 hin_41 rfl
            refine hst (X_40.laload hx (j := (1 : Int32)) (v := (.long r1)) (by rw [e_40]; exact Ar_41.1) (State.isArrayOf_alike hZ.alike Ar_41.2.1) Ar_41.2.2 hin_41 hat_41 (g := (mkF m 63 #[.val (.ref a), .val (.int (1 : Int32))] [(.int (1 : Int32)), (.ref bp), (.ref a)])) rfl rfl (hb hby d2_63)) ?_
            show G (T_40.setTop (mkF m 64 #[.val (.ref a), .val (.int (1 : Int32))] [(.long r1), (.ref a)]))
            obtain ⟨T_42, h_42, X_42, e_42, W_42, st_42⟩ := putF X_40 hx hZ hown (host := "") (Or.inl (own_w64 hw)) Via.refl e_40 F_oldestPlace_a E_a (Or.inl (own_w55 hw)) (own_w2 hw) (ty := .long) (by decide) rfl rfl (g := (mkF m 64 #[.val (.ref a), .val (.int (1 : Int32))] [(.long r1), (.ref a)])) rfl rfl (hb hby d2_64)
            have Z0 := Nat.le_trans Z0 (Keep.of_wr W_42).1
            have E_a := E_a.wr W_42
            have F_numbers_a := F_numbers_a.other W_42 (Or.inr (slot_ne (Or.inr (own_w12 hw)) (Or.inl (own_w55 hw)) (by decide) (t := (.array .int)) (t' := .long) (by decide) (by decide)))
            have F_places_a := F_places_a.other W_42 (Or.inr (slot_ne (Or.inr (own_w17 hw)) (Or.inl (own_w55 hw)) (by decide) (t := (.array .long)) (t' := .long) (by decide) (by decide)))
            have F_size_a := F_size_a.other W_42 (Or.inr (slot_ne (Or.inl (own_w51 hw)) (Or.inl (own_w55 hw)) (by decide) (t := .int) (t' := .long) (by decide) (by decide)))
            have F_oldest_a := F_oldest_a.other W_42 (Or.inr (slot_ne (Or.inl (own_w34 hw)) (Or.inl (own_w55 hw)) (by decide) (t := .int) (t' := .long) (by decide) (by decide)))
            have F_oldestPlace_a := F_oldestPlace_a.same W_42
            have V_bn := V_bn.other W_42 (Ne.symm ne_a_bn)
            have V_bp := V_bp.other W_42 (Ne.symm ne_a_bp)
            have K0 := K0.wr W_42 (Or.inl (List.mem_of_getElem? (i := 0) rfl))
            have N_42 := Fr.snoc X_42 N_39 le_n0_a
            refine hst st_42 ?_
            show G (T_42.setTop (mkF m 67 #[.val (.ref a), .val (.int (1 : Int32))] []))
            refine hst (fun _ kt => XS.iinc X_42.here hx rfl (hb hby d2_67) rfl (l' := #[.val (.ref a), .val (.int ((1 : Int32) + (1 : Int32)))]) rfl kt) ?_
            show G (T_42.setTop (mkF m 70 #[.val (.ref a), .val (.int ((1 : Int32) + (1 : Int32)))] []))
            rw [show ((1 : Int32) + (1 : Int32)) = (2 : Int32) from by decide]
            show G (T_42.setTop (mkF m 70 #[.val (.ref a), .val (.int (2 : Int32))] []))
            refine hst (fun _ kt => XS.goto X_42.here hx rfl (pc0 := 70) (pc' := 7) rfl (hb hby d2_70) (by decide) (by decide) kt) ?_
            show G (T_42.setTop (mkF m 7 #[.val (.ref a), .val (.int (2 : Int32))] []))
            exact J2 m1 r1 h_42 T_42 _ X_42 e_42 N_42 Z0 E_a F_numbers_a F_places_a F_size_a F_oldest_a F_oldestPlace_a V_bn V_bp K0 (by rw [own_stp, if_neg hc22, if_neg hc30, if_pos hc44] at hr; exact hr)
          ·
            refine hst (fun _ kt => XS.ifYes X_36.here hx rfl (pc0 := 44) (pc' := 67) rfl (hb hby d2_44) rfl ((if0 _ _).trans (flt (mt (lw_lt _ _).mp hc44)).2.1) (by decide) (by decide) kt) ?_
            show G (T_36.setTop (mkF m 67 #[.val (.ref a), .val (.int (1 : Int32))] []))
            refine hst (fun _ kt => XS.iinc X_36.here hx rfl (hb hby d2_67) rfl (l' := #[.val (.ref a), .val (.int ((1 : Int32) + (1 : Int32)))]) rfl kt) ?_
            show G (T_36.setTop (mkF m 70 #[.val (.ref a), .val (.int ((1 : Int32) + (1 : Int32)))] []))
            rw [show ((1 : Int32) + (1 : Int32)) = (2 : Int32) from by decide]
            show G (T_36.setTop (mkF m 70 #[.val (.ref a), .val (.int (2 : Int32))] []))
            refine hst (fun _ kt => XS.goto X_36.here hx rfl (pc0 := 70) (pc' := 7) rfl (hb hby d2_70) (by decide) (by decide) kt) ?_
            show G (T_36.setTop (mkF m 7 #[.val (.ref a), .val (.int (2 : Int32))] []))
            exact J2 o oq hj_23 T_36 _ X_36 e_36 Nj_23 Z0 E_a F_numbers_a F_places_a F_size_a F_oldest_a F_oldestPlace_a V_bn V_bp K0 (by rw [own_stp, if_neg hc22, if_neg hc30, if_neg hc44] at hr; exact hr)
    ·
      refine hst (fun _ kt => XS.icmpYes X_24.here hx rfl (pc0 := 12) (pc' := 73) rfl (hb hby d2_12) rfl (flt hc12).2.1 (by decide) (by decide) kt) ?_
      show G (T_24.setTop (mkF m 73 #[.val (.ref a), .val (.int (1 : Int32))] []))
      rw [own_f1, if_neg hc12] at hr
      exact hend (own_goVoid X_24 hx Bd.returns (hb hby d2_73) Bd.notSynchronized (by rw [e_24]; exact ⟨rfl, Nj_23, K0, E_a, by rw [← hr]; exact F_oldest_a, by rw [← hr]; exact F_oldestPlace_a⟩) (by decide) (by decide))
  have J0 : ∀ (o : Int32) (oq : Int64) (hj_43 : Heap) (Tj_43 : State) (lj_43 : List Loc) (Xj_43 : Stand p l e ({ frames := 0, cells := 0, slots := 0, locals := 0 } : Room) s m #[(.ref a)] below meth c Tj_43 lj_43 0 0) (ej_43 : Tj_43.heap = hj_43) (Nj_43 : Fr n0 lj_43) (Z0 : n0 ≤ hj_43.size) (E_a : Exa Z hj_43 a own_B) (F_numbers_a : Fld Z hj_43 a own_B "numbers" "[I" (.ref bn)) (F_places_a : Fld Z hj_43 a own_B "places" "[J" (.ref bp)) (F_size_a : Fld Z hj_43 a own_B "size" "I" (.int sz)) (F_oldest_a : Fld Z hj_43 a own_B "oldest" "I" (.int o)) (F_oldestPlace_a : Fld Z hj_43 a own_B "oldestPlace" "J" (.long oq)) (V_bn : Arv Z hj_43 bn kn .int (256 : Int32) [(.int m0), (.int m1), (.int m2)] (.int (0 : Int32))) (V_bp : Arv Z hj_43 bp kp .long (256 : Int32) [(.long r0), (.long r1), (.long r2)] (.long (0 : Int64))) (K0 : Keep h0 hj_43 [a]) (hr : own_f0 sz m0 r0 m1 r1 m2 r2 (o, oq) = res), G (Tj_43.setTop (mkF m 7 #[.val (.ref a), .val (.int (0 : Int32))] [])) := by
    intro o oq hj_43 Tj_43 lj_43 Xj_43 ej_43 Nj_43 Z0 E_a F_numbers_a F_places_a F_size_a F_oldest_a F_oldestPlace_a V_bn V_bp K0 hr
    show G (Tj_43.setTop (mkF m 7 #[.val (.ref a), .val (.int (0 : Int32))] []))
    refine hst (fun _ kt => XS.iloadN Xj_43.here hx rfl (hb hby d2_7) rfl kt) ?_
    show G (Tj_43.setTop (mkF m 8 #[.val (.ref a), .val (.int (0 : Int32))] [(.int (0 : Int32))]))
    refine hst (fun _ kt => XS.aloadN Xj_43.here hx rfl (hb hby d2_8) rfl rfl kt) ?_
    show G (Tj_43.setTop (mkF m 9 #[.val (.ref a), .val (.int (0 : Int32))] [(.ref a), (.int (0 : Int32))]))
    obtain ⟨T_44, X_44, e_44, st_44⟩ := getF Xj_43 hx hZ hown (host := "") (Or.inl (own_w61 hw)) Via.refl ej_43 F_size_a (g := (mkF m 9 #[.val (.ref a), .val (.int (0 : Int32))] [(.ref a), (.int (0 : Int32))])) rfl rfl (hb hby d2_9)
    refine hst st_44 ?_
    show G (T_44.setTop (mkF m 12 #[.val (.ref a), .val (.int (0 : Int32))] [(.int sz), (.int (0 : Int32))]))
    by_cases hc12 : (0 : Int32) < sz
    ·
      refine hst (fun _ kt => XS.icmpNo X_44.here hx rfl (hb hby d2_12) rfl (tlt hc12).2.1 kt) ?_
      show G (T_44.setTop (mkF m 15 #[.val (.ref a), .val (.int (0 : Int32))] []))
      rw [own_f0, if_pos hc12] at hr
      refine hst (fun _ kt => XS.aloadN X_44.here hx rfl (hb hby d2_15) rfl rfl kt) ?_
      show G (T_44.setTop (mkF m 16 #[.val (.ref a), .val (.int (0 : Int32))] [(.ref a)]))
      obtain ⟨T_45, X_45, e_45, st_45⟩ := getF X_44 hx hZ hown (host := "") (Or.inl (own_w62 hw)) Via.refl e_44 F_numbers_a (g := (mkF m 16 #[.val (.ref a), .val (.int (0 : Int32))] [(.ref a)])) rfl rfl (hb hby d2_16)
      refine hst st_45 ?_
      show G (T_45.setTop (mkF m 19 #[.val (.ref a), .val (.int (0 : Int32))] [(.ref bn)]))
      refine hst (fun _ kt => XS.iloadN X_45.here hx rfl (hb hby d2_19) rfl kt) ?_
      show G (T_45.setTop (mkF m 20 #[.val (.ref a), .val (.int (0 : Int32))] [(.int (0 : Int32)), (.ref bn)]))
      obtain ⟨cl_46, Ar_46, -, S_46, M_46, Hs_46, -⟩ := id V_bn
      have hin_46 : ¬ ((0 : Int32) < 0 ∨ cl_46.slots.size ≤ ((0 : Int32)).toNatClampNeg) := inb_of S_46 ⟨by decide, by decide⟩
      have hat_46 : cl_46.slots[((0 : Int32)).toNatClampNeg]? = some (.int m0) := Has.at Hs_46 hin_46 rfl
      refine hst (X_45.iaload hx (j := (0 : Int32)) (v := (.int m0)) (by rw [e_45]; exact Ar_46.1) (State.isArrayOf_alike hZ.alike Ar_46.2.1) Ar_46.2.2 hin_46 hat_46 (g := (mkF m 20 #[.val (.ref a), .val (.int (0 : Int32))] [(.int (0 : Int32)), (.ref bn)])) rfl rfl (hb hby d2_20)) ?_
      show G (T_45.setTop (mkF m 21 #[.val (.ref a), .val (.int (0 : Int32))] [(.int m0)]))
      refine hst (fun _ kt => XS.iconst X_45.here hx rfl (hb hby d2_21) kt) ?_
      show G (T_45.setTop (mkF m 22 #[.val (.ref a), .val (.int (0 : Int32))] [(.int (-1 : Int32)), (.int m0)]))
      by_cases hc22 : m0 = (-1 : Int32)
      ·
        refine hst (fun _ kt => XS.icmpYes X_45.here hx rfl (pc0 := 22) (pc' := 67) rfl (hb hby d2_22) rfl (teq hc22).1 (by decide) (by decide) kt) ?_
        show G (T_45.setTop (mkF m 67 #[.val (.ref a), .val (.int (0 : Int32))] []))
        refine hst (fun _ kt => XS.iinc X_45.here hx rfl (hb hby d2_67) rfl (l' := #[.val (.ref a), .val (.int ((0 : Int32) + (1 : Int32)))]) rfl kt) ?_
        show G (T_45.setTop (mkF m 70 #[.val (.ref a), .val (.int ((0 : Int32) + (1 : Int32)))] []))
        rw [show ((0 : Int32) + (1 : Int32)) = (1 : Int32) from by decide]
        show G (T_45.setTop (mkF m 70 #[.val (.ref a), .val (.int (1 : Int32))] []))
        refine hst (fun _ kt => XS.goto X_45.here hx rfl (pc0 := 70) (pc' := 7) rfl (hb hby d2_70) (by decide) (by decide) kt) ?_
        show G (T_45.setTop (mkF m 7 #[.val (.ref a), .val (.int (1 : Int32))] []))
        exact J1 o oq hj_43 T_45 _ X_45 e_45 Nj_43 Z0 E_a F_numbers_a F_places_a F_size_a F_oldest_a F_oldestPlace_a V_bn V_bp K0 (by rw [own_stp, if_pos hc22] at hr; exact hr)
      ·
        refine hst (fun _ kt => XS.icmpNo X_45.here hx rfl (hb hby d2_22) rfl (feq hc22).1 kt) ?_
        show G (T_45.setTop (mkF m 25 #[.val (.ref a), .val (.int (0 : Int32))] []))
        refine hst (fun _ kt => XS.aloadN X_45.here hx rfl (hb hby d2_25) rfl rfl kt) ?_
        show G (T_45.setTop (mkF m 26 #[.val (.ref a), .val (.int (0 : Int32))] [(.ref a)]))
        obtain ⟨T_47, X_47, e_47, st_47⟩ := getF X_45 hx hZ hown (host := "") (Or.inl (own_w60 hw)) Via.refl e_45 F_oldest_a (g := (mkF m 26 #[.val (.ref a), .val (.int (0 : Int32))] [(.ref a)])) rfl rfl (hb hby d2_26)
        refine hst st_47 ?_
        show G (T_47.setTop (mkF m 29 #[.val (.ref a), .val (.int (0 : Int32))] [(.int o)]))
        refine hst (fun _ kt => XS.iconst X_47.here hx rfl (hb hby d2_29) kt) ?_
        show G (T_47.setTop (mkF m 30 #[.val (.ref a), .val (.int (0 : Int32))] [(.int (-1 : Int32)), (.int o)]))
        by_cases hc30 : o = (-1 : Int32)
        ·
          refine hst (fun _ kt => XS.icmpYes X_47.here hx rfl (pc0 := 30) (pc' := 47) rfl (hb hby d2_30) rfl (teq hc30).1 (by decide) (by decide) kt) ?_
          show G (T_47.setTop (mkF m 47 #[.val (.ref a), .val (.int (0 : Int32))] []))
          refine hst (fun _ kt => XS.aloadN X_47.here hx rfl (hb hby d2_47) rfl rfl kt) ?_
          show G (T_47.setTop (mkF m 48 #[.val (.ref a), .val (.int (0 : Int32))] [(.ref a)]))
          refine hst (fun _ kt => XS.aloadN X_47.here hx rfl (hb hby d2_48) rfl rfl kt) ?_
          show G (T_47.setTop (mkF m 49 #[.val (.ref a), .val (.int (0 : Int32))] [(.ref a), (.ref a)]))
          obtain ⟨T_48, X_48, e_48, st_48⟩ := getF X_47 hx hZ hown (host := "") (Or.inl (own_w62 hw)) Via.refl e_47 F_numbers_a (g := (mkF m 49 #[.val (.ref a), .val (.int (0 : Int32))] [(.ref a), (.ref a)])) rfl rfl (hb hby d2_49)
          refine hst st_48 ?_
          show G (T_48.setTop (mkF m 52 #[.val (.ref a), .val (.int (0 : Int32))] [(.ref bn), (.ref a)]))
          refine hst (fun _ kt => XS.iloadN X_48.here hx rfl (hb hby d2_52) rfl kt) ?_
          show G (T_48.setTop (mkF m 53 #[.val (.ref a), .val (.int (0 : Int32))] [(.int (0 : Int32)), (.ref bn), (.ref a)]))
          obtain ⟨cl_49, Ar_49, -, S_49, M_49, Hs_49, -⟩ := id V_bn
          have hin_49 : ¬ ((0 : Int32) < 0 ∨ cl_49.slots.size ≤ ((0 : Int32)).toNatClampNeg) := inb_of S_49 ⟨by decide, by decide⟩
          have hat_49 : cl_49.slots[((0 : Int32)).toNatClampNeg]? = some (.int m0) := Has.at Hs_49 hin_49 rfl
          refine hst (X_48.iaload hx (j := (0 : Int32)) (v := (.int m0)) (by rw [e_48]; exact Ar_49.1) (State.isArrayOf_alike hZ.alike Ar_49.2.1) Ar_49.2.2 hin_49 hat_49 (g := (mkF m 53 #[.val (.ref a), .val (.int (0 : Int32))] [(.int (0 : Int32)), (.ref bn), (.ref a)])) rfl rfl (hb hby d2_53)) ?_
          show G (T_48.setTop (mkF m 54 #[.val (.ref a), .val (.int (0 : Int32))] [(.int m0), (.ref a)]))
          obtain ⟨T_50, h_50, X_50, e_50, W_50, st_50⟩ := putF X_48 hx hZ hown (host := "") (Or.inl (own_w60 hw)) Via.refl e_48 F_oldest_a E_a (Or.inl (own_w34 hw)) (own_w2 hw) (ty := .int) (by decide) rfl rfl (g := (mkF m 54 #[.val (.ref a), .val (.int (0 : Int32))] [(.int m0), (.ref a)])) rfl rfl (hb hby d2_54)
          have Z0 := Nat.le_trans Z0 (Keep.of_wr W_50).1
          have E_a := E_a.wr W_50
          have F_numbers_a := F_numbers_a.other W_50 (Or.inr (slot_ne (Or.inr (own_w12 hw)) (Or.inl (own_w34 hw)) (by decide) (t := (.array .int)) (t' := .int) (by decide) (by decide)))
          have F_places_a := F_places_a.other W_50 (Or.inr (slot_ne (Or.inr (own_w17 hw)) (Or.inl (own_w34 hw)) (by decide) (t := (.array .long)) (t' := .int) (by decide) (by decide)))
          have F_size_a := F_size_a.other W_50 (Or.inr (slot_ne (Or.inl (own_w51 hw)) (Or.inl (own_w34 hw)) (by decide) (t := .int) (t' := .int) (by decide) (by decide)))
          have F_oldest_a := F_oldest_a.same W_50
          have F_oldestPlace_a := F_oldestPlace_a.other W_50 (Or.inr (slot_ne (Or.inl (own_w55 hw)) (Or.inl (own_w34 hw)) (by decide) (t := .long) (t' := .int) (by decide) (by decide)))
          have V_bn := V_bn.other W_50 (Ne.symm ne_a_bn)
          have V_bp := V_bp.other W_50 (Ne.symm ne_a_bp)
          have K0 := K0.wr W_50 (Or.inl (List.mem_of_getElem? (i := 0) rfl))
          have N_50 := Fr.snoc X_50 Nj_43 le_n0_a
          refine hst st_50 ?_
          show G (T_50.setTop (mkF m 57 #[.val (.ref a), .val (.int (0 : Int32))] []))
          refine hst (fun _ kt => XS.aloadN X_50.here hx rfl (hb hby d2_57) rfl rfl kt) ?_
          show G (T_50.setTop (mkF m 58 #[.val (.ref a), .val (.int (0 : Int32))] [(.ref a)]))
          refine hst (fun _ kt => XS.aloadN X_50.here hx rfl (hb hby d2_58) rfl rfl kt) ?_
          show G (T_50.setTop (mkF m 59 #[.val (.ref a), .val (.int (0 : Int32))] [(.ref a), (.ref a)]))
          obtain ⟨T_51, X_51, e_51, st_51⟩ := getF X_50 hx hZ hown (host := "") (Or.inl (own_w63 hw)) Via.refl e_50 F_places_a (g := (mkF m 59 #[.val (.ref a), .val (.int (0 : Int32))] [(.ref a), (.ref a)])) rfl rfl (hb hby d2_59)
          refine hst st_51 ?_
          show G (T_51.setTop (mkF m 62 #[.val (.ref a), .val (.int (0 : Int32))] [(.ref bp), (.ref a)]))
          refine hst (fun _ kt => XS.iloadN X_51.here hx rfl (hb hby d2_62) rfl kt) ?_
          show G (T_51.setTop (mkF m 63 #[.val (.ref a), .val (.int (0 : Int32))] [(.int (0 : Int32)), (.ref bp), (.ref a)]))
          obtain ⟨cl_52, Ar_52, -, S_52, M_52, Hs_52, -⟩ := id V_bp
          have hin_52 : ¬ ((0 : Int32) < 0 ∨ cl_52.slots.size ≤ ((0 : Int32)).toNatClampNeg) := inb_of S_52 ⟨by decide, by decide⟩
          have hat_52 : cl_52.slots[((0 : Int32)).toNatClampNeg]? = some (.long r0) := Has.at Hs_52 hin_52 rfl
          refine hst (X_51.laload hx (j := (0 : Int32)) (v := (.long r0)) (by rw [e_51]; exact Ar_52.1) (State.isArrayOf_alike hZ.alike Ar_52.2.1) Ar_52.2.2 hin_52 hat_52 (g := (mkF m 63 #[.val (.ref a), .val (.int (0 : Int32))] [(.int (0 : Int32)), (.ref bp), (.ref a)])) rfl rfl (hb hby d2_63)) ?_
          show G (T_51.setTop (mkF m 64 #[.val (.ref a), .val (.int (0 : Int32))] [(.long r0), (.ref a)]))
          obtain ⟨T_53, h_53, X_53, e_53, W_53, st_53⟩ := putF X_51 hx hZ hown (host := "") (Or.inl (own_w64 hw)) Via.refl e_51 F_oldestPlace_a E_a (Or.inl (own_w55 hw)) (own_w2 hw) (ty := .long) (by decide) rfl rfl (g := (mkF m 64 #[.val (.ref a), .val (.int (0 : Int32))] [(.long r0), (.ref a)])) rfl rfl (hb hby d2_64)
          have Z0 := Nat.le_trans Z0 (Keep.of_wr W_53).1
          have E_a := E_a.wr W_53
          have F_numbers_a := F_numbers_a.other W_53 (Or.inr (slot_ne (Or.inr (own_w12 hw)) (Or.inl (own_w55 hw)) (by decide) (t := (.array .int)) (t' := .long) (by decide) (by decide)))
          have F_places_a := F_places_a.other W_53 (Or.inr (slot_ne (Or.inr (own_w17 hw)) (Or.inl (own_w55 hw)) (by decide) (t := (.array .long)) (t' := .long) (by decide) (by decide)))
          have F_size_a := F_size_a.other W_53 (Or.inr (slot_ne (Or.inl (own_w51 hw)) (Or.inl (own_w55 hw)) (by decide) (t := .int) (t' := .long) (by decide) (by decide)))
          have F_oldest_a := F_oldest_a.other W_53 (Or.inr (slot_ne (Or.inl (own_w34 hw)) (Or.inl (own_w55 hw)) (by decide) (t := .int) (t' := .long) (by decide) (by decide)))
          have F_oldestPlace_a := F_oldestPlace_a.same W_53
          have V_bn := V_bn.other W_53 (Ne.symm ne_a_bn)
          have V_bp := V_bp.other W_53 (Ne.symm ne_a_bp)
          have K0 := K0.wr W_53 (Or.inl (List.mem_of_getElem? (i := 0) rfl))
          have N_53 := Fr.snoc X_53 N_50 le_n0_a
          refine hst st_53 ?_
          show G (T_53.setTop (mkF m 67 #[.val (.ref a), .val (.int (0 : Int32))] []))
          refine hst (fun _ kt => XS.iinc X_53.here hx rfl (hb hby d2_67) rfl (l' := #[.val (.ref a), .val (.int ((0 : Int32) + (1 : Int32)))]) rfl kt) ?_
          show G (T_53.setTop (mkF m 70 #[.val (.ref a), .val (.int ((0 : Int32) + (1 : Int32)))] []))
          rw [show ((0 : Int32) + (1 : Int32)) = (1 : Int32) from by decide]
          show G (T_53.setTop (mkF m 70 #[.val (.ref a), .val (.int (1 : Int32))] []))
          refine hst (fun _ kt => XS.goto X_53.here hx rfl (pc0 := 70) (pc' := 7) rfl (hb hby d2_70) (by decide) (by decide) kt) ?_
          show G (T_53.setTop (mkF m 7 #[.val (.ref a), .val (.int (1 : Int32))] []))
          exact J1 m0 r0 h_53 T_53 _ X_53 e_53 N_53 Z0 E_a F_numbers_a F_places_a F_size_a F_oldest_a F_oldestPlace_a V_bn V_bp K0 (by rw [own_stp, if_neg hc22, if_pos hc30] at hr; exact hr)
        ·
          refine hst (fun _ kt => XS.icmpNo X_47.here hx rfl (hb hby d2_30) rfl (feq hc30).1 kt) ?_
          show G (T_47.setTop (mkF m 33 #[.val (.ref a), .val (.int (0 : Int32))] []))
          refine hst (fun _ kt => XS.aloadN X_47.here hx rfl (hb hby d2_33) rfl rfl kt) ?_
          show G (T_47.setTop (mkF m 34 #[.val (.ref a), .val (.int (0 : Int32))] [(.ref a)]))
          obtain ⟨T_54, X_54, e_54, st_54⟩ := getF X_47 hx hZ hown (host := "") (Or.inl (own_w63 hw)) Via.refl e_47 F_places_a (g := (mkF m 34 #[.val (.ref a), .val (.int (0 : Int32))] [(.ref a)])) rfl rfl (hb hby d2_34)
          refine hst st_54 ?_
          show G (T_54.setTop (mkF m 37 #[.val (.ref a), .val (.int (0 : Int32))] [(.ref bp)]))
          refine hst (fun _ kt => XS.iloadN X_54.here hx rfl (hb hby d2_37) rfl kt) ?_
          show G (T_54.setTop (mkF m 38 #[.val (.ref a), .val (.int (0 : Int32))] [(.int (0 : Int32)), (.ref bp)]))
          obtain ⟨cl_55, Ar_55, -, S_55, M_55, Hs_55, -⟩ := id V_bp
          have hin_55 : ¬ ((0 : Int32) < 0 ∨ cl_55.slots.size ≤ ((0 : Int32)).toNatClampNeg) := inb_of S_55 ⟨by decide, by decide⟩
          have hat_55 : cl_55.slots[((0 : Int32)).toNatClampNeg]? = some (.long r0) := Has.at Hs_55 hin_55 rfl
          refine hst (X_54.laload hx (j := (0 : Int32)) (v := (.long r0)) (by rw [e_54]; exact Ar_55.1) (State.isArrayOf_alike hZ.alike Ar_55.2.1) Ar_55.2.2 hin_55 hat_55 (g := (mkF m 38 #[.val (.ref a), .val (.int (0 : Int32))] [(.int (0 : Int32)), (.ref bp)])) rfl rfl (hb hby d2_38)) ?_
          show G (T_54.setTop (mkF m 39 #[.val (.ref a), .val (.int (0 : Int32))] [(.long r0)]))
          refine hst (fun _ kt => XS.aloadN X_54.here hx rfl (hb hby d2_39) rfl rfl kt) ?_
          show G (T_54.setTop (mkF m 40 #[.val (.ref a), .val (.int (0 : Int32))] [(.ref a), (.long r0)]))
          obtain ⟨T_56, X_56, e_56, st_56⟩ := getF X_54 hx hZ hown (host := "") (Or.inl (own_w64 hw)) Via.refl e_54 F_oldestPlace_a (g := (mkF m 40 #[.val (.ref a), .val (.int (0 : Int32))] [(.ref a), (.long r0)])) rfl rfl (hb hby d2_40)
          refine hst st_56 ?_
          show G (T_56.setTop (mkF m 43 #[.val (.ref a), .val (.int (0 : Int32))] [(.long oq), (.long r0)]))
          refine hst (fun _ kt => XS.lcmp X_56.here hx rfl (hb hby d2_43) rfl kt) ?_
          show G (T_56.setTop (mkF m 44 #[.val (.ref a), .val (.int (0 : Int32))] [(.int (lcmpW r0 oq))]))
          by_cases hc44 : r0 < oq
          ·
            refine hst (fun _ kt => XS.ifNo X_56.here hx rfl (hb hby d2_44) rfl ((if0 _ _).trans (tlt ((lw_lt _ _).mpr hc44)).2.1) kt) ?_
            show G (T_56.setTop (mkF m 47 #[.val (.ref a), .val (.int (0 : Int32))] []))
            refine hst (fun _ kt => XS.aloadN X_56.here hx rfl (hb hby d2_47) rfl rfl kt) ?_
            show G (T_56.setTop (mkF m 48 #[.val (.ref a), .val (.int (0 : Int32))] [(.ref a)]))
            refine hst (fun _ kt => XS.aloadN X_56.here hx rfl (hb hby d2_48) rfl rfl kt) ?_
            show G (T_56.setTop (mkF m 49 #[.val (.ref a), .val (.int (0 : Int32))] [(.ref a), (.ref a)]))
            obtain ⟨T_57, X_57, e_57, st_57⟩ := getF X_56 hx hZ hown (host := "") (Or.inl (own_w62 hw)) Via.refl e_56 F_numbers_a (g := (mkF m 49 #[.val (.ref a), .val (.int (0 : Int32))] [(.ref a), (.ref a)])) rfl rfl (hb hby d2_49)
            refine hst st_57 ?_
            show G (T_57.setTop (mkF m 52 #[.val (.ref a), .val (.int (0 : Int32))] [(.ref bn), (.ref a)]))
            refine hst (fun _ kt => XS.iloadN X_57.here hx rfl (hb hby d2_52) rfl kt) ?_
            show G (T_57.setTop (mkF m 53 #[.val (.ref a), .val (.int (0 : Int32))] [(.int (0 : Int32)), (.ref bn), (.ref a)]))
            obtain ⟨cl_58, Ar_58, -, S_58, M_58, Hs_58, -⟩ := id V_bn
            have hin_58 : ¬ ((0 : Int32) < 0 ∨ cl_58.slots.size ≤ ((0 : Int32)).toNatClampNeg) := inb_of S_58 ⟨by decide, by decide⟩
            have hat_58 : cl_58.slots[((0 : Int32)).toNatClampNeg]? = some (.int m0) := Has.at Hs_58 hin_58 rfl
            refine hst (X_57.iaload hx (j := (0 : Int32)) (v := (.int m0)) (by rw [e_57]; exact Ar_58.1) (State.isArrayOf_alike hZ.alike Ar_58.2.1) Ar_58.2.2 hin_58 hat_58 (g := (mkF m 53 #[.val (.ref a), .val (.int (0 : Int32))] [(.int (0 : Int32)), (.ref bn), (.ref a)])) rfl rfl (hb hby d2_53)) ?_
            show G (T_57.setTop (mkF m 54 #[.val (.ref a), .val (.int (0 : Int32))] [(.int m0), (.ref a)]))
            obtain ⟨T_59, h_59, X_59, e_59, W_59, st_59⟩ := putF X_57 hx hZ hown (host := "") (Or.inl (own_w60 hw)) Via.refl e_57 F_oldest_a E_a (Or.inl (own_w34 hw)) (own_w2 hw) (ty := .int) (by decide) rfl rfl (g := (mkF m 54 #[.val (.ref a), .val (.int (0 : Int32))] [(.int m0), (.ref a)])) rfl rfl (hb hby d2_54)
            have Z0 := Nat.le_trans Z0 (Keep.of_wr W_59).1
            have E_a := E_a.wr W_59
            have F_numbers_a := F_numbers_a.other W_59 (Or.inr (slot_ne (Or.inr (own_w12 hw)) (Or.inl (own_w34 hw)) (by decide) (t := (.array .int)) (t' := .int) (by decide) (by decide)))
            have F_places_a := F_places_a.other W_59 (Or.inr (slot_ne (Or.inr (own_w17 hw)) (Or.inl (own_w34 hw)) (by decide) (t := (.array .long)) (t' := .int) (by decide) (by decide)))
            have F_size_a := F_size_a.other W_59 (Or.inr (slot_ne (Or.inl (own_w51 hw)) (Or.inl (own_w34 hw)) (by decide) (t := .int) (t' := .int) (by decide) (by decide)))
            have F_oldest_a := F_oldest_a.same W_59
            have F_oldestPlace_a := F_oldestPlace_a.other W_59 (Or.inr (slot_ne (Or.inl (own_w55 hw)) (Or.inl (own_w34 hw)) (by decide) (t := .long) (t' := .int) (by decide) (by decide)))
            have V_bn := V_bn.other W_59 (Ne.symm ne_a_bn)
            have V_bp := V_bp.other W_59 (Ne.symm ne_a_bp)
            have K0 := K0.wr W_59 (Or.inl (List.mem_of_getElem? (i := 0) rfl))
            have N_59 := Fr.snoc X_59 Nj_43 le_n0_a
            refine hst st_59 ?_
            show G (T_59.setTop (mkF m 57 #[.val (.ref a), .val (.int (0 : Int32))] []))
            refine hst (fun _ kt => XS.aloadN X_59.here hx rfl (hb hby d2_57) rfl rfl kt) ?_
            show G (T_59.setTop (mkF m 58 #[.val (.ref a), .val (.int (0 : Int32))] [(.ref a)]))
            refine hst (fun _ kt => XS.aloadN X_59.here hx rfl (hb hby d2_58) rfl rfl kt) ?_
            show G (T_59.setTop (mkF m 59 #[.val (.ref a), .val (.int (0 : Int32))] [(.ref a), (.ref a)]))
            obtain ⟨T_60, X_60, e_60, st_60⟩ := getF X_59 hx hZ hown (host := "") (Or.inl (own_w63 hw)) Via.refl e_59 F_places_a (g := (mkF m 59 #[.val (.ref a), .val (.int (0 : Int32))] [(.ref a), (.ref a)])) rfl rfl (hb hby d2_59)
            refine hst st_60 ?_
            show G (T_60.setTop (mkF m 62 #[.val (.ref a), .val (.int (0 : Int32))] [(.ref bp), (.ref a)]))
            refine hst (fun _ kt => XS.iloadN X_60.here hx rfl (hb hby d2_62) rfl kt) ?_
            show G (T_60.setTop (mkF m 63 #[.val (.ref a), .val (.int (0 : Int32))] [(.int (0 : Int32)), (.ref bp), (.ref a)]))
            obtain ⟨cl_61, Ar_61, -, S_61, M_61, Hs_61, -⟩ := id V_bp
            have hin_61 : ¬ ((0 : Int32) < 0 ∨ cl_61.slots.size ≤ ((0 : Int32)).toNatClampNeg) := inb_of S_61 ⟨by decide, by decide⟩
            have hat_61 : cl_61.slots[((0 : Int32)).toNatClampNeg]? = some (.long r0) := Has.at Hs_61 hin_61 rfl
            refine hst (X_60.laload hx (j := (0 : Int32)) (v := (.long r0)) (by rw [e_60]; exact Ar_61.1) (State.isArrayOf_alike hZ.alike Ar_61.2.1) Ar_61.2.2 hin_61 hat_61 (g := (mkF m 63 #[.val (.ref a), .val (.int (0 : Int32))] [(.int (0 : Int32)), (.ref bp), (.ref a)])) rfl rfl (hb hby d2_63)) ?_
            show G (T_60.setTop (mkF m 64 #[.val (.ref a), .val (.int (0 : Int32))] [(.long r0), (.ref a)]))
            obtain ⟨T_62, h_62, X_62, e_62, W_62, st_62⟩ := putF X_60 hx hZ hown (host := "") (Or.inl (own_w64 hw)) Via.refl e_60 F_oldestPlace_a E_a (Or.inl (own_w55 hw)) (own_w2 hw) (ty := .long) (by decide) rfl rfl (g := (mkF m 64 #[.val (.ref a), .val (.int (0 : Int32))] [(.long r0), (.ref a)])) rfl rfl (hb hby d2_64)
            have Z0 := Nat.le_trans Z0 (Keep.of_wr W_62).1
            have E_a := E_a.wr W_62
            have F_numbers_a := F_numbers_a.other W_62 (Or.inr (slot_ne (Or.inr (own_w12 hw)) (Or.inl (own_w55 hw)) (by decide) (t := (.array .int)) (t' := .long) (by decide) (by decide)))
            have F_places_a := F_places_a.other W_62 (Or.inr (slot_ne (Or.inr (own_w17 hw)) (Or.inl (own_w55 hw)) (by decide) (t := (.array .long)) (t' := .long) (by decide) (by decide)))
            have F_size_a := F_size_a.other W_62 (Or.inr (slot_ne (Or.inl (own_w51 hw)) (Or.inl (own_w55 hw)) (by decide) (t := .int) (t' := .long) (by decide) (by decide)))
            have F_oldest_a := F_oldest_a.other W_62 (Or.inr (slot_ne (Or.inl (own_w34 hw)) (Or.inl (own_w55 hw)) (by decide) (t := .int) (t' := .long) (by decide) (by decide)))
            have F_oldestPlace_a := F_oldestPlace_a.same W_62
            have V_bn := V_bn.other W_62 (Ne.symm ne_a_bn)
            have V_bp := V_bp.other W_62 (Ne.symm ne_a_bp)
            have K0 := K0.wr W_62 (Or.inl (List.mem_of_getElem? (i := 0) rfl))
            have N_62 := Fr.snoc X_62 N_59 le_n0_a
            refine hst st_62 ?_
            show G (T_62.setTop (mkF m 67 #[.val (.ref a), .val (.int (0 : Int32))] []))
            refine hst (fun _ kt => XS.iinc X_62.here hx rfl (hb hby d2_67) rfl (l' := #[.val (.ref a), .val (.int ((0 : Int32) + (1 : Int32)))]) rfl kt) ?_
            show G (T_62.setTop (mkF m 70 #[.val (.ref a), .val (.int ((0 : Int32) + (1 : Int32)))] []))
            rw [show ((0 : Int32) + (1 : Int32)) = (1 : Int32) from by decide]
            show G (T_62.setTop (mkF m 70 #[.val (.ref a), .val (.int (1 : Int32))] []))
            refine hst (fun _ kt => XS.goto X_62.here hx rfl (pc0 := 70) (pc' := 7) rfl (hb hby d2_70) (by decide) (by decide) kt) ?_
            show G (T_62.setTop (mkF m 7 #[.val (.ref a), .val (.int (1 : Int32))] []))
            exact J1 m0 r0 h_62 T_62 _ X_62 e_62 N_62 Z0 E_a F_numbers_a F_places_a F_size_a F_oldest_a F_oldestPlace_a V_bn V_bp K0 (by rw [own_stp, if_neg hc22, if_neg hc30, if_pos hc44] at hr; exact hr)
          ·
            refine hst (fun _ kt => XS.ifYes X_56.here hx rfl (pc0 := 44) (pc' := 67) rfl (hb hby d2_44) rfl ((if0 _ _).trans (flt (mt (lw_lt _ _).mp hc44)).2.1) (by decide) (by decide) kt) ?_
            show G (T_56.setTop (mkF m 67 #[.val (.ref a), .val (.int (0 : Int32))] []))
            refine hst (fun _ kt => XS.iinc X_56.here hx rfl (hb hby d2_67) rfl (l' := #[.val (.ref a), .val (.int ((0 : Int32) + (1 : Int32)))]) rfl kt) ?_
            show G (T_56.setTop (mkF m 70 #[.val (.ref a), .val (.int ((0 : Int32) + (1 : Int32)))] []))
            rw [show ((0 : Int32) + (1 : Int32)) = (1 : Int32) from by decide]
            show G (T_56.setTop (mkF m 70 #[.val (.ref a), .val (.int (1 : Int32))] []))
            refine hst (fun _ kt => XS.goto X_56.here hx rfl (pc0 := 70) (pc' := 7) rfl (hb hby d2_70) (by decide) (by decide) kt) ?_
            show G (T_56.setTop (mkF m 7 #[.val (.ref a), .val (.int (1 : Int32))] []))
            exact J1 o oq hj_43 T_56 _ X_56 e_56 Nj_43 Z0 E_a F_numbers_a F_places_a F_size_a F_oldest_a F_oldestPlace_a V_bn V_bp K0 (by rw [own_stp, if_neg hc22, if_neg hc30, if_neg hc44] at hr; exact hr)
    ·
      refine hst (fun _ kt => XS.icmpYes X_44.here hx rfl (pc0 := 12) (pc' := 73) rfl (hb hby d2_12) rfl (flt hc12).2.1 (by decide) (by decide) kt) ?_
      show G (T_44.setTop (mkF m 73 #[.val (.ref a), .val (.int (0 : Int32))] []))
      rw [own_f0, if_neg hc12] at hr
      exact hend (own_goVoid X_44 hx Bd.returns (hb hby d2_73) Bd.notSynchronized (by rw [e_44]; exact ⟨rfl, Nj_43, K0, E_a, by rw [← hr]; exact F_oldest_a, by rw [← hr]; exact F_oldestPlace_a⟩) (by decide) (by decide))
  show G (s₁.setTop (mkF m 0 #[.val (.ref a), .unset] []))
  refine hst (fun _ kt => XS.aloadN X0.here hx rfl (hb hby d2_0) rfl rfl kt) ?_
  show G (s₁.setTop (mkF m 1 #[.val (.ref a), .unset] [(.ref a)]))
  refine hst (fun _ kt => XS.iconst X0.here hx rfl (hb hby d2_1) kt) ?_
  show G (s₁.setTop (mkF m 2 #[.val (.ref a), .unset] [(.int (-1 : Int32)), (.ref a)]))
  obtain ⟨T_63, h_63, X_63, e_63, W_63, st_63⟩ := putF X0 hx hZ hown (host := "") (Or.inl (own_w60 hw)) Via.refl e0 F_oldest_a E_a (Or.inl (own_w34 hw)) (own_w2 hw) (ty := .int) (by decide) rfl rfl (g := (mkF m 2 #[.val (.ref a), .unset] [(.int (-1 : Int32)), (.ref a)])) rfl rfl (hb hby d2_2)
  have Z0 := Nat.le_trans Z0 (Keep.of_wr W_63).1
  have E_a := E_a.wr W_63
  have F_numbers_a := F_numbers_a.other W_63 (Or.inr (slot_ne (Or.inr (own_w12 hw)) (Or.inl (own_w34 hw)) (by decide) (t := (.array .int)) (t' := .int) (by decide) (by decide)))
  have F_places_a := F_places_a.other W_63 (Or.inr (slot_ne (Or.inr (own_w17 hw)) (Or.inl (own_w34 hw)) (by decide) (t := (.array .long)) (t' := .int) (by decide) (by decide)))
  have F_size_a := F_size_a.other W_63 (Or.inr (slot_ne (Or.inl (own_w51 hw)) (Or.inl (own_w34 hw)) (by decide) (t := .int) (t' := .int) (by decide) (by decide)))
  have F_oldest_a := F_oldest_a.same W_63
  have F_oldestPlace_a := F_oldestPlace_a.other W_63 (Or.inr (slot_ne (Or.inl (own_w55 hw)) (Or.inl (own_w34 hw)) (by decide) (t := .long) (t' := .int) (by decide) (by decide)))
  have V_bn := V_bn.other W_63 (Ne.symm ne_a_bn)
  have V_bp := V_bp.other W_63 (Ne.symm ne_a_bp)
  have K0 := K0.wr W_63 (Or.inl (List.mem_of_getElem? (i := 0) rfl))
  have N_63 := Fr.snoc X_63 N0 le_n0_a
  refine hst st_63 ?_
  show G (T_63.setTop (mkF m 5 #[.val (.ref a), .unset] []))
  refine hst (fun _ kt => XS.iconst X_63.here hx rfl (hb hby d2_5) kt) ?_
  show G (T_63.setTop (mkF m 6 #[.val (.ref a), .unset] [(.int (0 : Int32))]))
  refine hst (fun _ kt => XS.istoreN X_63.here hx rfl (hb hby d2_6) rfl (l' := #[.val (.ref a), .val (.int (0 : Int32))]) rfl kt) ?_
  show G (T_63.setTop (mkF m 7 #[.val (.ref a), .val (.int (0 : Int32))] []))
  exact J0 _ _ h_63 T_63 _ X_63 e_63 N_63 Z0 E_a F_numbers_a F_places_a F_size_a F_oldest_a F_oldestPlace_a V_bn V_bp K0 hres.symm
theorem d3_0 : decode method_2_code 0 = .ok (.iload_n 3, 1) := by decide +kernel
theorem d3_1 : decode method_2_code 1 = .ok (.ifCond .eq 23, 3) := by decide +kernel
theorem d3_4 : decode method_2_code 4 = .ok (.lload_n 0, 1) := by decide +kernel
theorem d3_5 : decode method_2_code 5 = .ok (.lload 4, 2) := by decide +kernel
theorem d3_7 : decode method_2_code 7 = .ok (.lcmp, 1) := by decide +kernel
theorem d3_8 : decode method_2_code 8 = .ok (.ifCond .lt 16, 3) := by decide +kernel
theorem d3_11 : decode method_2_code 11 = .ok (.lload_n 0, 1) := by decide +kernel
theorem d3_12 : decode method_2_code 12 = .ok (.lload 4, 2) := by decide +kernel
theorem d3_14 : decode method_2_code 14 = .ok (.lcmp, 1) := by decide +kernel
theorem d3_15 : decode method_2_code 15 = .ok (.ifCond .ne 13, 3) := by decide +kernel
theorem d3_18 : decode method_2_code 18 = .ok (.iload_n 2, 1) := by decide +kernel
theorem d3_19 : decode method_2_code 19 = .ok (.iload 6, 2) := by decide +kernel
theorem d3_21 : decode method_2_code 21 = .ok (.if_icmp .gt 7, 3) := by decide +kernel
theorem d3_24 : decode method_2_code 24 = .ok (.iconst 1, 1) := by decide +kernel
theorem d3_25 : decode method_2_code 25 = .ok (.goto 4, 3) := by decide +kernel
theorem d3_28 : decode method_2_code 28 = .ok (.iconst 0, 1) := by decide +kernel
theorem d3_29 : decode method_2_code 29 = .ok (.ireturn, 1) := by decide +kernel
theorem ef_3 (m : MethodId) (pk : Int64) (k : Int32) (pr : Int32) (pj : Int64) (j : Int32) : entryFrame m #[(.long pk), (.int k), (.int pr), (.long pj), (.int j)] 7 = mkF m 0 #[.val (.long pk), .second, .val (.int k), .val (.int pr), .val (.long pj), .second, .val (.int j)] [] := by first | (simp [entryFrame, mkF, argsToLocals, Value.category]; done) | rfl
theorem pn_3 : plainName x.cls = true := by first | decide +kernel | (simp [plainName, overriddenIn]; done)
set_option maxRecDepth 65536 in
set_option maxHeartbeats 40000000 in
theorem rm3 (l : Launch) (Z : State) (a0 : Array Value) (hw : ∀ d ∈ tables_1, d.before a0 Z = true) (ws : List Jvm.Cond) (pk : Int64) (k : Int32) (pr : Int32) (pj : Int64) (j : Int32) (h0 : Heap) (n0 : Nat) (Z0 : n0 ≤ h0.size) :
    MetFree l (⟨x.cls, "beats", "(JIZJI)Z"⟩ : MethodName) (head1 (Jvm.Cond.code (⟨x.cls, "beats", "(JIZJI)Z"⟩ : MethodName) method_2_code 7 (some .boolean) :: ws) ({ frames := 0, cells := 0, slots := 0, locals := 0 } : Room)) (fun a_ U_ => a_ = #[(.long pk), (.int k), (.int pr), (.long pj), (.int j)] ∧ Z.Warmed39 U_.vm ∧ U_.heap = h0) (fun _ _ _ _ _ => True) (fun _ U_ o_ W_ => ∃ v_ L_, o_ = .returned v_ ∧ own_QI (own_bt pk k pr pj j) h0 n0 v_ W_.heap L_ ∧ FrameEnd U_ o_ W_ L_ ({ frames := 0, cells := 0, slots := 0, locals := 0 } : Room).cells ({ frames := 0, cells := 0, slots := 0, locals := 0 } : Room).slots) := by
  refine MetFree.of_bodySF (plainFor_of_name pn_3) hisR ?_
  intro p e s m args below meth c s₁ Bd hml0 hP hK
  obtain ⟨rfl, hZ, hh⟩ := hP
  have hx := Bd.exec
  have hby := Bd.bytes
  have hml : c.maxLocals = 7 := hml0
  have hown : s.vm.findClass x.cls = some m.cls := by have z := findClass_of_methodNamed Bd.named; exact z
  have hnm := (name_of_methodNamed Bd.named Bd.method).1
  have X0 : Stand p l e ({ frames := 0, cells := 0, slots := 0, locals := 0 } : Room) s m #[(.long pk), (.int k), (.int pr), (.long pj), (.int j)] below meth c s₁ [] 0 0 := Stand.of_body Bd
  have e0 : s₁.heap = h0 := by rw [← hh, Bd.state]; rfl
  have N0 := Fr.nil n0
  obtain ⟨G, hG, hst, hend⟩ := own_abs p e below s (own_QI (own_bt pk k pr pj j) h0 n0) ({ frames := 0, cells := 0, slots := 0, locals := 0 } : Room).cells ({ frames := 0, cells := 0, slots := 0, locals := 0 } : Room).slots
  refine hG (S := s₁.setTop (entryFrame m #[(.long pk), (.int k), (.int pr), (.long pj), (.int j)] 7)) (hst (fun t_ kt_ => castTop (ef_3 m pk k pr pj j) kt_) ?_)
  show G (s₁.setTop (mkF m 0 #[.val (.long pk), .second, .val (.int k), .val (.int pr), .val (.long pj), .second, .val (.int j)] []))
  refine hst (fun _ kt => XS.iloadN X0.here hx rfl (hb hby d3_0) rfl kt) ?_
  show G (s₁.setTop (mkF m 1 #[.val (.long pk), .second, .val (.int k), .val (.int pr), .val (.long pj), .second, .val (.int j)] [(.int pr)]))
  by_cases hp1 : pr = (0 : Int32)
  ·
    refine hst (fun _ kt => XS.ifYes X0.here hx rfl (pc0 := 1) (pc' := 24) rfl (hb hby d3_1) rfl ((if0 _ _).trans (teq hp1).1) (by decide) (by decide) kt) ?_
    show G (s₁.setTop (mkF m 24 #[.val (.long pk), .second, .val (.int k), .val (.int pr), .val (.long pj), .second, .val (.int j)] []))
    refine hst (fun _ kt => XS.iconst X0.here hx rfl (hb hby d3_24) kt) ?_
    show G (s₁.setTop (mkF m 25 #[.val (.long pk), .second, .val (.int k), .val (.int pr), .val (.long pj), .second, .val (.int j)] [(.int (1 : Int32))]))
    refine hst (fun _ kt => XS.goto X0.here hx rfl (pc0 := 25) (pc' := 29) rfl (hb hby d3_25) (by decide) (by decide) kt) ?_
    show G (s₁.setTop (mkF m 29 #[.val (.long pk), .second, .val (.int k), .val (.int pr), .val (.long pj), .second, .val (.int j)] [(.int (1 : Int32))]))
    exact hend (own_goRet X0 hx Bd.returns rfl (Or.inl ⟨rfl, by simp, _, rfl⟩) (hb hby d3_29) Bd.notSynchronized (by rw [e0]; exact ⟨by simp only [own_bt, if_pos hp1], N0, rfl⟩) (by decide) (by decide))
  ·
    refine hst (fun _ kt => XS.ifNo X0.here hx rfl (hb hby d3_1) rfl ((if0 _ _).trans (feq hp1).1) kt) ?_
    show G (s₁.setTop (mkF m 4 #[.val (.long pk), .second, .val (.int k), .val (.int pr), .val (.long pj), .second, .val (.int j)] []))
    refine hst (fun _ kt => XS.lloadN X0.here hx rfl (hb hby d3_4) rfl kt) ?_
    show G (s₁.setTop (mkF m 5 #[.val (.long pk), .second, .val (.int k), .val (.int pr), .val (.long pj), .second, .val (.int j)] [(.long pk)]))
    refine hst (fun _ kt => XS.lload X0.here hx rfl (hb hby d3_5) rfl kt) ?_
    show G (s₁.setTop (mkF m 7 #[.val (.long pk), .second, .val (.int k), .val (.int pr), .val (.long pj), .second, .val (.int j)] [(.long pj), (.long pk)]))
    refine hst (fun _ kt => XS.lcmp X0.here hx rfl (hb hby d3_7) rfl kt) ?_
    show G (s₁.setTop (mkF m 8 #[.val (.long pk), .second, .val (.int k), .val (.int pr), .val (.long pj), .second, .val (.int j)] [(.int (lcmpW pk pj))]))
    by_cases hp2 : pk < pj
    ·
      refine hst (fun _ kt => XS.ifYes X0.here hx rfl (pc0 := 8) (pc' := 24) rfl (hb hby d3_8) rfl ((if0 _ _).trans (tlt ((lw_lt _ _).mpr hp2)).1) (by decide) (by decide) kt) ?_
      show G (s₁.setTop (mkF m 24 #[.val (.long pk), .second, .val (.int k), .val (.int pr), .val (.long pj), .second, .val (.int j)] []))
      refine hst (fun _ kt => XS.iconst X0.here hx rfl (hb hby d3_24) kt) ?_
      show G (s₁.setTop (mkF m 25 #[.val (.long pk), .second, .val (.int k), .val (.int pr), .val (.long pj), .second, .val (.int j)] [(.int (1 : Int32))]))
      refine hst (fun _ kt => XS.goto X0.here hx rfl (pc0 := 25) (pc' := 29) rfl (hb hby d3_25) (by decide) (by decide) kt) ?_
      show G (s₁.setTop (mkF m 29 #[.val (.long pk), .second, .val (.int k), .val (.int pr), .val (.long pj), .second, .val (.int j)] [(.int (1 : Int32))]))
      exact hend (own_goRet X0 hx Bd.returns rfl (Or.inl ⟨rfl, by simp, _, rfl⟩) (hb hby d3_29) Bd.notSynchronized (by rw [e0]; exact ⟨by simp only [own_bt, if_neg hp1, if_pos hp2], N0, rfl⟩) (by decide) (by decide))
    ·
      refine hst (fun _ kt => XS.ifNo X0.here hx rfl (hb hby d3_8) rfl ((if0 _ _).trans (flt (mt (lw_lt _ _).mp hp2)).1) kt) ?_
      show G (s₁.setTop (mkF m 11 #[.val (.long pk), .second, .val (.int k), .val (.int pr), .val (.long pj), .second, .val (.int j)] []))
      refine hst (fun _ kt => XS.lloadN X0.here hx rfl (hb hby d3_11) rfl kt) ?_
      show G (s₁.setTop (mkF m 12 #[.val (.long pk), .second, .val (.int k), .val (.int pr), .val (.long pj), .second, .val (.int j)] [(.long pk)]))
      refine hst (fun _ kt => XS.lload X0.here hx rfl (hb hby d3_12) rfl kt) ?_
      show G (s₁.setTop (mkF m 14 #[.val (.long pk), .second, .val (.int k), .val (.int pr), .val (.long pj), .second, .val (.int j)] [(.long pj), (.long pk)]))
      refine hst (fun _ kt => XS.lcmp X0.here hx rfl (hb hby d3_14) rfl kt) ?_
      show G (s₁.setTop (mkF m 15 #[.val (.long pk), .second, .val (.int k), .val (.int pr), .val (.long pj), .second, .val (.int j)] [(.int (lcmpW pk pj))]))
      by_cases hp3 : pk = pj
      ·
        refine hst (fun _ kt => XS.ifNo X0.here hx rfl (hb hby d3_15) rfl ((if0 _ _).trans (teq ((lw_eq _ _).mpr hp3)).2) kt) ?_
        show G (s₁.setTop (mkF m 18 #[.val (.long pk), .second, .val (.int k), .val (.int pr), .val (.long pj), .second, .val (.int j)] []))
        refine hst (fun _ kt => XS.iloadN X0.here hx rfl (hb hby d3_18) rfl kt) ?_
        show G (s₁.setTop (mkF m 19 #[.val (.long pk), .second, .val (.int k), .val (.int pr), .val (.long pj), .second, .val (.int j)] [(.int k)]))
        refine hst (fun _ kt => XS.iload X0.here hx rfl (hb hby d3_19) rfl kt) ?_
        show G (s₁.setTop (mkF m 21 #[.val (.long pk), .second, .val (.int k), .val (.int pr), .val (.long pj), .second, .val (.int j)] [(.int j), (.int k)]))
        by_cases hp4 : j < k
        ·
          refine hst (fun _ kt => XS.icmpYes X0.here hx rfl (pc0 := 21) (pc' := 28) rfl (hb hby d3_21) rfl (tlt hp4).2.2.1 (by decide) (by decide) kt) ?_
          show G (s₁.setTop (mkF m 28 #[.val (.long pk), .second, .val (.int k), .val (.int pr), .val (.long pj), .second, .val (.int j)] []))
          refine hst (fun _ kt => XS.iconst X0.here hx rfl (hb hby d3_28) kt) ?_
          show G (s₁.setTop (mkF m 29 #[.val (.long pk), .second, .val (.int k), .val (.int pr), .val (.long pj), .second, .val (.int j)] [(.int (0 : Int32))]))
          exact hend (own_goRet X0 hx Bd.returns rfl (Or.inl ⟨rfl, by simp, _, rfl⟩) (hb hby d3_29) Bd.notSynchronized (by rw [e0]; exact ⟨by simp only [own_bt, if_neg hp1, if_neg hp2, if_pos hp3, if_pos hp4], N0, rfl⟩) (by decide) (by decide))
        ·
          refine hst (fun _ kt => XS.icmpNo X0.here hx rfl (hb hby d3_21) rfl (flt hp4).2.2.1 kt) ?_
          show G (s₁.setTop (mkF m 24 #[.val (.long pk), .second, .val (.int k), .val (.int pr), .val (.long pj), .second, .val (.int j)] []))
          refine hst (fun _ kt => XS.iconst X0.here hx rfl (hb hby d3_24) kt) ?_
          show G (s₁.setTop (mkF m 25 #[.val (.long pk), .second, .val (.int k), .val (.int pr), .val (.long pj), .second, .val (.int j)] [(.int (1 : Int32))]))
          refine hst (fun _ kt => XS.goto X0.here hx rfl (pc0 := 25) (pc' := 29) rfl (hb hby d3_25) (by decide) (by decide) kt) ?_
          show G (s₁.setTop (mkF m 29 #[.val (.long pk), .second, .val (.int k), .val (.int pr), .val (.long pj), .second, .val (.int j)] [(.int (1 : Int32))]))
          exact hend (own_goRet X0 hx Bd.returns rfl (Or.inl ⟨rfl, by simp, _, rfl⟩) (hb hby d3_29) Bd.notSynchronized (by rw [e0]; exact ⟨by simp only [own_bt, if_neg hp1, if_neg hp2, if_pos hp3, if_neg hp4], N0, rfl⟩) (by decide) (by decide))
      ·
        refine hst (fun _ kt => XS.ifYes X0.here hx rfl (pc0 := 15) (pc' := 28) rfl (hb hby d3_15) rfl ((if0 _ _).trans (feq (mt (lw_eq _ _).mp hp3)).2) (by decide) (by decide) kt) ?_
        show G (s₁.setTop (mkF m 28 #[.val (.long pk), .second, .val (.int k), .val (.int pr), .val (.long pj), .second, .val (.int j)] []))
        refine hst (fun _ kt => XS.iconst X0.here hx rfl (hb hby d3_28) kt) ?_
        show G (s₁.setTop (mkF m 29 #[.val (.long pk), .second, .val (.int k), .val (.int pr), .val (.long pj), .second, .val (.int j)] [(.int (0 : Int32))]))
        exact hend (own_goRet X0 hx Bd.returns rfl (Or.inl ⟨rfl, by simp, _, rfl⟩) (hb hby d3_29) Bd.notSynchronized (by rw [e0]; exact ⟨by simp only [own_bt, if_neg hp1, if_neg hp2, if_neg hp3], N0, rfl⟩) (by decide) (by decide))
theorem ef_0 (m : MethodId) (sh : Int32) (a0v : Int32) (b0v : Int32) (p0 : Int64) (p1 : Int64) (p2 : Int64) : entryFrame m #[(.int sh), (.int a0v), (.int b0v), (.long p0), (.long p1), (.long p2)] maxLocals = mkF m 0 #[.val (.int sh), .val (.int a0v), .val (.int b0v), .val (.long p0), .second, .val (.long p1), .second, .val (.long p2), .second, .unset, .unset, .unset, .unset, .unset, .unset, .unset, .unset, .unset, .unset, .unset, .unset, .unset, .unset] [] := by first | (simp [entryFrame, mkF, argsToLocals, Value.category, maxLocals]; done) | rfl
theorem pn_0 : plainName x.cls = true := by first | decide +kernel | (simp [plainName, overriddenIn]; done)
set_option maxRecDepth 65536 in
set_option maxHeartbeats 40000000 in
theorem rm0 (l : Launch) (Z : State) (a0 : Array Value) (hw : ∀ d ∈ tables_1, d.before a0 Z = true) (ws : List Jvm.Cond) (sh : Int32) (a0v : Int32) (b0v : Int32) (p0 : Int64) (p1 : Int64) (p2 : Int64) (h0 : Heap) (n0 : Nat) (Z0 : n0 ≤ h0.size) :
    MetFree l x (head1 (Jvm.Cond.code x code maxLocals ret :: ws) room_1) (fun a_ U_ => a_ = #[(.int sh), (.int a0v), (.int b0v), (.long p0), (.long p1), (.long p2)] ∧ Z.Warmed39 U_.vm ∧ U_.heap = h0) (fun _ _ _ _ _ => True) (fun _ U_ o_ W_ => ∃ v_ L_, o_ = .returned v_ ∧ own_Q0 n0 v_ W_.heap L_ ∧ FrameEnd U_ o_ W_ L_ room_1.cells room_1.slots) := by
  refine MetFree.of_bodySF (plainFor_of_name pn_0) hisR ?_
  intro p e s m args below meth c s₁ Bd hml0 hP hK
  obtain ⟨rfl, hZ, hh⟩ := hP
  have hx := Bd.exec
  have hby := Bd.bytes
  have hml : c.maxLocals = 23 := hml0
  have hown : s.vm.findClass x.cls = some m.cls := by have z := findClass_of_methodNamed Bd.named; exact z
  have hnm := (name_of_methodNamed Bd.named Bd.method).1
  have X0 : Stand p l e room_1 s m #[(.int sh), (.int a0v), (.int b0v), (.long p0), (.long p1), (.long p2)] below meth c s₁ [] 0 0 := Stand.of_body Bd
  have e0 : s₁.heap = h0 := by rw [← hh, Bd.state]; rfl
  have N0 := Fr.nil n0
  obtain ⟨G, hG, hst, hend⟩ := own_abs p e below s (own_Q0 n0) room_1.cells room_1.slots
  refine hG (S := s₁.setTop (entryFrame m #[(.int sh), (.int a0v), (.int b0v), (.long p0), (.long p1), (.long p2)] maxLocals)) (hst (fun t_ kt_ => castTop (ef_0 m sh a0v b0v p0 p1 p2) kt_) ?_)
  have J46 : ∀ (b0 : Int32) (b1 : Int32) (b2 : Int32) (hb0 : b0 = 0 ∨ b0 = 1) (hb1 : b1 = 0 ∨ b1 = 1) (hb2 : b2 = 0 ∨ b2 = 1), G (s₁.setTop (mkF m 46 #[.val (.int sh), .val (.int a0v), .val (.int b0v), .val (.long p0), .second, .val (.long p1), .second, .val (.long p2), .second, .val (.int (sh &&& (3 : Int32))), .val (.int b0), .val (.int b1), .val (.int b2), .unset, .unset, .unset, .unset, .unset, .unset, .unset, .unset, .unset, .unset] [])) := by
    intro b0 b1 b2 hb0 hb1 hb2
    show G (s₁.setTop (mkF m 46 #[.val (.int sh), .val (.int a0v), .val (.int b0v), .val (.long p0), .second, .val (.long p1), .second, .val (.long p2), .second, .val (.int (sh &&& (3 : Int32))), .val (.int b0), .val (.int b1), .val (.int b2), .unset, .unset, .unset, .unset, .unset, .unset, .unset, .unset, .unset, .unset] []))
    have hsz := own_sz sh
    generalize (sh &&& (3 : Int32)) = sz at hsz ⊢
    show G (s₁.setTop (mkF m 46 #[.val (.int sh), .val (.int a0v), .val (.int b0v), .val (.long p0), .second, .val (.long p1), .second, .val (.long p2), .second, .val (.int sz), .val (.int b0), .val (.int b1), .val (.int b2), .unset, .unset, .unset, .unset, .unset, .unset, .unset, .unset, .unset, .unset] []))
    refine hst (fun _ kt => XS.iloadN X0.here hx rfl (hb hby at_46) rfl kt) ?_
    show G (s₁.setTop (mkF m 47 #[.val (.int sh), .val (.int a0v), .val (.int b0v), .val (.long p0), .second, .val (.long p1), .second, .val (.long p2), .second, .val (.int sz), .val (.int b0), .val (.int b1), .val (.int b2), .unset, .unset, .unset, .unset, .unset, .unset, .unset, .unset, .unset, .unset] [(.int a0v)]))
    refine hst (X0.ldcInt hx hown (mvT hZ (own_w0 hw)) (g := (mkF m 47 #[.val (.int sh), .val (.int a0v), .val (.int b0v), .val (.long p0), .second, .val (.long p1), .second, .val (.long p2), .second, .val (.int sz), .val (.int b0), .val (.int b1), .val (.int b2), .unset, .unset, .unset, .unset, .unset, .unset, .unset, .unset, .unset, .unset] [(.int a0v)])) rfl (hb hby at_47)) ?_
    show G (s₁.setTop (mkF m 49 #[.val (.int sh), .val (.int a0v), .val (.int b0v), .val (.long p0), .second, .val (.long p1), .second, .val (.long p2), .second, .val (.int sz), .val (.int b0), .val (.int b1), .val (.int b2), .unset, .unset, .unset, .unset, .unset, .unset, .unset, .unset, .unset, .unset] [(.int (2147483647 : Int32)), (.int a0v)]))
    refine hst (fun _ kt => XS.iand X0.here hx rfl (hb hby at_49) rfl kt) ?_
    show G (s₁.setTop (mkF m 50 #[.val (.int sh), .val (.int a0v), .val (.int b0v), .val (.long p0), .second, .val (.long p1), .second, .val (.long p2), .second, .val (.int sz), .val (.int b0), .val (.int b1), .val (.int b2), .unset, .unset, .unset, .unset, .unset, .unset, .unset, .unset, .unset, .unset] [(.int (a0v &&& (2147483647 : Int32)))]))
    have hn0 := own_nn a0v
    generalize (a0v &&& (2147483647 : Int32)) = m0 at hn0 ⊢
    show G (s₁.setTop (mkF m 50 #[.val (.int sh), .val (.int a0v), .val (.int b0v), .val (.long p0), .second, .val (.long p1), .second, .val (.long p2), .second, .val (.int sz), .val (.int b0), .val (.int b1), .val (.int b2), .unset, .unset, .unset, .unset, .unset, .unset, .unset, .unset, .unset, .unset] [(.int m0)]))
    refine hst (fun _ kt => XS.istore X0.here hx rfl (hb hby at_50) rfl (l' := #[.val (.int sh), .val (.int a0v), .val (.int b0v), .val (.long p0), .second, .val (.long p1), .second, .val (.long p2), .second, .val (.int sz), .val (.int b0), .val (.int b1), .val (.int b2), .val (.int m0), .unset, .unset, .unset, .unset, .unset, .unset, .unset, .unset, .unset]) rfl kt) ?_
    show G (s₁.setTop (mkF m 52 #[.val (.int sh), .val (.int a0v), .val (.int b0v), .val (.long p0), .second, .val (.long p1), .second, .val (.long p2), .second, .val (.int sz), .val (.int b0), .val (.int b1), .val (.int b2), .val (.int m0), .unset, .unset, .unset, .unset, .unset, .unset, .unset, .unset, .unset] []))
    refine hst (fun _ kt => XS.iloadN X0.here hx rfl (hb hby at_52) rfl kt) ?_
    show G (s₁.setTop (mkF m 53 #[.val (.int sh), .val (.int a0v), .val (.int b0v), .val (.long p0), .second, .val (.long p1), .second, .val (.long p2), .second, .val (.int sz), .val (.int b0), .val (.int b1), .val (.int b2), .val (.int m0), .unset, .unset, .unset, .unset, .unset, .unset, .unset, .unset, .unset] [(.int b0v)]))
    refine hst (X0.ldcInt hx hown (mvT hZ (own_w0 hw)) (g := (mkF m 53 #[.val (.int sh), .val (.int a0v), .val (.int b0v), .val (.long p0), .second, .val (.long p1), .second, .val (.long p2), .second, .val (.int sz), .val (.int b0), .val (.int b1), .val (.int b2), .val (.int m0), .unset, .unset, .unset, .unset, .unset, .unset, .unset, .unset, .unset] [(.int b0v)])) rfl (hb hby at_53)) ?_
    show G (s₁.setTop (mkF m 55 #[.val (.int sh), .val (.int a0v), .val (.int b0v), .val (.long p0), .second, .val (.long p1), .second, .val (.long p2), .second, .val (.int sz), .val (.int b0), .val (.int b1), .val (.int b2), .val (.int m0), .unset, .unset, .unset, .unset, .unset, .unset, .unset, .unset, .unset] [(.int (2147483647 : Int32)), (.int b0v)]))
    refine hst (fun _ kt => XS.iand X0.here hx rfl (hb hby at_55) rfl kt) ?_
    show G (s₁.setTop (mkF m 56 #[.val (.int sh), .val (.int a0v), .val (.int b0v), .val (.long p0), .second, .val (.long p1), .second, .val (.long p2), .second, .val (.int sz), .val (.int b0), .val (.int b1), .val (.int b2), .val (.int m0), .unset, .unset, .unset, .unset, .unset, .unset, .unset, .unset, .unset] [(.int (b0v &&& (2147483647 : Int32)))]))
    have hn1 := own_nn b0v
    generalize (b0v &&& (2147483647 : Int32)) = m1 at hn1 ⊢
    show G (s₁.setTop (mkF m 56 #[.val (.int sh), .val (.int a0v), .val (.int b0v), .val (.long p0), .second, .val (.long p1), .second, .val (.long p2), .second, .val (.int sz), .val (.int b0), .val (.int b1), .val (.int b2), .val (.int m0), .unset, .unset, .unset, .unset, .unset, .unset, .unset, .unset, .unset] [(.int m1)]))
    refine hst (fun _ kt => XS.istore X0.here hx rfl (hb hby at_56) rfl (l' := #[.val (.int sh), .val (.int a0v), .val (.int b0v), .val (.long p0), .second, .val (.long p1), .second, .val (.long p2), .second, .val (.int sz), .val (.int b0), .val (.int b1), .val (.int b2), .val (.int m0), .val (.int m1), .unset, .unset, .unset, .unset, .unset, .unset, .unset, .unset]) rfl kt) ?_
    show G (s₁.setTop (mkF m 58 #[.val (.int sh), .val (.int a0v), .val (.int b0v), .val (.long p0), .second, .val (.long p1), .second, .val (.long p2), .second, .val (.int sz), .val (.int b0), .val (.int b1), .val (.int b2), .val (.int m0), .val (.int m1), .unset, .unset, .unset, .unset, .unset, .unset, .unset, .unset] []))
    refine hst (fun _ kt => XS.iloadN X0.here hx rfl (hb hby at_58) rfl kt) ?_
    show G (s₁.setTop (mkF m 59 #[.val (.int sh), .val (.int a0v), .val (.int b0v), .val (.long p0), .second, .val (.long p1), .second, .val (.long p2), .second, .val (.int sz), .val (.int b0), .val (.int b1), .val (.int b2), .val (.int m0), .val (.int m1), .unset, .unset, .unset, .unset, .unset, .unset, .unset, .unset] [(.int sh)]))
    refine hst (fun _ kt => XS.iconst X0.here hx rfl (hb hby at_59) kt) ?_
    show G (s₁.setTop (mkF m 60 #[.val (.int sh), .val (.int a0v), .val (.int b0v), .val (.long p0), .second, .val (.long p1), .second, .val (.long p2), .second, .val (.int sz), .val (.int b0), .val (.int b1), .val (.int b2), .val (.int m0), .val (.int m1), .unset, .unset, .unset, .unset, .unset, .unset, .unset, .unset] [(.int (5 : Int32)), (.int sh)]))
    refine hst (fun _ kt => XS.iushr X0.here hx rfl (hb hby at_60) rfl kt) ?_
    show G (s₁.setTop (mkF m 61 #[.val (.int sh), .val (.int a0v), .val (.int b0v), .val (.long p0), .second, .val (.long p1), .second, .val (.long p2), .second, .val (.int sz), .val (.int b0), .val (.int b1), .val (.int b2), .val (.int m0), .val (.int m1), .unset, .unset, .unset, .unset, .unset, .unset, .unset, .unset] [(.int ((sh.toUInt32 >>> ((5 : Int32) &&& 31).toUInt32).toInt32))]))
    have hn2 := own_nn5 sh
    generalize ((sh.toUInt32 >>> ((5 : Int32) &&& 31).toUInt32).toInt32) = m2 at hn2 ⊢
    show G (s₁.setTop (mkF m 61 #[.val (.int sh), .val (.int a0v), .val (.int b0v), .val (.long p0), .second, .val (.long p1), .second, .val (.long p2), .second, .val (.int sz), .val (.int b0), .val (.int b1), .val (.int b2), .val (.int m0), .val (.int m1), .unset, .unset, .unset, .unset, .unset, .unset, .unset, .unset] [(.int m2)]))
    refine hst (fun _ kt => XS.istore X0.here hx rfl (hb hby at_61) rfl (l' := #[.val (.int sh), .val (.int a0v), .val (.int b0v), .val (.long p0), .second, .val (.long p1), .second, .val (.long p2), .second, .val (.int sz), .val (.int b0), .val (.int b1), .val (.int b2), .val (.int m0), .val (.int m1), .val (.int m2), .unset, .unset, .unset, .unset, .unset, .unset, .unset]) rfl kt) ?_
    show G (s₁.setTop (mkF m 63 #[.val (.int sh), .val (.int a0v), .val (.int b0v), .val (.long p0), .second, .val (.long p1), .second, .val (.long p2), .second, .val (.int sz), .val (.int b0), .val (.int b1), .val (.int b2), .val (.int m0), .val (.int m1), .val (.int m2), .unset, .unset, .unset, .unset, .unset, .unset, .unset] []))
    obtain ⟨T_1, h_1, X_1, e_1, E_1, A_1, D_1, -, st_1⟩ := newO X0 hx hZ hown (own_w1 hw) (own_w2 hw) (own_w3 hw) e0 (g := (mkF m 63 #[.val (.int sh), .val (.int a0v), .val (.int b0v), .val (.long p0), .second, .val (.long p1), .second, .val (.long p2), .second, .val (.int sz), .val (.int b0), .val (.int b1), .val (.int b2), .val (.int m0), .val (.int m1), .val (.int m2), .unset, .unset, .unset, .unset, .unset, .unset, .unset] [])) rfl (hb hby at_63) (by decide) (by decide)
    obtain ⟨a, g_a⟩ : ∃ z, z = h0.size := ⟨_, rfl⟩
    rw [← g_a] at A_1 D_1 st_1
    have le_n0_a : n0 ≤ a := Nat.le_trans Z0 (Nat.le_of_eq g_a.symm)
    have Z0 := Nat.le_trans Z0 E_1.1
    have E_a : Exa Z h_1 a own_B := A_1
    have F_numbers_a : Fld Z h_1 a own_B "numbers" "[I" .null := D_1 (Or.inr (own_w12 hw)) (ty := (.array .int)) (by decide)
    have F_lives_a : Fld Z h_1 a own_B "lives" "[J" .null := D_1 (Or.inr (own_w15 hw)) (ty := (.array .long)) (by decide)
    have F_places_a : Fld Z h_1 a own_B "places" "[J" .null := D_1 (Or.inr (own_w17 hw)) (ty := (.array .long)) (by decide)
    have F_bytesPerDoc_a : Fld Z h_1 a own_B "bytesPerDoc" "[J" .null := D_1 (Or.inr (own_w19 hw)) (ty := (.array .long)) (by decide)
    have F_aloneAt_a : Fld Z h_1 a own_B "aloneAt" "[J" .null := D_1 (Or.inr (own_w21 hw)) (ty := (.array .long)) (by decide)
    have F_handles_a : Fld Z h_1 a own_B "handles" "[I" .null := D_1 (Or.inr (own_w23 hw)) (ty := (.array .int)) (by decide)
    have F_groups_a : Fld Z h_1 a own_B "groups" "[B" .null := D_1 (Or.inr (own_w26 hw)) (ty := (.array .byte)) (by decide)
    have F_watches_a : Fld Z h_1 a own_B "watches" "[Z" .null := D_1 (Or.inr (own_w29 hw)) (ty := (.array .boolean)) (by decide)
    have F_leastSlack_a : Fld Z h_1 a own_B "leastSlack" "J" (.long (0 : Int64)) := D_1 (Or.inl (own_w32 hw)) (ty := .long) (by decide)
    have F_oldest_a : Fld Z h_1 a own_B "oldest" "I" (.int (0 : Int32)) := D_1 (Or.inl (own_w34 hw)) (ty := .int) (by decide)
    have F_leastHandled_a : Fld Z h_1 a own_B "leastHandled" "J" (.long (0 : Int64)) := D_1 (Or.inl (own_w36 hw)) (ty := .long) (by decide)
    have F_handledPerDoc_a : Fld Z h_1 a own_B "handledPerDoc" "J" (.long (0 : Int64)) := D_1 (Or.inl (own_w39 hw)) (ty := .long) (by decide)
    have F_heldCountedAt_a : Fld Z h_1 a own_B "heldCountedAt" "J" (.long (0 : Int64)) := D_1 (Or.inl (own_w41 hw)) (ty := .long) (by decide)
    have F_home_a : Fld Z h_1 a own_B "home" "I" (.int (0 : Int32)) := D_1 (Or.inr (own_w43 hw)) (ty := .int) (by decide)
    have F_handledIn_a : Fld Z h_1 a own_B "handledIn" "[I" .null := D_1 (Or.inr (own_w45 hw)) (ty := (.array .int)) (by decide)
    have F_handledPerDocsIn_a : Fld Z h_1 a own_B "handledPerDocsIn" "[J" .null := D_1 (Or.inr (own_w47 hw)) (ty := (.array .long)) (by decide)
    have F_size_a : Fld Z h_1 a own_B "size" "I" (.int (0 : Int32)) := D_1 (Or.inl (own_w51 hw)) (ty := .int) (by decide)
    have F_oldestPlace_a : Fld Z h_1 a own_B "oldestPlace" "J" (.long (0 : Int64)) := D_1 (Or.inl (own_w55 hw)) (ty := .long) (by decide)
    refine hst st_1 ?_
    show G (T_1.setTop (mkF m 66 #[.val (.int sh), .val (.int a0v), .val (.int b0v), .val (.long p0), .second, .val (.long p1), .second, .val (.long p2), .second, .val (.int sz), .val (.int b0), .val (.int b1), .val (.int b2), .val (.int m0), .val (.int m1), .val (.int m2), .unset, .unset, .unset, .unset, .unset, .unset, .unset] [(.ref a)]))
    refine hst (fun _ kt => XS.dup X_1.here hx rfl (hb hby at_66) rfl rfl kt) ?_
    show G (T_1.setTop (mkF m 67 #[.val (.int sh), .val (.int a0v), .val (.int b0v), .val (.long p0), .second, .val (.long p1), .second, .val (.long p2), .second, .val (.int sz), .val (.int b0), .val (.int b1), .val (.int b2), .val (.int m0), .val (.int m1), .val (.int m2), .unset, .unset, .unset, .unset, .unset, .unset, .unset] [(.ref a), (.ref a)]))
    refine hst (fun _ kt => XS.iconst X_1.here hx rfl (hb hby at_67) kt) ?_
    show G (T_1.setTop (mkF m 68 #[.val (.int sh), .val (.int a0v), .val (.int b0v), .val (.long p0), .second, .val (.long p1), .second, .val (.long p2), .second, .val (.int sz), .val (.int b0), .val (.int b1), .val (.int b2), .val (.int m0), .val (.int m1), .val (.int m2), .unset, .unset, .unset, .unset, .unset, .unset, .unset] [(.int (0 : Int32)), (.ref a), (.ref a)]))
    refine hst (fun _ kt => XS.iconst X_1.here hx rfl (hb hby at_68) kt) ?_
    show G (T_1.setTop (mkF m 69 #[.val (.int sh), .val (.int a0v), .val (.int b0v), .val (.long p0), .second, .val (.long p1), .second, .val (.long p2), .second, .val (.int sz), .val (.int b0), .val (.int b1), .val (.int b2), .val (.int m0), .val (.int m1), .val (.int m2), .unset, .unset, .unset, .unset, .unset, .unset, .unset] [(.int (1 : Int32)), (.int (0 : Int32)), (.ref a), (.ref a)]))
    obtain ⟨_, _, ⟨T_2, L_2, k_2, n_2⟩, -, X_2, ⟨Lc_2, hQ_2, l_2, y_2, z_2⟩, st_2⟩ := X_1.specialBack hx (y := (⟨own_B, "<init>", "(II)V"⟩ : MethodName)) rfl hown (mvT hZ (own_w4 hw)) (mvT hZ (own_w5 hw)) (mvT hZ (own_w6 hw)) (by decide) (backOf (W := 1) (rm1 l Z a0 hw [] a  h_1 n0 Z0 F_numbers_a F_lives_a F_places_a F_bytesPerDoc_a F_aloneAt_a F_handles_a F_groups_a F_watches_a F_leastSlack_a F_oldest_a F_leastHandled_a F_handledPerDoc_a F_heldCountedAt_a F_home_a F_handledIn_a F_handledPerDocsIn_a F_size_a F_oldestPlace_a E_a le_n0_a) hZ (own_w6 hw) (own_w3 hw) (by decide) (by decide)) (g := (mkF m 69 #[.val (.int sh), .val (.int a0v), .val (.int b0v), .val (.long p0), .second, .val (.long p1), .second, .val (.long p2), .second, .val (.int sz), .val (.int b0), .val (.int b1), .val (.int b2), .val (.int m0), .val (.int m1), .val (.int m2), .unset, .unset, .unset, .unset, .unset, .unset, .unset] [(.int (1 : Int32)), (.int (0 : Int32)), (.ref a), (.ref a)])) rfl (by rw [hml]; rfl) (Steps.refl _) (a := a) (argsL := [(.int (0 : Int32)), (.int (1 : Int32))]) (rest := [(.ref a)]) (lenOf pd_0 rfl) rfl (by show 2 * 0 + _ ≤ _; exact Nat.le_of_eq rfl) (hb hby at_69) (fun _ _ => ⟨rfl, e_1, (by decide : 1 + 10 ≤ _), (by decide : 33 + 2050 ≤ _)⟩)
    dsimp only [Pt.U, Pt.locs, Pt.cells, Pt.slots] at X_2 l_2 y_2 z_2 st_2 hQ_2
    subst l_2 y_2 z_2
    obtain ⟨rfl, N_2q, K_2, Ex_2, bn, bp, k_bn, k_bp, le_h_bn, le_h_bp, ne_bn_bp, Q1, Q2, Q3, Q4, Q5, V_bn, V_bp⟩ := hQ_2
    have ne_a_bn : a ≠ bn := Nat.ne_of_lt (Nat.lt_of_lt_of_le E_a.lt le_h_bn)
    have ne_a_bp : a ≠ bp := Nat.ne_of_lt (Nat.lt_of_lt_of_le E_a.lt le_h_bp)
    have le_n0_bn := Nat.le_trans Z0 le_h_bn
    have le_n0_bp := Nat.le_trans Z0 le_h_bp
    have Z0 := Nat.le_trans Z0 K_2.1
    have E_a := E_a.keep K_2
    have F_numbers_a := Q1
    have F_places_a := Q2
    have F_size_a := Q3
    have F_oldest_a := Q4
    have F_oldestPlace_a := Q5
    have N_2 := Fr.app N0 N_2q
    refine hst (fun _ kt => st_2.trans kt) ?_
    show G (T_2.setTop (mkF m 72 #[.val (.int sh), .val (.int a0v), .val (.int b0v), .val (.long p0), .second, .val (.long p1), .second, .val (.long p2), .second, .val (.int sz), .val (.int b0), .val (.int b1), .val (.int b2), .val (.int m0), .val (.int m1), .val (.int m2), .unset, .unset, .unset, .unset, .unset, .unset, .unset] [(.ref a)]))
    refine hst (fun _ kt => XS.astore X_2.here hx rfl (hb hby at_72) rfl rfl (l' := #[.val (.int sh), .val (.int a0v), .val (.int b0v), .val (.long p0), .second, .val (.long p1), .second, .val (.long p2), .second, .val (.int sz), .val (.int b0), .val (.int b1), .val (.int b2), .val (.int m0), .val (.int m1), .val (.int m2), .val (.ref a), .unset, .unset, .unset, .unset, .unset, .unset]) rfl kt) ?_
    show G (T_2.setTop (mkF m 74 #[.val (.int sh), .val (.int a0v), .val (.int b0v), .val (.long p0), .second, .val (.long p1), .second, .val (.long p2), .second, .val (.int sz), .val (.int b0), .val (.int b1), .val (.int b2), .val (.int m0), .val (.int m1), .val (.int m2), .val (.ref a), .unset, .unset, .unset, .unset, .unset, .unset] []))
    refine hst (fun _ kt => XS.aload X_2.here hx rfl (hb hby at_74) rfl rfl kt) ?_
    show G (T_2.setTop (mkF m 76 #[.val (.int sh), .val (.int a0v), .val (.int b0v), .val (.long p0), .second, .val (.long p1), .second, .val (.long p2), .second, .val (.int sz), .val (.int b0), .val (.int b1), .val (.int b2), .val (.int m0), .val (.int m1), .val (.int m2), .val (.ref a), .unset, .unset, .unset, .unset, .unset, .unset] [(.ref a)]))
    obtain ⟨T_3, X_3, e_3, st_3⟩ := getF X_2 hx hZ hown (host := "") (Or.inl (own_w48 hw)) Via.refl rfl F_numbers_a (g := (mkF m 76 #[.val (.int sh), .val (.int a0v), .val (.int b0v), .val (.long p0), .second, .val (.long p1), .second, .val (.long p2), .second, .val (.int sz), .val (.int b0), .val (.int b1), .val (.int b2), .val (.int m0), .val (.int m1), .val (.int m2), .val (.ref a), .unset, .unset, .unset, .unset, .unset, .unset] [(.ref a)])) rfl rfl (hb hby at_76)
    refine hst st_3 ?_
    show G (T_3.setTop (mkF m 79 #[.val (.int sh), .val (.int a0v), .val (.int b0v), .val (.long p0), .second, .val (.long p1), .second, .val (.long p2), .second, .val (.int sz), .val (.int b0), .val (.int b1), .val (.int b2), .val (.int m0), .val (.int m1), .val (.int m2), .val (.ref a), .unset, .unset, .unset, .unset, .unset, .unset] [(.ref bn)]))
    refine hst (fun _ kt => XS.iconst X_3.here hx rfl (hb hby at_79) kt) ?_
    show G (T_3.setTop (mkF m 80 #[.val (.int sh), .val (.int a0v), .val (.int b0v), .val (.long p0), .second, .val (.long p1), .second, .val (.long p2), .second, .val (.int sz), .val (.int b0), .val (.int b1), .val (.int b2), .val (.int m0), .val (.int m1), .val (.int m2), .val (.ref a), .unset, .unset, .unset, .unset, .unset, .unset] [(.int (0 : Int32)), (.ref bn)]))
    refine hst (fun _ kt => XS.iload X_3.here hx rfl (hb hby at_80) rfl kt) ?_
    show G (T_3.setTop (mkF m 82 #[.val (.int sh), .val (.int a0v), .val (.int b0v), .val (.long p0), .second, .val (.long p1), .second, .val (.long p2), .second, .val (.int sz), .val (.int b0), .val (.int b1), .val (.int b2), .val (.int m0), .val (.int m1), .val (.int m2), .val (.ref a), .unset, .unset, .unset, .unset, .unset, .unset] [(.int b0), (.int (0 : Int32)), (.ref bn)]))
    have J91 : ∀ (c0 : Int32) (hcc0 : c0 = if b0 = 0 then m0 else -1), G (T_3.setTop (mkF m 91 #[.val (.int sh), .val (.int a0v), .val (.int b0v), .val (.long p0), .second, .val (.long p1), .second, .val (.long p2), .second, .val (.int sz), .val (.int b0), .val (.int b1), .val (.int b2), .val (.int m0), .val (.int m1), .val (.int m2), .val (.ref a), .unset, .unset, .unset, .unset, .unset, .unset] [(.int c0), (.int (0 : Int32)), (.ref bn)])) := by
      intro c0 hcc0
      show G (T_3.setTop (mkF m 91 #[.val (.int sh), .val (.int a0v), .val (.int b0v), .val (.long p0), .second, .val (.long p1), .second, .val (.long p2), .second, .val (.int sz), .val (.int b0), .val (.int b1), .val (.int b2), .val (.int m0), .val (.int m1), .val (.int m2), .val (.ref a), .unset, .unset, .unset, .unset, .unset, .unset] [(.int c0), (.int (0 : Int32)), (.ref bn)]))
      obtain ⟨cl_4, Ar_4, q_4, S_4, M_4, Hs_4, Gs_4⟩ := V_bn
      have hin_4 : ¬ ((0 : Int32) < 0 ∨ cl_4.slots.size ≤ ((0 : Int32)).toNatClampNeg) := inb_of S_4 ⟨by decide, by decide⟩
      obtain ⟨T_4, h_4, X_4, e_4, W_4, st_4⟩ := stI X_3 hx hZ e_3 Ar_4 (j := (0 : Int32)) hin_4 (g := (mkF m 91 #[.val (.int sh), .val (.int a0v), .val (.int b0v), .val (.long p0), .second, .val (.long p1), .second, .val (.long p2), .second, .val (.int sz), .val (.int b0), .val (.int b1), .val (.int b2), .val (.int m0), .val (.int m1), .val (.int m2), .val (.ref a), .unset, .unset, .unset, .unset, .unset, .unset] [(.int c0), (.int (0 : Int32)), (.ref bn)])) rfl rfl (hb hby at_91)
      have V_bn := Arv.set Ar_4 q_4 S_4 M_4 Hs_4 Gs_4 rfl W_4 0 rfl (Nat.le_of_ble_eq_true rfl)
      have V_bn : Arv Z h_4 bn k_bn .int (256 : Int32) [(.int c0), (.int (0 : Int32)), (.int (0 : Int32))] (.int (0 : Int32)) := V_bn
      have Z0 := Nat.le_trans Z0 (Keep.of_wr W_4).1
      have E_a := E_a.wr W_4
      have F_numbers_a := F_numbers_a.other W_4 (Or.inl ne_a_bn)
      have F_places_a := F_places_a.other W_4 (Or.inl ne_a_bn)
      have F_size_a := F_size_a.other W_4 (Or.inl ne_a_bn)
      have F_oldest_a := F_oldest_a.other W_4 (Or.inl ne_a_bn)
      have F_oldestPlace_a := F_oldestPlace_a.other W_4 (Or.inl ne_a_bn)
      have V_bp := V_bp.other W_4 (Ne.symm ne_bn_bp)
      have N_4 := Fr.snoc X_4 N_2 le_n0_bn
      refine hst st_4 ?_
      show G (T_4.setTop (mkF m 92 #[.val (.int sh), .val (.int a0v), .val (.int b0v), .val (.long p0), .second, .val (.long p1), .second, .val (.long p2), .second, .val (.int sz), .val (.int b0), .val (.int b1), .val (.int b2), .val (.int m0), .val (.int m1), .val (.int m2), .val (.ref a), .unset, .unset, .unset, .unset, .unset, .unset] []))
      refine hst (fun _ kt => XS.aload X_4.here hx rfl (hb hby at_92) rfl rfl kt) ?_
      show G (T_4.setTop (mkF m 94 #[.val (.int sh), .val (.int a0v), .val (.int b0v), .val (.long p0), .second, .val (.long p1), .second, .val (.long p2), .second, .val (.int sz), .val (.int b0), .val (.int b1), .val (.int b2), .val (.int m0), .val (.int m1), .val (.int m2), .val (.ref a), .unset, .unset, .unset, .unset, .unset, .unset] [(.ref a)]))
      obtain ⟨T_5, X_5, e_5, st_5⟩ := getF X_4 hx hZ hown (host := "") (Or.inl (own_w48 hw)) Via.refl e_4 F_numbers_a (g := (mkF m 94 #[.val (.int sh), .val (.int a0v), .val (.int b0v), .val (.long p0), .second, .val (.long p1), .second, .val (.long p2), .second, .val (.int sz), .val (.int b0), .val (.int b1), .val (.int b2), .val (.int m0), .val (.int m1), .val (.int m2), .val (.ref a), .unset, .unset, .unset, .unset, .unset, .unset] [(.ref a)])) rfl rfl (hb hby at_94)
      refine hst st_5 ?_
      show G (T_5.setTop (mkF m 97 #[.val (.int sh), .val (.int a0v), .val (.int b0v), .val (.long p0), .second, .val (.long p1), .second, .val (.long p2), .second, .val (.int sz), .val (.int b0), .val (.int b1), .val (.int b2), .val (.int m0), .val (.int m1), .val (.int m2), .val (.ref a), .unset, .unset, .unset, .unset, .unset, .unset] [(.ref bn)]))
      refine hst (fun _ kt => XS.iconst X_5.here hx rfl (hb hby at_97) kt) ?_
      show G (T_5.setTop (mkF m 98 #[.val (.int sh), .val (.int a0v), .val (.int b0v), .val (.long p0), .second, .val (.long p1), .second, .val (.long p2), .second, .val (.int sz), .val (.int b0), .val (.int b1), .val (.int b2), .val (.int m0), .val (.int m1), .val (.int m2), .val (.ref a), .unset, .unset, .unset, .unset, .unset, .unset] [(.int (1 : Int32)), (.ref bn)]))
      refine hst (fun _ kt => XS.iload X_5.here hx rfl (hb hby at_98) rfl kt) ?_
      show G (T_5.setTop (mkF m 100 #[.val (.int sh), .val (.int a0v), .val (.int b0v), .val (.long p0), .second, .val (.long p1), .second, .val (.long p2), .second, .val (.int sz), .val (.int b0), .val (.int b1), .val (.int b2), .val (.int m0), .val (.int m1), .val (.int m2), .val (.ref a), .unset, .unset, .unset, .unset, .unset, .unset] [(.int b1), (.int (1 : Int32)), (.ref bn)]))
      have J109 : ∀ (c1 : Int32) (hcc1 : c1 = if b1 = 0 then m1 else -1), G (T_5.setTop (mkF m 109 #[.val (.int sh), .val (.int a0v), .val (.int b0v), .val (.long p0), .second, .val (.long p1), .second, .val (.long p2), .second, .val (.int sz), .val (.int b0), .val (.int b1), .val (.int b2), .val (.int m0), .val (.int m1), .val (.int m2), .val (.ref a), .unset, .unset, .unset, .unset, .unset, .unset] [(.int c1), (.int (1 : Int32)), (.ref bn)])) := by
        intro c1 hcc1
        show G (T_5.setTop (mkF m 109 #[.val (.int sh), .val (.int a0v), .val (.int b0v), .val (.long p0), .second, .val (.long p1), .second, .val (.long p2), .second, .val (.int sz), .val (.int b0), .val (.int b1), .val (.int b2), .val (.int m0), .val (.int m1), .val (.int m2), .val (.ref a), .unset, .unset, .unset, .unset, .unset, .unset] [(.int c1), (.int (1 : Int32)), (.ref bn)]))
        obtain ⟨cl_6, Ar_6, q_6, S_6, M_6, Hs_6, Gs_6⟩ := V_bn
        have hin_6 : ¬ ((1 : Int32) < 0 ∨ cl_6.slots.size ≤ ((1 : Int32)).toNatClampNeg) := inb_of S_6 ⟨by decide, by decide⟩
        obtain ⟨T_6, h_6, X_6, e_6, W_6, st_6⟩ := stI X_5 hx hZ e_5 Ar_6 (j := (1 : Int32)) hin_6 (g := (mkF m 109 #[.val (.int sh), .val (.int a0v), .val (.int b0v), .val (.long p0), .second, .val (.long p1), .second, .val (.long p2), .second, .val (.int sz), .val (.int b0), .val (.int b1), .val (.int b2), .val (.int m0), .val (.int m1), .val (.int m2), .val (.ref a), .unset, .unset, .unset, .unset, .unset, .unset] [(.int c1), (.int (1 : Int32)), (.ref bn)])) rfl rfl (hb hby at_109)
        have V_bn := Arv.set Ar_6 q_6 S_6 M_6 Hs_6 Gs_6 rfl W_6 1 rfl (Nat.le_of_ble_eq_true rfl)
        have V_bn : Arv Z h_6 bn k_bn .int (256 : Int32) [(.int c0), (.int c1), (.int (0 : Int32))] (.int (0 : Int32)) := V_bn
        have Z0 := Nat.le_trans Z0 (Keep.of_wr W_6).1
        have E_a := E_a.wr W_6
        have F_numbers_a := F_numbers_a.other W_6 (Or.inl ne_a_bn)
        have F_places_a := F_places_a.other W_6 (Or.inl ne_a_bn)
        have F_size_a := F_size_a.other W_6 (Or.inl ne_a_bn)
        have F_oldest_a := F_oldest_a.other W_6 (Or.inl ne_a_bn)
        have F_oldestPlace_a := F_oldestPlace_a.other W_6 (Or.inl ne_a_bn)
        have V_bp := V_bp.other W_6 (Ne.symm ne_bn_bp)
        have N_6 := Fr.snoc X_6 N_4 le_n0_bn
        refine hst st_6 ?_
        show G (T_6.setTop (mkF m 110 #[.val (.int sh), .val (.int a0v), .val (.int b0v), .val (.long p0), .second, .val (.long p1), .second, .val (.long p2), .second, .val (.int sz), .val (.int b0), .val (.int b1), .val (.int b2), .val (.int m0), .val (.int m1), .val (.int m2), .val (.ref a), .unset, .unset, .unset, .unset, .unset, .unset] []))
        refine hst (fun _ kt => XS.aload X_6.here hx rfl (hb hby at_110) rfl rfl kt) ?_
        show G (T_6.setTop (mkF m 112 #[.val (.int sh), .val (.int a0v), .val (.int b0v), .val (.long p0), .second, .val (.long p1), .second, .val (.long p2), .second, .val (.int sz), .val (.int b0), .val (.int b1), .val (.int b2), .val (.int m0), .val (.int m1), .val (.int m2), .val (.ref a), .unset, .unset, .unset, .unset, .unset, .unset] [(.ref a)]))
        obtain ⟨T_7, X_7, e_7, st_7⟩ := getF X_6 hx hZ hown (host := "") (Or.inl (own_w48 hw)) Via.refl e_6 F_numbers_a (g := (mkF m 112 #[.val (.int sh), .val (.int a0v), .val (.int b0v), .val (.long p0), .second, .val (.long p1), .second, .val (.long p2), .second, .val (.int sz), .val (.int b0), .val (.int b1), .val (.int b2), .val (.int m0), .val (.int m1), .val (.int m2), .val (.ref a), .unset, .unset, .unset, .unset, .unset, .unset] [(.ref a)])) rfl rfl (hb hby at_112)
        refine hst st_7 ?_
        show G (T_7.setTop (mkF m 115 #[.val (.int sh), .val (.int a0v), .val (.int b0v), .val (.long p0), .second, .val (.long p1), .second, .val (.long p2), .second, .val (.int sz), .val (.int b0), .val (.int b1), .val (.int b2), .val (.int m0), .val (.int m1), .val (.int m2), .val (.ref a), .unset, .unset, .unset, .unset, .unset, .unset] [(.ref bn)]))
        refine hst (fun _ kt => XS.iconst X_7.here hx rfl (hb hby at_115) kt) ?_
        show G (T_7.setTop (mkF m 116 #[.val (.int sh), .val (.int a0v), .val (.int b0v), .val (.long p0), .second, .val (.long p1), .second, .val (.long p2), .second, .val (.int sz), .val (.int b0), .val (.int b1), .val (.int b2), .val (.int m0), .val (.int m1), .val (.int m2), .val (.ref a), .unset, .unset, .unset, .unset, .unset, .unset] [(.int (2 : Int32)), (.ref bn)]))
        refine hst (fun _ kt => XS.iload X_7.here hx rfl (hb hby at_116) rfl kt) ?_
        show G (T_7.setTop (mkF m 118 #[.val (.int sh), .val (.int a0v), .val (.int b0v), .val (.long p0), .second, .val (.long p1), .second, .val (.long p2), .second, .val (.int sz), .val (.int b0), .val (.int b1), .val (.int b2), .val (.int m0), .val (.int m1), .val (.int m2), .val (.ref a), .unset, .unset, .unset, .unset, .unset, .unset] [(.int b2), (.int (2 : Int32)), (.ref bn)]))
        have J127 : ∀ (c2 : Int32) (hcc2 : c2 = if b2 = 0 then m2 else -1), G (T_7.setTop (mkF m 127 #[.val (.int sh), .val (.int a0v), .val (.int b0v), .val (.long p0), .second, .val (.long p1), .second, .val (.long p2), .second, .val (.int sz), .val (.int b0), .val (.int b1), .val (.int b2), .val (.int m0), .val (.int m1), .val (.int m2), .val (.ref a), .unset, .unset, .unset, .unset, .unset, .unset] [(.int c2), (.int (2 : Int32)), (.ref bn)])) := by
          intro c2 hcc2
          show G (T_7.setTop (mkF m 127 #[.val (.int sh), .val (.int a0v), .val (.int b0v), .val (.long p0), .second, .val (.long p1), .second, .val (.long p2), .second, .val (.int sz), .val (.int b0), .val (.int b1), .val (.int b2), .val (.int m0), .val (.int m1), .val (.int m2), .val (.ref a), .unset, .unset, .unset, .unset, .unset, .unset] [(.int c2), (.int (2 : Int32)), (.ref bn)]))
          obtain ⟨cl_8, Ar_8, q_8, S_8, M_8, Hs_8, Gs_8⟩ := V_bn
          have hin_8 : ¬ ((2 : Int32) < 0 ∨ cl_8.slots.size ≤ ((2 : Int32)).toNatClampNeg) := inb_of S_8 ⟨by decide, by decide⟩
          obtain ⟨T_8, h_8, X_8, e_8, W_8, st_8⟩ := stI X_7 hx hZ e_7 Ar_8 (j := (2 : Int32)) hin_8 (g := (mkF m 127 #[.val (.int sh), .val (.int a0v), .val (.int b0v), .val (.long p0), .second, .val (.long p1), .second, .val (.long p2), .second, .val (.int sz), .val (.int b0), .val (.int b1), .val (.int b2), .val (.int m0), .val (.int m1), .val (.int m2), .val (.ref a), .unset, .unset, .unset, .unset, .unset, .unset] [(.int c2), (.int (2 : Int32)), (.ref bn)])) rfl rfl (hb hby at_127)
          have V_bn := Arv.set Ar_8 q_8 S_8 M_8 Hs_8 Gs_8 rfl W_8 2 rfl (Nat.le_of_ble_eq_true rfl)
          have V_bn : Arv Z h_8 bn k_bn .int (256 : Int32) [(.int c0), (.int c1), (.int c2)] (.int (0 : Int32)) := V_bn
          have Z0 := Nat.le_trans Z0 (Keep.of_wr W_8).1
          have E_a := E_a.wr W_8
          have F_numbers_a := F_numbers_a.other W_8 (Or.inl ne_a_bn)
          have F_places_a := F_places_a.other W_8 (Or.inl ne_a_bn)
          have F_size_a := F_size_a.other W_8 (Or.inl ne_a_bn)
          have F_oldest_a := F_oldest_a.other W_8 (Or.inl ne_a_bn)
          have F_oldestPlace_a := F_oldestPlace_a.other W_8 (Or.inl ne_a_bn)
          have V_bp := V_bp.other W_8 (Ne.symm ne_bn_bp)
          have N_8 := Fr.snoc X_8 N_6 le_n0_bn
          refine hst st_8 ?_
          show G (T_8.setTop (mkF m 128 #[.val (.int sh), .val (.int a0v), .val (.int b0v), .val (.long p0), .second, .val (.long p1), .second, .val (.long p2), .second, .val (.int sz), .val (.int b0), .val (.int b1), .val (.int b2), .val (.int m0), .val (.int m1), .val (.int m2), .val (.ref a), .unset, .unset, .unset, .unset, .unset, .unset] []))
          refine hst (fun _ kt => XS.aload X_8.here hx rfl (hb hby at_128) rfl rfl kt) ?_
          show G (T_8.setTop (mkF m 130 #[.val (.int sh), .val (.int a0v), .val (.int b0v), .val (.long p0), .second, .val (.long p1), .second, .val (.long p2), .second, .val (.int sz), .val (.int b0), .val (.int b1), .val (.int b2), .val (.int m0), .val (.int m1), .val (.int m2), .val (.ref a), .unset, .unset, .unset, .unset, .unset, .unset] [(.ref a)]))
          obtain ⟨T_9, X_9, e_9, st_9⟩ := getF X_8 hx hZ hown (host := "") (Or.inl (own_w49 hw)) Via.refl e_8 F_places_a (g := (mkF m 130 #[.val (.int sh), .val (.int a0v), .val (.int b0v), .val (.long p0), .second, .val (.long p1), .second, .val (.long p2), .second, .val (.int sz), .val (.int b0), .val (.int b1), .val (.int b2), .val (.int m0), .val (.int m1), .val (.int m2), .val (.ref a), .unset, .unset, .unset, .unset, .unset, .unset] [(.ref a)])) rfl rfl (hb hby at_130)
          refine hst st_9 ?_
          show G (T_9.setTop (mkF m 133 #[.val (.int sh), .val (.int a0v), .val (.int b0v), .val (.long p0), .second, .val (.long p1), .second, .val (.long p2), .second, .val (.int sz), .val (.int b0), .val (.int b1), .val (.int b2), .val (.int m0), .val (.int m1), .val (.int m2), .val (.ref a), .unset, .unset, .unset, .unset, .unset, .unset] [(.ref bp)]))
          refine hst (fun _ kt => XS.iconst X_9.here hx rfl (hb hby at_133) kt) ?_
          show G (T_9.setTop (mkF m 134 #[.val (.int sh), .val (.int a0v), .val (.int b0v), .val (.long p0), .second, .val (.long p1), .second, .val (.long p2), .second, .val (.int sz), .val (.int b0), .val (.int b1), .val (.int b2), .val (.int m0), .val (.int m1), .val (.int m2), .val (.ref a), .unset, .unset, .unset, .unset, .unset, .unset] [(.int (0 : Int32)), (.ref bp)]))
          refine hst (fun _ kt => XS.lloadN X_9.here hx rfl (hb hby at_134) rfl kt) ?_
          show G (T_9.setTop (mkF m 135 #[.val (.int sh), .val (.int a0v), .val (.int b0v), .val (.long p0), .second, .val (.long p1), .second, .val (.long p2), .second, .val (.int sz), .val (.int b0), .val (.int b1), .val (.int b2), .val (.int m0), .val (.int m1), .val (.int m2), .val (.ref a), .unset, .unset, .unset, .unset, .unset, .unset] [(.long p0), (.int (0 : Int32)), (.ref bp)]))
          obtain ⟨cl_10, Ar_10, q_10, S_10, M_10, Hs_10, Gs_10⟩ := V_bp
          have hin_10 : ¬ ((0 : Int32) < 0 ∨ cl_10.slots.size ≤ ((0 : Int32)).toNatClampNeg) := inb_of S_10 ⟨by decide, by decide⟩
          obtain ⟨T_10, h_10, X_10, e_10, W_10, st_10⟩ := stJ X_9 hx hZ e_9 Ar_10 (j := (0 : Int32)) hin_10 (g := (mkF m 135 #[.val (.int sh), .val (.int a0v), .val (.int b0v), .val (.long p0), .second, .val (.long p1), .second, .val (.long p2), .second, .val (.int sz), .val (.int b0), .val (.int b1), .val (.int b2), .val (.int m0), .val (.int m1), .val (.int m2), .val (.ref a), .unset, .unset, .unset, .unset, .unset, .unset] [(.long p0), (.int (0 : Int32)), (.ref bp)])) rfl rfl (hb hby at_135)
          have V_bp := Arv.set Ar_10 q_10 S_10 M_10 Hs_10 Gs_10 rfl W_10 0 rfl (Nat.le_of_ble_eq_true rfl)
          have V_bp : Arv Z h_10 bp k_bp .long (256 : Int32) [(.long p0), (.long (0 : Int64)), (.long (0 : Int64))] (.long (0 : Int64)) := V_bp
          have Z0 := Nat.le_trans Z0 (Keep.of_wr W_10).1
          have E_a := E_a.wr W_10
          have F_numbers_a := F_numbers_a.other W_10 (Or.inl ne_a_bp)
          have F_places_a := F_places_a.other W_10 (Or.inl ne_a_bp)
          have F_size_a := F_size_a.other W_10 (Or.inl ne_a_bp)
          have F_oldest_a := F_oldest_a.other W_10 (Or.inl ne_a_bp)
          have F_oldestPlace_a := F_oldestPlace_a.other W_10 (Or.inl ne_a_bp)
          have V_bn := V_bn.other W_10 ne_bn_bp
          have N_10 := Fr.snoc X_10 N_8 le_n0_bp
          refine hst st_10 ?_
          show G (T_10.setTop (mkF m 136 #[.val (.int sh), .val (.int a0v), .val (.int b0v), .val (.long p0), .second, .val (.long p1), .second, .val (.long p2), .second, .val (.int sz), .val (.int b0), .val (.int b1), .val (.int b2), .val (.int m0), .val (.int m1), .val (.int m2), .val (.ref a), .unset, .unset, .unset, .unset, .unset, .unset] []))
          refine hst (fun _ kt => XS.aload X_10.here hx rfl (hb hby at_136) rfl rfl kt) ?_
          show G (T_10.setTop (mkF m 138 #[.val (.int sh), .val (.int a0v), .val (.int b0v), .val (.long p0), .second, .val (.long p1), .second, .val (.long p2), .second, .val (.int sz), .val (.int b0), .val (.int b1), .val (.int b2), .val (.int m0), .val (.int m1), .val (.int m2), .val (.ref a), .unset, .unset, .unset, .unset, .unset, .unset] [(.ref a)]))
          obtain ⟨T_11, X_11, e_11, st_11⟩ := getF X_10 hx hZ hown (host := "") (Or.inl (own_w49 hw)) Via.refl e_10 F_places_a (g := (mkF m 138 #[.val (.int sh), .val (.int a0v), .val (.int b0v), .val (.long p0), .second, .val (.long p1), .second, .val (.long p2), .second, .val (.int sz), .val (.int b0), .val (.int b1), .val (.int b2), .val (.int m0), .val (.int m1), .val (.int m2), .val (.ref a), .unset, .unset, .unset, .unset, .unset, .unset] [(.ref a)])) rfl rfl (hb hby at_138)
          refine hst st_11 ?_
          show G (T_11.setTop (mkF m 141 #[.val (.int sh), .val (.int a0v), .val (.int b0v), .val (.long p0), .second, .val (.long p1), .second, .val (.long p2), .second, .val (.int sz), .val (.int b0), .val (.int b1), .val (.int b2), .val (.int m0), .val (.int m1), .val (.int m2), .val (.ref a), .unset, .unset, .unset, .unset, .unset, .unset] [(.ref bp)]))
          refine hst (fun _ kt => XS.iconst X_11.here hx rfl (hb hby at_141) kt) ?_
          show G (T_11.setTop (mkF m 142 #[.val (.int sh), .val (.int a0v), .val (.int b0v), .val (.long p0), .second, .val (.long p1), .second, .val (.long p2), .second, .val (.int sz), .val (.int b0), .val (.int b1), .val (.int b2), .val (.int m0), .val (.int m1), .val (.int m2), .val (.ref a), .unset, .unset, .unset, .unset, .unset, .unset] [(.int (1 : Int32)), (.ref bp)]))
          refine hst (fun _ kt => XS.lload X_11.here hx rfl (hb hby at_142) rfl kt) ?_
          show G (T_11.setTop (mkF m 144 #[.val (.int sh), .val (.int a0v), .val (.int b0v), .val (.long p0), .second, .val (.long p1), .second, .val (.long p2), .second, .val (.int sz), .val (.int b0), .val (.int b1), .val (.int b2), .val (.int m0), .val (.int m1), .val (.int m2), .val (.ref a), .unset, .unset, .unset, .unset, .unset, .unset] [(.long p1), (.int (1 : Int32)), (.ref bp)]))
          obtain ⟨cl_12, Ar_12, q_12, S_12, M_12, Hs_12, Gs_12⟩ := V_bp
          have hin_12 : ¬ ((1 : Int32) < 0 ∨ cl_12.slots.size ≤ ((1 : Int32)).toNatClampNeg) := inb_of S_12 ⟨by decide, by decide⟩
          obtain ⟨T_12, h_12, X_12, e_12, W_12, st_12⟩ := stJ X_11 hx hZ e_11 Ar_12 (j := (1 : Int32)) hin_12 (g := (mkF m 144 #[.val (.int sh), .val (.int a0v), .val (.int b0v), .val (.long p0), .second, .val (.long p1), .second, .val (.long p2), .second, .val (.int sz), .val (.int b0), .val (.int b1), .val (.int b2), .val (.int m0), .val (.int m1), .val (.int m2), .val (.ref a), .unset, .unset, .unset, .unset, .unset, .unset] [(.long p1), (.int (1 : Int32)), (.ref bp)])) rfl rfl (hb hby at_144)
          have V_bp := Arv.set Ar_12 q_12 S_12 M_12 Hs_12 Gs_12 rfl W_12 1 rfl (Nat.le_of_ble_eq_true rfl)
          have V_bp : Arv Z h_12 bp k_bp .long (256 : Int32) [(.long p0), (.long p1), (.long (0 : Int64))] (.long (0 : Int64)) := V_bp
          have Z0 := Nat.le_trans Z0 (Keep.of_wr W_12).1
          have E_a := E_a.wr W_12
          have F_numbers_a := F_numbers_a.other W_12 (Or.inl ne_a_bp)
          have F_places_a := F_places_a.other W_12 (Or.inl ne_a_bp)
          have F_size_a := F_size_a.other W_12 (Or.inl ne_a_bp)
          have F_oldest_a := F_oldest_a.other W_12 (Or.inl ne_a_bp)
          have F_oldestPlace_a := F_oldestPlace_a.other W_12 (Or.inl ne_a_bp)
          have V_bn := V_bn.other W_12 ne_bn_bp
          have N_12 := Fr.snoc X_12 N_10 le_n0_bp
          refine hst st_12 ?_
          show G (T_12.setTop (mkF m 145 #[.val (.int sh), .val (.int a0v), .val (.int b0v), .val (.long p0), .second, .val (.long p1), .second, .val (.long p2), .second, .val (.int sz), .val (.int b0), .val (.int b1), .val (.int b2), .val (.int m0), .val (.int m1), .val (.int m2), .val (.ref a), .unset, .unset, .unset, .unset, .unset, .unset] []))
          refine hst (fun _ kt => XS.aload X_12.here hx rfl (hb hby at_145) rfl rfl kt) ?_
          show G (T_12.setTop (mkF m 147 #[.val (.int sh), .val (.int a0v), .val (.int b0v), .val (.long p0), .second, .val (.long p1), .second, .val (.long p2), .second, .val (.int sz), .val (.int b0), .val (.int b1), .val (.int b2), .val (.int m0), .val (.int m1), .val (.int m2), .val (.ref a), .unset, .unset, .unset, .unset, .unset, .unset] [(.ref a)]))
          obtain ⟨T_13, X_13, e_13, st_13⟩ := getF X_12 hx hZ hown (host := "") (Or.inl (own_w49 hw)) Via.refl e_12 F_places_a (g := (mkF m 147 #[.val (.int sh), .val (.int a0v), .val (.int b0v), .val (.long p0), .second, .val (.long p1), .second, .val (.long p2), .second, .val (.int sz), .val (.int b0), .val (.int b1), .val (.int b2), .val (.int m0), .val (.int m1), .val (.int m2), .val (.ref a), .unset, .unset, .unset, .unset, .unset, .unset] [(.ref a)])) rfl rfl (hb hby at_147)
          refine hst st_13 ?_
          show G (T_13.setTop (mkF m 150 #[.val (.int sh), .val (.int a0v), .val (.int b0v), .val (.long p0), .second, .val (.long p1), .second, .val (.long p2), .second, .val (.int sz), .val (.int b0), .val (.int b1), .val (.int b2), .val (.int m0), .val (.int m1), .val (.int m2), .val (.ref a), .unset, .unset, .unset, .unset, .unset, .unset] [(.ref bp)]))
          refine hst (fun _ kt => XS.iconst X_13.here hx rfl (hb hby at_150) kt) ?_
          show G (T_13.setTop (mkF m 151 #[.val (.int sh), .val (.int a0v), .val (.int b0v), .val (.long p0), .second, .val (.long p1), .second, .val (.long p2), .second, .val (.int sz), .val (.int b0), .val (.int b1), .val (.int b2), .val (.int m0), .val (.int m1), .val (.int m2), .val (.ref a), .unset, .unset, .unset, .unset, .unset, .unset] [(.int (2 : Int32)), (.ref bp)]))
          refine hst (fun _ kt => XS.lload X_13.here hx rfl (hb hby at_151) rfl kt) ?_
          show G (T_13.setTop (mkF m 153 #[.val (.int sh), .val (.int a0v), .val (.int b0v), .val (.long p0), .second, .val (.long p1), .second, .val (.long p2), .second, .val (.int sz), .val (.int b0), .val (.int b1), .val (.int b2), .val (.int m0), .val (.int m1), .val (.int m2), .val (.ref a), .unset, .unset, .unset, .unset, .unset, .unset] [(.long p2), (.int (2 : Int32)), (.ref bp)]))
          obtain ⟨cl_14, Ar_14, q_14, S_14, M_14, Hs_14, Gs_14⟩ := V_bp
          have hin_14 : ¬ ((2 : Int32) < 0 ∨ cl_14.slots.size ≤ ((2 : Int32)).toNatClampNeg) := inb_of S_14 ⟨by decide, by decide⟩
          obtain ⟨T_14, h_14, X_14, e_14, W_14, st_14⟩ := stJ X_13 hx hZ e_13 Ar_14 (j := (2 : Int32)) hin_14 (g := (mkF m 153 #[.val (.int sh), .val (.int a0v), .val (.int b0v), .val (.long p0), .second, .val (.long p1), .second, .val (.long p2), .second, .val (.int sz), .val (.int b0), .val (.int b1), .val (.int b2), .val (.int m0), .val (.int m1), .val (.int m2), .val (.ref a), .unset, .unset, .unset, .unset, .unset, .unset] [(.long p2), (.int (2 : Int32)), (.ref bp)])) rfl rfl (hb hby at_153)
          have V_bp := Arv.set Ar_14 q_14 S_14 M_14 Hs_14 Gs_14 rfl W_14 2 rfl (Nat.le_of_ble_eq_true rfl)
          have V_bp : Arv Z h_14 bp k_bp .long (256 : Int32) [(.long p0), (.long p1), (.long p2)] (.long (0 : Int64)) := V_bp
          have Z0 := Nat.le_trans Z0 (Keep.of_wr W_14).1
          have E_a := E_a.wr W_14
          have F_numbers_a := F_numbers_a.other W_14 (Or.inl ne_a_bp)
          have F_places_a := F_places_a.other W_14 (Or.inl ne_a_bp)
          have F_size_a := F_size_a.other W_14 (Or.inl ne_a_bp)
          have F_oldest_a := F_oldest_a.other W_14 (Or.inl ne_a_bp)
          have F_oldestPlace_a := F_oldestPlace_a.other W_14 (Or.inl ne_a_bp)
          have V_bn := V_bn.other W_14 ne_bn_bp
          have N_14 := Fr.snoc X_14 N_12 le_n0_bp
          refine hst st_14 ?_
          show G (T_14.setTop (mkF m 154 #[.val (.int sh), .val (.int a0v), .val (.int b0v), .val (.long p0), .second, .val (.long p1), .second, .val (.long p2), .second, .val (.int sz), .val (.int b0), .val (.int b1), .val (.int b2), .val (.int m0), .val (.int m1), .val (.int m2), .val (.ref a), .unset, .unset, .unset, .unset, .unset, .unset] []))
          refine hst (fun _ kt => XS.aload X_14.here hx rfl (hb hby at_154) rfl rfl kt) ?_
          show G (T_14.setTop (mkF m 156 #[.val (.int sh), .val (.int a0v), .val (.int b0v), .val (.long p0), .second, .val (.long p1), .second, .val (.long p2), .second, .val (.int sz), .val (.int b0), .val (.int b1), .val (.int b2), .val (.int m0), .val (.int m1), .val (.int m2), .val (.ref a), .unset, .unset, .unset, .unset, .unset, .unset] [(.ref a)]))
          refine hst (fun _ kt => XS.iload X_14.here hx rfl (hb hby at_156) rfl kt) ?_
          show G (T_14.setTop (mkF m 158 #[.val (.int sh), .val (.int a0v), .val (.int b0v), .val (.long p0), .second, .val (.long p1), .second, .val (.long p2), .second, .val (.int sz), .val (.int b0), .val (.int b1), .val (.int b2), .val (.int m0), .val (.int m1), .val (.int m2), .val (.ref a), .unset, .unset, .unset, .unset, .unset, .unset] [(.int sz), (.ref a)]))
          obtain ⟨T_15, h_15, X_15, e_15, W_15, st_15⟩ := putF X_14 hx hZ hown (host := "") (Or.inl (own_w50 hw)) Via.refl e_14 F_size_a E_a (Or.inl (own_w51 hw)) (own_w2 hw) (ty := .int) (by decide) rfl rfl (g := (mkF m 158 #[.val (.int sh), .val (.int a0v), .val (.int b0v), .val (.long p0), .second, .val (.long p1), .second, .val (.long p2), .second, .val (.int sz), .val (.int b0), .val (.int b1), .val (.int b2), .val (.int m0), .val (.int m1), .val (.int m2), .val (.ref a), .unset, .unset, .unset, .unset, .unset, .unset] [(.int sz), (.ref a)])) rfl rfl (hb hby at_158)
          have Z0 := Nat.le_trans Z0 (Keep.of_wr W_15).1
          have E_a := E_a.wr W_15
          have F_numbers_a := F_numbers_a.other W_15 (Or.inr (slot_ne (Or.inr (own_w12 hw)) (Or.inl (own_w51 hw)) (by decide) (t := (.array .int)) (t' := .int) (by decide) (by decide)))
          have F_places_a := F_places_a.other W_15 (Or.inr (slot_ne (Or.inr (own_w17 hw)) (Or.inl (own_w51 hw)) (by decide) (t := (.array .long)) (t' := .int) (by decide) (by decide)))
          have F_size_a := F_size_a.same W_15
          have F_oldest_a := F_oldest_a.other W_15 (Or.inr (slot_ne (Or.inl (own_w34 hw)) (Or.inl (own_w51 hw)) (by decide) (t := .int) (t' := .int) (by decide) (by decide)))
          have F_oldestPlace_a := F_oldestPlace_a.other W_15 (Or.inr (slot_ne (Or.inl (own_w55 hw)) (Or.inl (own_w51 hw)) (by decide) (t := .long) (t' := .int) (by decide) (by decide)))
          have V_bn := V_bn.other W_15 (Ne.symm ne_a_bn)
          have V_bp := V_bp.other W_15 (Ne.symm ne_a_bp)
          have N_15 := Fr.snoc X_15 N_14 le_n0_a
          refine hst st_15 ?_
          show G (T_15.setTop (mkF m 161 #[.val (.int sh), .val (.int a0v), .val (.int b0v), .val (.long p0), .second, .val (.long p1), .second, .val (.long p2), .second, .val (.int sz), .val (.int b0), .val (.int b1), .val (.int b2), .val (.int m0), .val (.int m1), .val (.int m2), .val (.ref a), .unset, .unset, .unset, .unset, .unset, .unset] []))
          refine hst (fun _ kt => XS.aload X_15.here hx rfl (hb hby at_161) rfl rfl kt) ?_
          show G (T_15.setTop (mkF m 163 #[.val (.int sh), .val (.int a0v), .val (.int b0v), .val (.long p0), .second, .val (.long p1), .second, .val (.long p2), .second, .val (.int sz), .val (.int b0), .val (.int b1), .val (.int b2), .val (.int m0), .val (.int m1), .val (.int m2), .val (.ref a), .unset, .unset, .unset, .unset, .unset, .unset] [(.ref a)]))
          refine hst (fun _ kt => XS.bipush X_15.here hx rfl (hb hby at_163) kt) ?_
          show G (T_15.setTop (mkF m 165 #[.val (.int sh), .val (.int a0v), .val (.int b0v), .val (.long p0), .second, .val (.long p1), .second, .val (.long p2), .second, .val (.int sz), .val (.int b0), .val (.int b1), .val (.int b2), .val (.int m0), .val (.int m1), .val (.int m2), .val (.ref a), .unset, .unset, .unset, .unset, .unset, .unset] [(.int (-2 : Int32)), (.ref a)]))
          obtain ⟨T_16, h_16, X_16, e_16, W_16, st_16⟩ := putF X_15 hx hZ hown (host := "") (Or.inl (own_w52 hw)) Via.refl e_15 F_oldest_a E_a (Or.inl (own_w34 hw)) (own_w2 hw) (ty := .int) (by decide) rfl rfl (g := (mkF m 165 #[.val (.int sh), .val (.int a0v), .val (.int b0v), .val (.long p0), .second, .val (.long p1), .second, .val (.long p2), .second, .val (.int sz), .val (.int b0), .val (.int b1), .val (.int b2), .val (.int m0), .val (.int m1), .val (.int m2), .val (.ref a), .unset, .unset, .unset, .unset, .unset, .unset] [(.int (-2 : Int32)), (.ref a)])) rfl rfl (hb hby at_165)
          have Z0 := Nat.le_trans Z0 (Keep.of_wr W_16).1
          have E_a := E_a.wr W_16
          have F_numbers_a := F_numbers_a.other W_16 (Or.inr (slot_ne (Or.inr (own_w12 hw)) (Or.inl (own_w34 hw)) (by decide) (t := (.array .int)) (t' := .int) (by decide) (by decide)))
          have F_places_a := F_places_a.other W_16 (Or.inr (slot_ne (Or.inr (own_w17 hw)) (Or.inl (own_w34 hw)) (by decide) (t := (.array .long)) (t' := .int) (by decide) (by decide)))
          have F_size_a := F_size_a.other W_16 (Or.inr (slot_ne (Or.inl (own_w51 hw)) (Or.inl (own_w34 hw)) (by decide) (t := .int) (t' := .int) (by decide) (by decide)))
          have F_oldest_a := F_oldest_a.same W_16
          have F_oldestPlace_a := F_oldestPlace_a.other W_16 (Or.inr (slot_ne (Or.inl (own_w55 hw)) (Or.inl (own_w34 hw)) (by decide) (t := .long) (t' := .int) (by decide) (by decide)))
          have V_bn := V_bn.other W_16 (Ne.symm ne_a_bn)
          have V_bp := V_bp.other W_16 (Ne.symm ne_a_bp)
          have N_16 := Fr.snoc X_16 N_15 le_n0_a
          refine hst st_16 ?_
          show G (T_16.setTop (mkF m 168 #[.val (.int sh), .val (.int a0v), .val (.int b0v), .val (.long p0), .second, .val (.long p1), .second, .val (.long p2), .second, .val (.int sz), .val (.int b0), .val (.int b1), .val (.int b2), .val (.int m0), .val (.int m1), .val (.int m2), .val (.ref a), .unset, .unset, .unset, .unset, .unset, .unset] []))
          refine hst (fun _ kt => XS.aload X_16.here hx rfl (hb hby at_168) rfl rfl kt) ?_
          show G (T_16.setTop (mkF m 170 #[.val (.int sh), .val (.int a0v), .val (.int b0v), .val (.long p0), .second, .val (.long p1), .second, .val (.long p2), .second, .val (.int sz), .val (.int b0), .val (.int b1), .val (.int b2), .val (.int m0), .val (.int m1), .val (.int m2), .val (.ref a), .unset, .unset, .unset, .unset, .unset, .unset] [(.ref a)]))
          refine hst (X_16.ldc2Long hx hown (mvT hZ (own_w53 hw)) (g := (mkF m 170 #[.val (.int sh), .val (.int a0v), .val (.int b0v), .val (.long p0), .second, .val (.long p1), .second, .val (.long p2), .second, .val (.int sz), .val (.int b0), .val (.int b1), .val (.int b2), .val (.int m0), .val (.int m1), .val (.int m2), .val (.ref a), .unset, .unset, .unset, .unset, .unset, .unset] [(.ref a)])) rfl (hb hby at_170)) ?_
          show G (T_16.setTop (mkF m 173 #[.val (.int sh), .val (.int a0v), .val (.int b0v), .val (.long p0), .second, .val (.long p1), .second, .val (.long p2), .second, .val (.int sz), .val (.int b0), .val (.int b1), .val (.int b2), .val (.int m0), .val (.int m1), .val (.int m2), .val (.ref a), .unset, .unset, .unset, .unset, .unset, .unset] [(.long (-9223372036854775808 : Int64)), (.ref a)]))
          obtain ⟨T_17, h_17, X_17, e_17, W_17, st_17⟩ := putF X_16 hx hZ hown (host := "") (Or.inl (own_w54 hw)) Via.refl e_16 F_oldestPlace_a E_a (Or.inl (own_w55 hw)) (own_w2 hw) (ty := .long) (by decide) rfl rfl (g := (mkF m 173 #[.val (.int sh), .val (.int a0v), .val (.int b0v), .val (.long p0), .second, .val (.long p1), .second, .val (.long p2), .second, .val (.int sz), .val (.int b0), .val (.int b1), .val (.int b2), .val (.int m0), .val (.int m1), .val (.int m2), .val (.ref a), .unset, .unset, .unset, .unset, .unset, .unset] [(.long (-9223372036854775808 : Int64)), (.ref a)])) rfl rfl (hb hby at_173)
          have Z0 := Nat.le_trans Z0 (Keep.of_wr W_17).1
          have E_a := E_a.wr W_17
          have F_numbers_a := F_numbers_a.other W_17 (Or.inr (slot_ne (Or.inr (own_w12 hw)) (Or.inl (own_w55 hw)) (by decide) (t := (.array .int)) (t' := .long) (by decide) (by decide)))
          have F_places_a := F_places_a.other W_17 (Or.inr (slot_ne (Or.inr (own_w17 hw)) (Or.inl (own_w55 hw)) (by decide) (t := (.array .long)) (t' := .long) (by decide) (by decide)))
          have F_size_a := F_size_a.other W_17 (Or.inr (slot_ne (Or.inl (own_w51 hw)) (Or.inl (own_w55 hw)) (by decide) (t := .int) (t' := .long) (by decide) (by decide)))
          have F_oldest_a := F_oldest_a.other W_17 (Or.inr (slot_ne (Or.inl (own_w34 hw)) (Or.inl (own_w55 hw)) (by decide) (t := .int) (t' := .long) (by decide) (by decide)))
          have F_oldestPlace_a := F_oldestPlace_a.same W_17
          have V_bn := V_bn.other W_17 (Ne.symm ne_a_bn)
          have V_bp := V_bp.other W_17 (Ne.symm ne_a_bp)
          have N_17 := Fr.snoc X_17 N_16 le_n0_a
          refine hst st_17 ?_
          show G (T_17.setTop (mkF m 176 #[.val (.int sh), .val (.int a0v), .val (.int b0v), .val (.long p0), .second, .val (.long p1), .second, .val (.long p2), .second, .val (.int sz), .val (.int b0), .val (.int b1), .val (.int b2), .val (.int m0), .val (.int m1), .val (.int m2), .val (.ref a), .unset, .unset, .unset, .unset, .unset, .unset] []))
          refine hst (fun _ kt => XS.aload X_17.here hx rfl (hb hby at_176) rfl rfl kt) ?_
          show G (T_17.setTop (mkF m 178 #[.val (.int sh), .val (.int a0v), .val (.int b0v), .val (.long p0), .second, .val (.long p1), .second, .val (.long p2), .second, .val (.int sz), .val (.int b0), .val (.int b1), .val (.int b2), .val (.int m0), .val (.int m1), .val (.int m2), .val (.ref a), .unset, .unset, .unset, .unset, .unset, .unset] [(.ref a)]))
          obtain ⟨_, _, ⟨T_18, L_18, k_18, n_18⟩, -, X_18, ⟨Lc_18, hQ_18, l_18, y_18, z_18⟩, st_18⟩ := Jvm.LawKit.callS X_17 hx (y := (⟨own_S, "findOldest", "(Lcom/example/tierfold/tierfold/simulation/SlotOrder$Block;)V"⟩ : MethodName)) hown (mvT hZ (own_w56 hw)) (mvT hZ (own_w57 hw)) (mvT hZ (own_w58 hw)) (mvT hZ (own_w59 hw)) (by decide) (backOf (W := 0) (rm2 l Z a0 hw [] a bn bp k_bn k_bp c0 c1 c2 p0 p1 p2 sz (-2 : Int32) (-9223372036854775808 : Int64) h_17 n0 Z0 hsz.2 E_a F_numbers_a F_places_a F_size_a F_oldest_a F_oldestPlace_a V_bn V_bp le_n0_a ne_a_bn ne_a_bp) hZ (own_w59 hw) (own_w58 hw) (by decide) (by decide)) (g := (mkF m 178 #[.val (.int sh), .val (.int a0v), .val (.int b0v), .val (.long p0), .second, .val (.long p1), .second, .val (.long p2), .second, .val (.int sz), .val (.int b0), .val (.int b1), .val (.int b2), .val (.int m0), .val (.int m1), .val (.int m2), .val (.ref a), .unset, .unset, .unset, .unset, .unset, .unset] [(.ref a)])) rfl (by rw [hml]; rfl) (argsL := [(.ref a)]) (rest := []) (lenOf pd_1 rfl) rfl (by show 2 * 0 + _ ≤ _; exact Nat.le_of_eq rfl) (hb hby at_178) (fun _ _ => ⟨rfl, e_17, (by decide : 11 + 0 ≤ _), (by decide : 2083 + 0 ≤ _)⟩)
          dsimp only [Pt.U, Pt.locs, Pt.cells, Pt.slots] at X_18 l_18 y_18 z_18 st_18 hQ_18
          subst l_18 y_18 z_18
          obtain ⟨rfl, N_18q, K_18, Ex_18, Q6, Q7⟩ := hQ_18
          have Z0 := Nat.le_trans Z0 K_18.1
          have E_a := E_a.keep K_18
          have V_bn := V_bn.keep K_18 (ninS (Ne.symm ne_a_bn) nin0)
          have V_bp := V_bp.keep K_18 (ninS (Ne.symm ne_a_bp) nin0)
          obtain ⟨rs, hrs⟩ : ∃ z, z = own_f0 sz c0 p0 c1 p1 c2 p2 ((-1 : Int32), (-9223372036854775808 : Int64)) := ⟨_, rfl⟩
          rw [← hrs] at Q6 Q7
          have F_oldest_a := Q6
          have F_oldestPlace_a := Q7
          have N_18 := Fr.app N_17 N_18q
          refine hst (fun _ kt => st_18 _ kt) ?_
          show G (T_18.setTop (mkF m 181 #[.val (.int sh), .val (.int a0v), .val (.int b0v), .val (.long p0), .second, .val (.long p1), .second, .val (.long p2), .second, .val (.int sz), .val (.int b0), .val (.int b1), .val (.int b2), .val (.int m0), .val (.int m1), .val (.int m2), .val (.ref a), .unset, .unset, .unset, .unset, .unset, .unset] []))
          refine hst (fun _ kt => XS.iload X_18.here hx rfl (hb hby at_181) rfl kt) ?_
          show G (T_18.setTop (mkF m 183 #[.val (.int sh), .val (.int a0v), .val (.int b0v), .val (.long p0), .second, .val (.long p1), .second, .val (.long p2), .second, .val (.int sz), .val (.int b0), .val (.int b1), .val (.int b2), .val (.int m0), .val (.int m1), .val (.int m2), .val (.ref a), .unset, .unset, .unset, .unset, .unset, .unset] [(.int sz)]))
          have J196 : ∀ (d0 : Int32) (hd0 : d0 = own_pr 0 sz b0), G (T_18.setTop (mkF m 196 #[.val (.int sh), .val (.int a0v), .val (.int b0v), .val (.long p0), .second, .val (.long p1), .second, .val (.long p2), .second, .val (.int sz), .val (.int b0), .val (.int b1), .val (.int b2), .val (.int m0), .val (.int m1), .val (.int m2), .val (.ref a), .unset, .unset, .unset, .unset, .unset, .unset] [(.int d0)])) := by
            intro d0 hd0
            show G (T_18.setTop (mkF m 196 #[.val (.int sh), .val (.int a0v), .val (.int b0v), .val (.long p0), .second, .val (.long p1), .second, .val (.long p2), .second, .val (.int sz), .val (.int b0), .val (.int b1), .val (.int b2), .val (.int m0), .val (.int m1), .val (.int m2), .val (.ref a), .unset, .unset, .unset, .unset, .unset, .unset] [(.int d0)]))
            refine hst (fun _ kt => XS.istore X_18.here hx rfl (hb hby at_196) rfl (l' := #[.val (.int sh), .val (.int a0v), .val (.int b0v), .val (.long p0), .second, .val (.long p1), .second, .val (.long p2), .second, .val (.int sz), .val (.int b0), .val (.int b1), .val (.int b2), .val (.int m0), .val (.int m1), .val (.int m2), .val (.ref a), .val (.int d0), .unset, .unset, .unset, .unset, .unset]) rfl kt) ?_
            show G (T_18.setTop (mkF m 198 #[.val (.int sh), .val (.int a0v), .val (.int b0v), .val (.long p0), .second, .val (.long p1), .second, .val (.long p2), .second, .val (.int sz), .val (.int b0), .val (.int b1), .val (.int b2), .val (.int m0), .val (.int m1), .val (.int m2), .val (.ref a), .val (.int d0), .unset, .unset, .unset, .unset, .unset] []))
            refine hst (fun _ kt => XS.iload X_18.here hx rfl (hb hby at_198) rfl kt) ?_
            show G (T_18.setTop (mkF m 200 #[.val (.int sh), .val (.int a0v), .val (.int b0v), .val (.long p0), .second, .val (.long p1), .second, .val (.long p2), .second, .val (.int sz), .val (.int b0), .val (.int b1), .val (.int b2), .val (.int m0), .val (.int m1), .val (.int m2), .val (.ref a), .val (.int d0), .unset, .unset, .unset, .unset, .unset] [(.int sz)]))
            refine hst (fun _ kt => XS.iconst X_18.here hx rfl (hb hby at_200) kt) ?_
            show G (T_18.setTop (mkF m 201 #[.val (.int sh), .val (.int a0v), .val (.int b0v), .val (.long p0), .second, .val (.long p1), .second, .val (.long p2), .second, .val (.int sz), .val (.int b0), .val (.int b1), .val (.int b2), .val (.int m0), .val (.int m1), .val (.int m2), .val (.ref a), .val (.int d0), .unset, .unset, .unset, .unset, .unset] [(.int (1 : Int32)), (.int sz)]))
            have J214 : ∀ (d1 : Int32) (hd1 : d1 = own_pr 1 sz b1), G (T_18.setTop (mkF m 214 #[.val (.int sh), .val (.int a0v), .val (.int b0v), .val (.long p0), .second, .val (.long p1), .second, .val (.long p2), .second, .val (.int sz), .val (.int b0), .val (.int b1), .val (.int b2), .val (.int m0), .val (.int m1), .val (.int m2), .val (.ref a), .val (.int d0), .unset, .unset, .unset, .unset, .unset] [(.int d1)])) := by
              intro d1 hd1
              show G (T_18.setTop (mkF m 214 #[.val (.int sh), .val (.int a0v), .val (.int b0v), .val (.long p0), .second, .val (.long p1), .second, .val (.long p2), .second, .val (.int sz), .val (.int b0), .val (.int b1), .val (.int b2), .val (.int m0), .val (.int m1), .val (.int m2), .val (.ref a), .val (.int d0), .unset, .unset, .unset, .unset, .unset] [(.int d1)]))
              refine hst (fun _ kt => XS.istore X_18.here hx rfl (hb hby at_214) rfl (l' := #[.val (.int sh), .val (.int a0v), .val (.int b0v), .val (.long p0), .second, .val (.long p1), .second, .val (.long p2), .second, .val (.int sz), .val (.int b0), .val (.int b1), .val (.int b2), .val (.int m0), .val (.int m1), .val (.int m2), .val (.ref a), .val (.int d0), .val (.int d1), .unset, .unset, .unset, .unset]) rfl kt) ?_
              show G (T_18.setTop (mkF m 216 #[.val (.int sh), .val (.int a0v), .val (.int b0v), .val (.long p0), .second, .val (.long p1), .second, .val (.long p2), .second, .val (.int sz), .val (.int b0), .val (.int b1), .val (.int b2), .val (.int m0), .val (.int m1), .val (.int m2), .val (.ref a), .val (.int d0), .val (.int d1), .unset, .unset, .unset, .unset] []))
              refine hst (fun _ kt => XS.iload X_18.here hx rfl (hb hby at_216) rfl kt) ?_
              show G (T_18.setTop (mkF m 218 #[.val (.int sh), .val (.int a0v), .val (.int b0v), .val (.long p0), .second, .val (.long p1), .second, .val (.long p2), .second, .val (.int sz), .val (.int b0), .val (.int b1), .val (.int b2), .val (.int m0), .val (.int m1), .val (.int m2), .val (.ref a), .val (.int d0), .val (.int d1), .unset, .unset, .unset, .unset] [(.int sz)]))
              refine hst (fun _ kt => XS.iconst X_18.here hx rfl (hb hby at_218) kt) ?_
              show G (T_18.setTop (mkF m 219 #[.val (.int sh), .val (.int a0v), .val (.int b0v), .val (.long p0), .second, .val (.long p1), .second, .val (.long p2), .second, .val (.int sz), .val (.int b0), .val (.int b1), .val (.int b2), .val (.int m0), .val (.int m1), .val (.int m2), .val (.ref a), .val (.int d0), .val (.int d1), .unset, .unset, .unset, .unset] [(.int (2 : Int32)), (.int sz)]))
              have J232 : ∀ (d2 : Int32) (hd2 : d2 = own_pr 2 sz b2), G (T_18.setTop (mkF m 232 #[.val (.int sh), .val (.int a0v), .val (.int b0v), .val (.long p0), .second, .val (.long p1), .second, .val (.long p2), .second, .val (.int sz), .val (.int b0), .val (.int b1), .val (.int b2), .val (.int m0), .val (.int m1), .val (.int m2), .val (.ref a), .val (.int d0), .val (.int d1), .unset, .unset, .unset, .unset] [(.int d2)])) := by
                intro d2 hd2
                show G (T_18.setTop (mkF m 232 #[.val (.int sh), .val (.int a0v), .val (.int b0v), .val (.long p0), .second, .val (.long p1), .second, .val (.long p2), .second, .val (.int sz), .val (.int b0), .val (.int b1), .val (.int b2), .val (.int m0), .val (.int m1), .val (.int m2), .val (.ref a), .val (.int d0), .val (.int d1), .unset, .unset, .unset, .unset] [(.int d2)]))
                refine hst (fun _ kt => XS.istore X_18.here hx rfl (hb hby at_232) rfl (l' := #[.val (.int sh), .val (.int a0v), .val (.int b0v), .val (.long p0), .second, .val (.long p1), .second, .val (.long p2), .second, .val (.int sz), .val (.int b0), .val (.int b1), .val (.int b2), .val (.int m0), .val (.int m1), .val (.int m2), .val (.ref a), .val (.int d0), .val (.int d1), .val (.int d2), .unset, .unset, .unset]) rfl kt) ?_
                show G (T_18.setTop (mkF m 234 #[.val (.int sh), .val (.int a0v), .val (.int b0v), .val (.long p0), .second, .val (.long p1), .second, .val (.long p2), .second, .val (.int sz), .val (.int b0), .val (.int b1), .val (.int b2), .val (.int m0), .val (.int m1), .val (.int m2), .val (.ref a), .val (.int d0), .val (.int d1), .val (.int d2), .unset, .unset, .unset] []))
                refine hst (fun _ kt => XS.iload X_18.here hx rfl (hb hby at_234) rfl kt) ?_
                show G (T_18.setTop (mkF m 236 #[.val (.int sh), .val (.int a0v), .val (.int b0v), .val (.long p0), .second, .val (.long p1), .second, .val (.long p2), .second, .val (.int sz), .val (.int b0), .val (.int b1), .val (.int b2), .val (.int m0), .val (.int m1), .val (.int m2), .val (.ref a), .val (.int d0), .val (.int d1), .val (.int d2), .unset, .unset, .unset] [(.int d0)]))
                have J270 : ∀ (f0 : Int32) (Tj_19 : State) (lj_19 : List Loc) (Xj_19 : Stand p l e room_1 s m #[(.int sh), (.int a0v), (.int b0v), (.long p0), (.long p1), (.long p2)] below meth c Tj_19 lj_19 11 2083) (ej_19 : Tj_19.heap = T_18.heap) (Nj_19 : Fr n0 lj_19) (hf0 : f0 = own_mn d0 (own_bt p0 0 d1 p1 1) (own_bt p0 0 d2 p2 2)), G (Tj_19.setTop (mkF m 270 #[.val (.int sh), .val (.int a0v), .val (.int b0v), .val (.long p0), .second, .val (.long p1), .second, .val (.long p2), .second, .val (.int sz), .val (.int b0), .val (.int b1), .val (.int b2), .val (.int m0), .val (.int m1), .val (.int m2), .val (.ref a), .val (.int d0), .val (.int d1), .val (.int d2), .unset, .unset, .unset] [(.int f0)])) := by
                  intro f0 Tj_19 lj_19 Xj_19 ej_19 Nj_19 hf0
                  show G (Tj_19.setTop (mkF m 270 #[.val (.int sh), .val (.int a0v), .val (.int b0v), .val (.long p0), .second, .val (.long p1), .second, .val (.long p2), .second, .val (.int sz), .val (.int b0), .val (.int b1), .val (.int b2), .val (.int m0), .val (.int m1), .val (.int m2), .val (.ref a), .val (.int d0), .val (.int d1), .val (.int d2), .unset, .unset, .unset] [(.int f0)]))
                  refine hst (fun _ kt => XS.istore Xj_19.here hx rfl (hb hby at_270) rfl (l' := #[.val (.int sh), .val (.int a0v), .val (.int b0v), .val (.long p0), .second, .val (.long p1), .second, .val (.long p2), .second, .val (.int sz), .val (.int b0), .val (.int b1), .val (.int b2), .val (.int m0), .val (.int m1), .val (.int m2), .val (.ref a), .val (.int d0), .val (.int d1), .val (.int d2), .val (.int f0), .unset, .unset]) rfl kt) ?_
                  show G (Tj_19.setTop (mkF m 272 #[.val (.int sh), .val (.int a0v), .val (.int b0v), .val (.long p0), .second, .val (.long p1), .second, .val (.long p2), .second, .val (.int sz), .val (.int b0), .val (.int b1), .val (.int b2), .val (.int m0), .val (.int m1), .val (.int m2), .val (.ref a), .val (.int d0), .val (.int d1), .val (.int d2), .val (.int f0), .unset, .unset] []))
                  refine hst (fun _ kt => XS.iload Xj_19.here hx rfl (hb hby at_272) rfl kt) ?_
                  show G (Tj_19.setTop (mkF m 274 #[.val (.int sh), .val (.int a0v), .val (.int b0v), .val (.long p0), .second, .val (.long p1), .second, .val (.long p2), .second, .val (.int sz), .val (.int b0), .val (.int b1), .val (.int b2), .val (.int m0), .val (.int m1), .val (.int m2), .val (.ref a), .val (.int d0), .val (.int d1), .val (.int d2), .val (.int f0), .unset, .unset] [(.int d1)]))
                  have J309 : ∀ (f1 : Int32) (Tj_20 : State) (lj_20 : List Loc) (Xj_20 : Stand p l e room_1 s m #[(.int sh), (.int a0v), (.int b0v), (.long p0), (.long p1), (.long p2)] below meth c Tj_20 lj_20 11 2083) (ej_20 : Tj_20.heap = T_18.heap) (Nj_20 : Fr n0 lj_20) (hf1 : f1 = own_mn d1 (own_bt p1 1 d0 p0 0) (own_bt p1 1 d2 p2 2)), G (Tj_20.setTop (mkF m 309 #[.val (.int sh), .val (.int a0v), .val (.int b0v), .val (.long p0), .second, .val (.long p1), .second, .val (.long p2), .second, .val (.int sz), .val (.int b0), .val (.int b1), .val (.int b2), .val (.int m0), .val (.int m1), .val (.int m2), .val (.ref a), .val (.int d0), .val (.int d1), .val (.int d2), .val (.int f0), .unset, .unset] [(.int f1)])) := by
                    intro f1 Tj_20 lj_20 Xj_20 ej_20 Nj_20 hf1
                    show G (Tj_20.setTop (mkF m 309 #[.val (.int sh), .val (.int a0v), .val (.int b0v), .val (.long p0), .second, .val (.long p1), .second, .val (.long p2), .second, .val (.int sz), .val (.int b0), .val (.int b1), .val (.int b2), .val (.int m0), .val (.int m1), .val (.int m2), .val (.ref a), .val (.int d0), .val (.int d1), .val (.int d2), .val (.int f0), .unset, .unset] [(.int f1)]))
                    refine hst (fun _ kt => XS.istore Xj_20.here hx rfl (hb hby at_309) rfl (l' := #[.val (.int sh), .val (.int a0v), .val (.int b0v), .val (.long p0), .second, .val (.long p1), .second, .val (.long p2), .second, .val (.int sz), .val (.int b0), .val (.int b1), .val (.int b2), .val (.int m0), .val (.int m1), .val (.int m2), .val (.ref a), .val (.int d0), .val (.int d1), .val (.int d2), .val (.int f0), .val (.int f1), .unset]) rfl kt) ?_
                    show G (Tj_20.setTop (mkF m 311 #[.val (.int sh), .val (.int a0v), .val (.int b0v), .val (.long p0), .second, .val (.long p1), .second, .val (.long p2), .second, .val (.int sz), .val (.int b0), .val (.int b1), .val (.int b2), .val (.int m0), .val (.int m1), .val (.int m2), .val (.ref a), .val (.int d0), .val (.int d1), .val (.int d2), .val (.int f0), .val (.int f1), .unset] []))
                    refine hst (fun _ kt => XS.iload Xj_20.here hx rfl (hb hby at_311) rfl kt) ?_
                    show G (Tj_20.setTop (mkF m 313 #[.val (.int sh), .val (.int a0v), .val (.int b0v), .val (.long p0), .second, .val (.long p1), .second, .val (.long p2), .second, .val (.int sz), .val (.int b0), .val (.int b1), .val (.int b2), .val (.int m0), .val (.int m1), .val (.int m2), .val (.ref a), .val (.int d0), .val (.int d1), .val (.int d2), .val (.int f0), .val (.int f1), .unset] [(.int d2)]))
                    have J348 : ∀ (f2 : Int32) (Tj_21 : State) (lj_21 : List Loc) (Xj_21 : Stand p l e room_1 s m #[(.int sh), (.int a0v), (.int b0v), (.long p0), (.long p1), (.long p2)] below meth c Tj_21 lj_21 11 2083) (ej_21 : Tj_21.heap = T_18.heap) (Nj_21 : Fr n0 lj_21) (hf2 : f2 = own_mn d2 (own_bt p2 2 d0 p0 0) (own_bt p2 2 d1 p1 1)), G (Tj_21.setTop (mkF m 348 #[.val (.int sh), .val (.int a0v), .val (.int b0v), .val (.long p0), .second, .val (.long p1), .second, .val (.long p2), .second, .val (.int sz), .val (.int b0), .val (.int b1), .val (.int b2), .val (.int m0), .val (.int m1), .val (.int m2), .val (.ref a), .val (.int d0), .val (.int d1), .val (.int d2), .val (.int f0), .val (.int f1), .unset] [(.int f2)])) := by
                      intro f2 Tj_21 lj_21 Xj_21 ej_21 Nj_21 hf2
                      show G (Tj_21.setTop (mkF m 348 #[.val (.int sh), .val (.int a0v), .val (.int b0v), .val (.long p0), .second, .val (.long p1), .second, .val (.long p2), .second, .val (.int sz), .val (.int b0), .val (.int b1), .val (.int b2), .val (.int m0), .val (.int m1), .val (.int m2), .val (.ref a), .val (.int d0), .val (.int d1), .val (.int d2), .val (.int f0), .val (.int f1), .unset] [(.int f2)]))
                      have hfin := own_final sz m0 m1 m2 p0 p1 p2 b0 b1 b2 hb0 hb1 hb2 hsz hn0 hn1 hn2 c0 c1 c2 hcc0 hcc1 hcc2 d0 d1 d2 hd0 hd1 hd2 f0 f1 f2 hf0 hf1 hf2 rs hrs
                      refine hst (fun _ kt => XS.istore Xj_21.here hx rfl (hb hby at_348) rfl (l' := #[.val (.int sh), .val (.int a0v), .val (.int b0v), .val (.long p0), .second, .val (.long p1), .second, .val (.long p2), .second, .val (.int sz), .val (.int b0), .val (.int b1), .val (.int b2), .val (.int m0), .val (.int m1), .val (.int m2), .val (.ref a), .val (.int d0), .val (.int d1), .val (.int d2), .val (.int f0), .val (.int f1), .val (.int f2)]) rfl kt) ?_
                      show G (Tj_21.setTop (mkF m 350 #[.val (.int sh), .val (.int a0v), .val (.int b0v), .val (.long p0), .second, .val (.long p1), .second, .val (.long p2), .second, .val (.int sz), .val (.int b0), .val (.int b1), .val (.int b2), .val (.int m0), .val (.int m1), .val (.int m2), .val (.ref a), .val (.int d0), .val (.int d1), .val (.int d2), .val (.int f0), .val (.int f1), .val (.int f2)] []))
                      refine hst (fun _ kt => XS.iload Xj_21.here hx rfl (hb hby at_350) rfl kt) ?_
                      show G (Tj_21.setTop (mkF m 352 #[.val (.int sh), .val (.int a0v), .val (.int b0v), .val (.long p0), .second, .val (.long p1), .second, .val (.long p2), .second, .val (.int sz), .val (.int b0), .val (.int b1), .val (.int b2), .val (.int m0), .val (.int m1), .val (.int m2), .val (.ref a), .val (.int d0), .val (.int d1), .val (.int d2), .val (.int f0), .val (.int f1), .val (.int f2)] [(.int f0)]))
                      by_cases hc352 : f0 = (0 : Int32)
                      ·
                        refine hst (fun _ kt => XS.ifYes Xj_21.here hx rfl (pc0 := 352) (pc' := 381) rfl (hb hby at_352) rfl ((if0 _ _).trans (teq hc352).1) (by decide) (by decide) kt) ?_
                        show G (Tj_21.setTop (mkF m 381 #[.val (.int sh), .val (.int a0v), .val (.int b0v), .val (.long p0), .second, .val (.long p1), .second, .val (.long p2), .second, .val (.int sz), .val (.int b0), .val (.int b1), .val (.int b2), .val (.int m0), .val (.int m1), .val (.int m2), .val (.ref a), .val (.int d0), .val (.int d1), .val (.int d2), .val (.int f0), .val (.int f1), .val (.int f2)] []))
                        refine hst (fun _ kt => XS.iload Xj_21.here hx rfl (hb hby at_381) rfl kt) ?_
                        show G (Tj_21.setTop (mkF m 383 #[.val (.int sh), .val (.int a0v), .val (.int b0v), .val (.long p0), .second, .val (.long p1), .second, .val (.long p2), .second, .val (.int sz), .val (.int b0), .val (.int b1), .val (.int b2), .val (.int m0), .val (.int m1), .val (.int m2), .val (.ref a), .val (.int d0), .val (.int d1), .val (.int d2), .val (.int f0), .val (.int f1), .val (.int f2)] [(.int f1)]))
                        by_cases hc383 : f1 = (0 : Int32)
                        ·
                          refine hst (fun _ kt => XS.ifYes Xj_21.here hx rfl (pc0 := 383) (pc' := 413) rfl (hb hby at_383) rfl ((if0 _ _).trans (teq hc383).1) (by decide) (by decide) kt) ?_
                          show G (Tj_21.setTop (mkF m 413 #[.val (.int sh), .val (.int a0v), .val (.int b0v), .val (.long p0), .second, .val (.long p1), .second, .val (.long p2), .second, .val (.int sz), .val (.int b0), .val (.int b1), .val (.int b2), .val (.int m0), .val (.int m1), .val (.int m2), .val (.ref a), .val (.int d0), .val (.int d1), .val (.int d2), .val (.int f0), .val (.int f1), .val (.int f2)] []))
                          refine hst (fun _ kt => XS.iload Xj_21.here hx rfl (hb hby at_413) rfl kt) ?_
                          show G (Tj_21.setTop (mkF m 415 #[.val (.int sh), .val (.int a0v), .val (.int b0v), .val (.long p0), .second, .val (.long p1), .second, .val (.long p2), .second, .val (.int sz), .val (.int b0), .val (.int b1), .val (.int b2), .val (.int m0), .val (.int m1), .val (.int m2), .val (.ref a), .val (.int d0), .val (.int d1), .val (.int d2), .val (.int f0), .val (.int f1), .val (.int f2)] [(.int f2)]))
                          by_cases hc415 : f2 = (0 : Int32)
                          ·
                            refine hst (fun _ kt => XS.ifYes Xj_21.here hx rfl (pc0 := 415) (pc' := 445) rfl (hb hby at_415) rfl ((if0 _ _).trans (teq hc415).1) (by decide) (by decide) kt) ?_
                            show G (Tj_21.setTop (mkF m 445 #[.val (.int sh), .val (.int a0v), .val (.int b0v), .val (.long p0), .second, .val (.long p1), .second, .val (.long p2), .second, .val (.int sz), .val (.int b0), .val (.int b1), .val (.int b2), .val (.int m0), .val (.int m1), .val (.int m2), .val (.ref a), .val (.int d0), .val (.int d1), .val (.int d2), .val (.int f0), .val (.int f1), .val (.int f2)] []))
                            refine hst (fun _ kt => XS.aload Xj_21.here hx rfl (hb hby at_445) rfl rfl kt) ?_
                            show G (Tj_21.setTop (mkF m 447 #[.val (.int sh), .val (.int a0v), .val (.int b0v), .val (.long p0), .second, .val (.long p1), .second, .val (.long p2), .second, .val (.int sz), .val (.int b0), .val (.int b1), .val (.int b2), .val (.int m0), .val (.int m1), .val (.int m2), .val (.ref a), .val (.int d0), .val (.int d1), .val (.int d2), .val (.int f0), .val (.int f1), .val (.int f2)] [(.ref a)]))
                            obtain ⟨T_22, X_22, e_22, st_22⟩ := getF Xj_21 hx hZ hown (host := "") (Or.inl (own_w52 hw)) Via.refl ej_21 F_oldest_a (g := (mkF m 447 #[.val (.int sh), .val (.int a0v), .val (.int b0v), .val (.long p0), .second, .val (.long p1), .second, .val (.long p2), .second, .val (.int sz), .val (.int b0), .val (.int b1), .val (.int b2), .val (.int m0), .val (.int m1), .val (.int m2), .val (.ref a), .val (.int d0), .val (.int d1), .val (.int d2), .val (.int f0), .val (.int f1), .val (.int f2)] [(.ref a)])) rfl rfl (hb hby at_447)
                            refine hst st_22 ?_
                            show G (T_22.setTop (mkF m 450 #[.val (.int sh), .val (.int a0v), .val (.int b0v), .val (.long p0), .second, .val (.long p1), .second, .val (.long p2), .second, .val (.int sz), .val (.int b0), .val (.int b1), .val (.int b2), .val (.int m0), .val (.int m1), .val (.int m2), .val (.ref a), .val (.int d0), .val (.int d1), .val (.int d2), .val (.int f0), .val (.int f1), .val (.int f2)] [(.int rs.1)]))
                            refine hst (fun _ kt => XS.iconst X_22.here hx rfl (hb hby at_450) kt) ?_
                            show G (T_22.setTop (mkF m 451 #[.val (.int sh), .val (.int a0v), .val (.int b0v), .val (.long p0), .second, .val (.long p1), .second, .val (.long p2), .second, .val (.int sz), .val (.int b0), .val (.int b1), .val (.int b2), .val (.int m0), .val (.int m1), .val (.int m2), .val (.ref a), .val (.int d0), .val (.int d1), .val (.int d2), .val (.int f0), .val (.int f1), .val (.int f2)] [(.int (-1 : Int32)), (.int rs.1)]))
                            have hc451 : rs.1 = (-1 : Int32) := hfin.2.2.2 hc352 hc383 hc415
                            refine hst (fun _ kt => XS.icmpNo X_22.here hx rfl (hb hby at_451) rfl (teq hc451).2 kt) ?_
                            show G (T_22.setTop (mkF m 454 #[.val (.int sh), .val (.int a0v), .val (.int b0v), .val (.long p0), .second, .val (.long p1), .second, .val (.long p2), .second, .val (.int sz), .val (.int b0), .val (.int b1), .val (.int b2), .val (.int m0), .val (.int m1), .val (.int m2), .val (.ref a), .val (.int d0), .val (.int d1), .val (.int d2), .val (.int f0), .val (.int f1), .val (.int f2)] []))
                            refine hst (fun _ kt => XS.iconst X_22.here hx rfl (hb hby at_454) kt) ?_
                            show G (T_22.setTop (mkF m 455 #[.val (.int sh), .val (.int a0v), .val (.int b0v), .val (.long p0), .second, .val (.long p1), .second, .val (.long p2), .second, .val (.int sz), .val (.int b0), .val (.int b1), .val (.int b2), .val (.int m0), .val (.int m1), .val (.int m2), .val (.ref a), .val (.int d0), .val (.int d1), .val (.int d2), .val (.int f0), .val (.int f1), .val (.int f2)] [(.int (1 : Int32))]))
                            refine hst (fun _ kt => XS.goto X_22.here hx rfl (pc0 := 455) (pc' := 459) rfl (hb hby at_455) (by decide) (by decide) kt) ?_
                            show G (T_22.setTop (mkF m 459 #[.val (.int sh), .val (.int a0v), .val (.int b0v), .val (.long p0), .second, .val (.long p1), .second, .val (.long p2), .second, .val (.int sz), .val (.int b0), .val (.int b1), .val (.int b2), .val (.int m0), .val (.int m1), .val (.int m2), .val (.ref a), .val (.int d0), .val (.int d1), .val (.int d2), .val (.int f0), .val (.int f1), .val (.int f2)] [(.int (1 : Int32))]))
                            exact hend (own_goRet X_22 hx Bd.returns rfl (Or.inl ⟨rfl, by simp, _, rfl⟩) (hb hby at_459) Bd.notSynchronized (by rw [e_22]; exact ⟨rfl, Nj_21⟩) (by decide) (by decide))
                          ·
                            refine hst (fun _ kt => XS.ifNo Xj_21.here hx rfl (hb hby at_415) rfl ((if0 _ _).trans (feq hc415).1) kt) ?_
                            show G (Tj_21.setTop (mkF m 418 #[.val (.int sh), .val (.int a0v), .val (.int b0v), .val (.long p0), .second, .val (.long p1), .second, .val (.long p2), .second, .val (.int sz), .val (.int b0), .val (.int b1), .val (.int b2), .val (.int m0), .val (.int m1), .val (.int m2), .val (.ref a), .val (.int d0), .val (.int d1), .val (.int d2), .val (.int f0), .val (.int f1), .val (.int f2)] []))
                            refine hst (fun _ kt => XS.aload Xj_21.here hx rfl (hb hby at_418) rfl rfl kt) ?_
                            show G (Tj_21.setTop (mkF m 420 #[.val (.int sh), .val (.int a0v), .val (.int b0v), .val (.long p0), .second, .val (.long p1), .second, .val (.long p2), .second, .val (.int sz), .val (.int b0), .val (.int b1), .val (.int b2), .val (.int m0), .val (.int m1), .val (.int m2), .val (.ref a), .val (.int d0), .val (.int d1), .val (.int d2), .val (.int f0), .val (.int f1), .val (.int f2)] [(.ref a)]))
                            obtain ⟨T_23, X_23, e_23, st_23⟩ := getF Xj_21 hx hZ hown (host := "") (Or.inl (own_w52 hw)) Via.refl ej_21 F_oldest_a (g := (mkF m 420 #[.val (.int sh), .val (.int a0v), .val (.int b0v), .val (.long p0), .second, .val (.long p1), .second, .val (.long p2), .second, .val (.int sz), .val (.int b0), .val (.int b1), .val (.int b2), .val (.int m0), .val (.int m1), .val (.int m2), .val (.ref a), .val (.int d0), .val (.int d1), .val (.int d2), .val (.int f0), .val (.int f1), .val (.int f2)] [(.ref a)])) rfl rfl (hb hby at_420)
                            refine hst st_23 ?_
                            show G (T_23.setTop (mkF m 423 #[.val (.int sh), .val (.int a0v), .val (.int b0v), .val (.long p0), .second, .val (.long p1), .second, .val (.long p2), .second, .val (.int sz), .val (.int b0), .val (.int b1), .val (.int b2), .val (.int m0), .val (.int m1), .val (.int m2), .val (.ref a), .val (.int d0), .val (.int d1), .val (.int d2), .val (.int f0), .val (.int f1), .val (.int f2)] [(.int rs.1)]))
                            refine hst (fun _ kt => XS.iload X_23.here hx rfl (hb hby at_423) rfl kt) ?_
                            show G (T_23.setTop (mkF m 425 #[.val (.int sh), .val (.int a0v), .val (.int b0v), .val (.long p0), .second, .val (.long p1), .second, .val (.long p2), .second, .val (.int sz), .val (.int b0), .val (.int b1), .val (.int b2), .val (.int m0), .val (.int m1), .val (.int m2), .val (.ref a), .val (.int d0), .val (.int d1), .val (.int d2), .val (.int f0), .val (.int f1), .val (.int f2)] [(.int m2), (.int rs.1)]))
                            have hc425 : rs.1 = m2 := (hfin.2.2.1 hc352 hc383 hc415).1
                            refine hst (fun _ kt => XS.icmpNo X_23.here hx rfl (hb hby at_425) rfl (teq hc425).2 kt) ?_
                            show G (T_23.setTop (mkF m 428 #[.val (.int sh), .val (.int a0v), .val (.int b0v), .val (.long p0), .second, .val (.long p1), .second, .val (.long p2), .second, .val (.int sz), .val (.int b0), .val (.int b1), .val (.int b2), .val (.int m0), .val (.int m1), .val (.int m2), .val (.ref a), .val (.int d0), .val (.int d1), .val (.int d2), .val (.int f0), .val (.int f1), .val (.int f2)] []))
                            refine hst (fun _ kt => XS.aload X_23.here hx rfl (hb hby at_428) rfl rfl kt) ?_
                            show G (T_23.setTop (mkF m 430 #[.val (.int sh), .val (.int a0v), .val (.int b0v), .val (.long p0), .second, .val (.long p1), .second, .val (.long p2), .second, .val (.int sz), .val (.int b0), .val (.int b1), .val (.int b2), .val (.int m0), .val (.int m1), .val (.int m2), .val (.ref a), .val (.int d0), .val (.int d1), .val (.int d2), .val (.int f0), .val (.int f1), .val (.int f2)] [(.ref a)]))
                            obtain ⟨T_24, X_24, e_24, st_24⟩ := getF X_23 hx hZ hown (host := "") (Or.inl (own_w54 hw)) Via.refl e_23 F_oldestPlace_a (g := (mkF m 430 #[.val (.int sh), .val (.int a0v), .val (.int b0v), .val (.long p0), .second, .val (.long p1), .second, .val (.long p2), .second, .val (.int sz), .val (.int b0), .val (.int b1), .val (.int b2), .val (.int m0), .val (.int m1), .val (.int m2), .val (.ref a), .val (.int d0), .val (.int d1), .val (.int d2), .val (.int f0), .val (.int f1), .val (.int f2)] [(.ref a)])) rfl rfl (hb hby at_430)
                            refine hst st_24 ?_
                            show G (T_24.setTop (mkF m 433 #[.val (.int sh), .val (.int a0v), .val (.int b0v), .val (.long p0), .second, .val (.long p1), .second, .val (.long p2), .second, .val (.int sz), .val (.int b0), .val (.int b1), .val (.int b2), .val (.int m0), .val (.int m1), .val (.int m2), .val (.ref a), .val (.int d0), .val (.int d1), .val (.int d2), .val (.int f0), .val (.int f1), .val (.int f2)] [(.long rs.2)]))
                            refine hst (fun _ kt => XS.lload X_24.here hx rfl (hb hby at_433) rfl kt) ?_
                            show G (T_24.setTop (mkF m 435 #[.val (.int sh), .val (.int a0v), .val (.int b0v), .val (.long p0), .second, .val (.long p1), .second, .val (.long p2), .second, .val (.int sz), .val (.int b0), .val (.int b1), .val (.int b2), .val (.int m0), .val (.int m1), .val (.int m2), .val (.ref a), .val (.int d0), .val (.int d1), .val (.int d2), .val (.int f0), .val (.int f1), .val (.int f2)] [(.long p2), (.long rs.2)]))
                            refine hst (fun _ kt => XS.lcmp X_24.here hx rfl (hb hby at_435) rfl kt) ?_
                            show G (T_24.setTop (mkF m 436 #[.val (.int sh), .val (.int a0v), .val (.int b0v), .val (.long p0), .second, .val (.long p1), .second, .val (.long p2), .second, .val (.int sz), .val (.int b0), .val (.int b1), .val (.int b2), .val (.int m0), .val (.int m1), .val (.int m2), .val (.ref a), .val (.int d0), .val (.int d1), .val (.int d2), .val (.int f0), .val (.int f1), .val (.int f2)] [(.int (lcmpW rs.2 p2))]))
                            have hc436 : rs.2 = p2 := (hfin.2.2.1 hc352 hc383 hc415).2
                            refine hst (fun _ kt => XS.ifNo X_24.here hx rfl (hb hby at_436) rfl ((if0 _ _).trans (teq ((lw_eq _ _).mpr hc436)).2) kt) ?_
                            show G (T_24.setTop (mkF m 439 #[.val (.int sh), .val (.int a0v), .val (.int b0v), .val (.long p0), .second, .val (.long p1), .second, .val (.long p2), .second, .val (.int sz), .val (.int b0), .val (.int b1), .val (.int b2), .val (.int m0), .val (.int m1), .val (.int m2), .val (.ref a), .val (.int d0), .val (.int d1), .val (.int d2), .val (.int f0), .val (.int f1), .val (.int f2)] []))
                            refine hst (fun _ kt => XS.iconst X_24.here hx rfl (hb hby at_439) kt) ?_
                            show G (T_24.setTop (mkF m 440 #[.val (.int sh), .val (.int a0v), .val (.int b0v), .val (.long p0), .second, .val (.long p1), .second, .val (.long p2), .second, .val (.int sz), .val (.int b0), .val (.int b1), .val (.int b2), .val (.int m0), .val (.int m1), .val (.int m2), .val (.ref a), .val (.int d0), .val (.int d1), .val (.int d2), .val (.int f0), .val (.int f1), .val (.int f2)] [(.int (1 : Int32))]))
                            refine hst (fun _ kt => XS.goto X_24.here hx rfl (pc0 := 440) (pc' := 444) rfl (hb hby at_440) (by decide) (by decide) kt) ?_
                            show G (T_24.setTop (mkF m 444 #[.val (.int sh), .val (.int a0v), .val (.int b0v), .val (.long p0), .second, .val (.long p1), .second, .val (.long p2), .second, .val (.int sz), .val (.int b0), .val (.int b1), .val (.int b2), .val (.int m0), .val (.int m1), .val (.int m2), .val (.ref a), .val (.int d0), .val (.int d1), .val (.int d2), .val (.int f0), .val (.int f1), .val (.int f2)] [(.int (1 : Int32))]))
                            exact hend (own_goRet X_24 hx Bd.returns rfl (Or.inl ⟨rfl, by simp, _, rfl⟩) (hb hby at_444) Bd.notSynchronized (by rw [e_24]; exact ⟨rfl, Nj_21⟩) (by decide) (by decide))
                        ·
                          refine hst (fun _ kt => XS.ifNo Xj_21.here hx rfl (hb hby at_383) rfl ((if0 _ _).trans (feq hc383).1) kt) ?_
                          show G (Tj_21.setTop (mkF m 386 #[.val (.int sh), .val (.int a0v), .val (.int b0v), .val (.long p0), .second, .val (.long p1), .second, .val (.long p2), .second, .val (.int sz), .val (.int b0), .val (.int b1), .val (.int b2), .val (.int m0), .val (.int m1), .val (.int m2), .val (.ref a), .val (.int d0), .val (.int d1), .val (.int d2), .val (.int f0), .val (.int f1), .val (.int f2)] []))
                          refine hst (fun _ kt => XS.aload Xj_21.here hx rfl (hb hby at_386) rfl rfl kt) ?_
                          show G (Tj_21.setTop (mkF m 388 #[.val (.int sh), .val (.int a0v), .val (.int b0v), .val (.long p0), .second, .val (.long p1), .second, .val (.long p2), .second, .val (.int sz), .val (.int b0), .val (.int b1), .val (.int b2), .val (.int m0), .val (.int m1), .val (.int m2), .val (.ref a), .val (.int d0), .val (.int d1), .val (.int d2), .val (.int f0), .val (.int f1), .val (.int f2)] [(.ref a)]))
                          obtain ⟨T_25, X_25, e_25, st_25⟩ := getF Xj_21 hx hZ hown (host := "") (Or.inl (own_w52 hw)) Via.refl ej_21 F_oldest_a (g := (mkF m 388 #[.val (.int sh), .val (.int a0v), .val (.int b0v), .val (.long p0), .second, .val (.long p1), .second, .val (.long p2), .second, .val (.int sz), .val (.int b0), .val (.int b1), .val (.int b2), .val (.int m0), .val (.int m1), .val (.int m2), .val (.ref a), .val (.int d0), .val (.int d1), .val (.int d2), .val (.int f0), .val (.int f1), .val (.int f2)] [(.ref a)])) rfl rfl (hb hby at_388)
                          refine hst st_25 ?_
                          show G (T_25.setTop (mkF m 391 #[.val (.int sh), .val (.int a0v), .val (.int b0v), .val (.long p0), .second, .val (.long p1), .second, .val (.long p2), .second, .val (.int sz), .val (.int b0), .val (.int b1), .val (.int b2), .val (.int m0), .val (.int m1), .val (.int m2), .val (.ref a), .val (.int d0), .val (.int d1), .val (.int d2), .val (.int f0), .val (.int f1), .val (.int f2)] [(.int rs.1)]))
                          refine hst (fun _ kt => XS.iload X_25.here hx rfl (hb hby at_391) rfl kt) ?_
                          show G (T_25.setTop (mkF m 393 #[.val (.int sh), .val (.int a0v), .val (.int b0v), .val (.long p0), .second, .val (.long p1), .second, .val (.long p2), .second, .val (.int sz), .val (.int b0), .val (.int b1), .val (.int b2), .val (.int m0), .val (.int m1), .val (.int m2), .val (.ref a), .val (.int d0), .val (.int d1), .val (.int d2), .val (.int f0), .val (.int f1), .val (.int f2)] [(.int m1), (.int rs.1)]))
                          have hc393 : rs.1 = m1 := (hfin.2.1 hc352 hc383).1
                          refine hst (fun _ kt => XS.icmpNo X_25.here hx rfl (hb hby at_393) rfl (teq hc393).2 kt) ?_
                          show G (T_25.setTop (mkF m 396 #[.val (.int sh), .val (.int a0v), .val (.int b0v), .val (.long p0), .second, .val (.long p1), .second, .val (.long p2), .second, .val (.int sz), .val (.int b0), .val (.int b1), .val (.int b2), .val (.int m0), .val (.int m1), .val (.int m2), .val (.ref a), .val (.int d0), .val (.int d1), .val (.int d2), .val (.int f0), .val (.int f1), .val (.int f2)] []))
                          refine hst (fun _ kt => XS.aload X_25.here hx rfl (hb hby at_396) rfl rfl kt) ?_
                          show G (T_25.setTop (mkF m 398 #[.val (.int sh), .val (.int a0v), .val (.int b0v), .val (.long p0), .second, .val (.long p1), .second, .val (.long p2), .second, .val (.int sz), .val (.int b0), .val (.int b1), .val (.int b2), .val (.int m0), .val (.int m1), .val (.int m2), .val (.ref a), .val (.int d0), .val (.int d1), .val (.int d2), .val (.int f0), .val (.int f1), .val (.int f2)] [(.ref a)]))
                          obtain ⟨T_26, X_26, e_26, st_26⟩ := getF X_25 hx hZ hown (host := "") (Or.inl (own_w54 hw)) Via.refl e_25 F_oldestPlace_a (g := (mkF m 398 #[.val (.int sh), .val (.int a0v), .val (.int b0v), .val (.long p0), .second, .val (.long p1), .second, .val (.long p2), .second, .val (.int sz), .val (.int b0), .val (.int b1), .val (.int b2), .val (.int m0), .val (.int m1), .val (.int m2), .val (.ref a), .val (.int d0), .val (.int d1), .val (.int d2), .val (.int f0), .val (.int f1), .val (.int f2)] [(.ref a)])) rfl rfl (hb hby at_398)
                          refine hst st_26 ?_
                          show G (T_26.setTop (mkF m 401 #[.val (.int sh), .val (.int a0v), .val (.int b0v), .val (.long p0), .second, .val (.long p1), .second, .val (.long p2), .second, .val (.int sz), .val (.int b0), .val (.int b1), .val (.int b2), .val (.int m0), .val (.int m1), .val (.int m2), .val (.ref a), .val (.int d0), .val (.int d1), .val (.int d2), .val (.int f0), .val (.int f1), .val (.int f2)] [(.long rs.2)]))
                          refine hst (fun _ kt => XS.lload X_26.here hx rfl (hb hby at_401) rfl kt) ?_
                          show G (T_26.setTop (mkF m 403 #[.val (.int sh), .val (.int a0v), .val (.int b0v), .val (.long p0), .second, .val (.long p1), .second, .val (.long p2), .second, .val (.int sz), .val (.int b0), .val (.int b1), .val (.int b2), .val (.int m0), .val (.int m1), .val (.int m2), .val (.ref a), .val (.int d0), .val (.int d1), .val (.int d2), .val (.int f0), .val (.int f1), .val (.int f2)] [(.long p1), (.long rs.2)]))
                          refine hst (fun _ kt => XS.lcmp X_26.here hx rfl (hb hby at_403) rfl kt) ?_
                          show G (T_26.setTop (mkF m 404 #[.val (.int sh), .val (.int a0v), .val (.int b0v), .val (.long p0), .second, .val (.long p1), .second, .val (.long p2), .second, .val (.int sz), .val (.int b0), .val (.int b1), .val (.int b2), .val (.int m0), .val (.int m1), .val (.int m2), .val (.ref a), .val (.int d0), .val (.int d1), .val (.int d2), .val (.int f0), .val (.int f1), .val (.int f2)] [(.int (lcmpW rs.2 p1))]))
                          have hc404 : rs.2 = p1 := (hfin.2.1 hc352 hc383).2
                          refine hst (fun _ kt => XS.ifNo X_26.here hx rfl (hb hby at_404) rfl ((if0 _ _).trans (teq ((lw_eq _ _).mpr hc404)).2) kt) ?_
                          show G (T_26.setTop (mkF m 407 #[.val (.int sh), .val (.int a0v), .val (.int b0v), .val (.long p0), .second, .val (.long p1), .second, .val (.long p2), .second, .val (.int sz), .val (.int b0), .val (.int b1), .val (.int b2), .val (.int m0), .val (.int m1), .val (.int m2), .val (.ref a), .val (.int d0), .val (.int d1), .val (.int d2), .val (.int f0), .val (.int f1), .val (.int f2)] []))
                          refine hst (fun _ kt => XS.iconst X_26.here hx rfl (hb hby at_407) kt) ?_
                          show G (T_26.setTop (mkF m 408 #[.val (.int sh), .val (.int a0v), .val (.int b0v), .val (.long p0), .second, .val (.long p1), .second, .val (.long p2), .second, .val (.int sz), .val (.int b0), .val (.int b1), .val (.int b2), .val (.int m0), .val (.int m1), .val (.int m2), .val (.ref a), .val (.int d0), .val (.int d1), .val (.int d2), .val (.int f0), .val (.int f1), .val (.int f2)] [(.int (1 : Int32))]))
                          refine hst (fun _ kt => XS.goto X_26.here hx rfl (pc0 := 408) (pc' := 412) rfl (hb hby at_408) (by decide) (by decide) kt) ?_
                          show G (T_26.setTop (mkF m 412 #[.val (.int sh), .val (.int a0v), .val (.int b0v), .val (.long p0), .second, .val (.long p1), .second, .val (.long p2), .second, .val (.int sz), .val (.int b0), .val (.int b1), .val (.int b2), .val (.int m0), .val (.int m1), .val (.int m2), .val (.ref a), .val (.int d0), .val (.int d1), .val (.int d2), .val (.int f0), .val (.int f1), .val (.int f2)] [(.int (1 : Int32))]))
                          exact hend (own_goRet X_26 hx Bd.returns rfl (Or.inl ⟨rfl, by simp, _, rfl⟩) (hb hby at_412) Bd.notSynchronized (by rw [e_26]; exact ⟨rfl, Nj_21⟩) (by decide) (by decide))
                      ·
                        refine hst (fun _ kt => XS.ifNo Xj_21.here hx rfl (hb hby at_352) rfl ((if0 _ _).trans (feq hc352).1) kt) ?_
                        show G (Tj_21.setTop (mkF m 355 #[.val (.int sh), .val (.int a0v), .val (.int b0v), .val (.long p0), .second, .val (.long p1), .second, .val (.long p2), .second, .val (.int sz), .val (.int b0), .val (.int b1), .val (.int b2), .val (.int m0), .val (.int m1), .val (.int m2), .val (.ref a), .val (.int d0), .val (.int d1), .val (.int d2), .val (.int f0), .val (.int f1), .val (.int f2)] []))
                        refine hst (fun _ kt => XS.aload Xj_21.here hx rfl (hb hby at_355) rfl rfl kt) ?_
                        show G (Tj_21.setTop (mkF m 357 #[.val (.int sh), .val (.int a0v), .val (.int b0v), .val (.long p0), .second, .val (.long p1), .second, .val (.long p2), .second, .val (.int sz), .val (.int b0), .val (.int b1), .val (.int b2), .val (.int m0), .val (.int m1), .val (.int m2), .val (.ref a), .val (.int d0), .val (.int d1), .val (.int d2), .val (.int f0), .val (.int f1), .val (.int f2)] [(.ref a)]))
                        obtain ⟨T_27, X_27, e_27, st_27⟩ := getF Xj_21 hx hZ hown (host := "") (Or.inl (own_w52 hw)) Via.refl ej_21 F_oldest_a (g := (mkF m 357 #[.val (.int sh), .val (.int a0v), .val (.int b0v), .val (.long p0), .second, .val (.long p1), .second, .val (.long p2), .second, .val (.int sz), .val (.int b0), .val (.int b1), .val (.int b2), .val (.int m0), .val (.int m1), .val (.int m2), .val (.ref a), .val (.int d0), .val (.int d1), .val (.int d2), .val (.int f0), .val (.int f1), .val (.int f2)] [(.ref a)])) rfl rfl (hb hby at_357)
                        refine hst st_27 ?_
                        show G (T_27.setTop (mkF m 360 #[.val (.int sh), .val (.int a0v), .val (.int b0v), .val (.long p0), .second, .val (.long p1), .second, .val (.long p2), .second, .val (.int sz), .val (.int b0), .val (.int b1), .val (.int b2), .val (.int m0), .val (.int m1), .val (.int m2), .val (.ref a), .val (.int d0), .val (.int d1), .val (.int d2), .val (.int f0), .val (.int f1), .val (.int f2)] [(.int rs.1)]))
                        refine hst (fun _ kt => XS.iload X_27.here hx rfl (hb hby at_360) rfl kt) ?_
                        show G (T_27.setTop (mkF m 362 #[.val (.int sh), .val (.int a0v), .val (.int b0v), .val (.long p0), .second, .val (.long p1), .second, .val (.long p2), .second, .val (.int sz), .val (.int b0), .val (.int b1), .val (.int b2), .val (.int m0), .val (.int m1), .val (.int m2), .val (.ref a), .val (.int d0), .val (.int d1), .val (.int d2), .val (.int f0), .val (.int f1), .val (.int f2)] [(.int m0), (.int rs.1)]))
                        have hc362 : rs.1 = m0 := (hfin.1 hc352).1
                        refine hst (fun _ kt => XS.icmpNo X_27.here hx rfl (hb hby at_362) rfl (teq hc362).2 kt) ?_
                        show G (T_27.setTop (mkF m 365 #[.val (.int sh), .val (.int a0v), .val (.int b0v), .val (.long p0), .second, .val (.long p1), .second, .val (.long p2), .second, .val (.int sz), .val (.int b0), .val (.int b1), .val (.int b2), .val (.int m0), .val (.int m1), .val (.int m2), .val (.ref a), .val (.int d0), .val (.int d1), .val (.int d2), .val (.int f0), .val (.int f1), .val (.int f2)] []))
                        refine hst (fun _ kt => XS.aload X_27.here hx rfl (hb hby at_365) rfl rfl kt) ?_
                        show G (T_27.setTop (mkF m 367 #[.val (.int sh), .val (.int a0v), .val (.int b0v), .val (.long p0), .second, .val (.long p1), .second, .val (.long p2), .second, .val (.int sz), .val (.int b0), .val (.int b1), .val (.int b2), .val (.int m0), .val (.int m1), .val (.int m2), .val (.ref a), .val (.int d0), .val (.int d1), .val (.int d2), .val (.int f0), .val (.int f1), .val (.int f2)] [(.ref a)]))
                        obtain ⟨T_28, X_28, e_28, st_28⟩ := getF X_27 hx hZ hown (host := "") (Or.inl (own_w54 hw)) Via.refl e_27 F_oldestPlace_a (g := (mkF m 367 #[.val (.int sh), .val (.int a0v), .val (.int b0v), .val (.long p0), .second, .val (.long p1), .second, .val (.long p2), .second, .val (.int sz), .val (.int b0), .val (.int b1), .val (.int b2), .val (.int m0), .val (.int m1), .val (.int m2), .val (.ref a), .val (.int d0), .val (.int d1), .val (.int d2), .val (.int f0), .val (.int f1), .val (.int f2)] [(.ref a)])) rfl rfl (hb hby at_367)
                        refine hst st_28 ?_
                        show G (T_28.setTop (mkF m 370 #[.val (.int sh), .val (.int a0v), .val (.int b0v), .val (.long p0), .second, .val (.long p1), .second, .val (.long p2), .second, .val (.int sz), .val (.int b0), .val (.int b1), .val (.int b2), .val (.int m0), .val (.int m1), .val (.int m2), .val (.ref a), .val (.int d0), .val (.int d1), .val (.int d2), .val (.int f0), .val (.int f1), .val (.int f2)] [(.long rs.2)]))
                        refine hst (fun _ kt => XS.lloadN X_28.here hx rfl (hb hby at_370) rfl kt) ?_
                        show G (T_28.setTop (mkF m 371 #[.val (.int sh), .val (.int a0v), .val (.int b0v), .val (.long p0), .second, .val (.long p1), .second, .val (.long p2), .second, .val (.int sz), .val (.int b0), .val (.int b1), .val (.int b2), .val (.int m0), .val (.int m1), .val (.int m2), .val (.ref a), .val (.int d0), .val (.int d1), .val (.int d2), .val (.int f0), .val (.int f1), .val (.int f2)] [(.long p0), (.long rs.2)]))
                        refine hst (fun _ kt => XS.lcmp X_28.here hx rfl (hb hby at_371) rfl kt) ?_
                        show G (T_28.setTop (mkF m 372 #[.val (.int sh), .val (.int a0v), .val (.int b0v), .val (.long p0), .second, .val (.long p1), .second, .val (.long p2), .second, .val (.int sz), .val (.int b0), .val (.int b1), .val (.int b2), .val (.int m0), .val (.int m1), .val (.int m2), .val (.ref a), .val (.int d0), .val (.int d1), .val (.int d2), .val (.int f0), .val (.int f1), .val (.int f2)] [(.int (lcmpW rs.2 p0))]))
                        have hc372 : rs.2 = p0 := (hfin.1 hc352).2
                        refine hst (fun _ kt => XS.ifNo X_28.here hx rfl (hb hby at_372) rfl ((if0 _ _).trans (teq ((lw_eq _ _).mpr hc372)).2) kt) ?_
                        show G (T_28.setTop (mkF m 375 #[.val (.int sh), .val (.int a0v), .val (.int b0v), .val (.long p0), .second, .val (.long p1), .second, .val (.long p2), .second, .val (.int sz), .val (.int b0), .val (.int b1), .val (.int b2), .val (.int m0), .val (.int m1), .val (.int m2), .val (.ref a), .val (.int d0), .val (.int d1), .val (.int d2), .val (.int f0), .val (.int f1), .val (.int f2)] []))
                        refine hst (fun _ kt => XS.iconst X_28.here hx rfl (hb hby at_375) kt) ?_
                        show G (T_28.setTop (mkF m 376 #[.val (.int sh), .val (.int a0v), .val (.int b0v), .val (.long p0), .second, .val (.long p1), .second, .val (.long p2), .second, .val (.int sz), .val (.int b0), .val (.int b1), .val (.int b2), .val (.int m0), .val (.int m1), .val (.int m2), .val (.ref a), .val (.int d0), .val (.int d1), .val (.int d2), .val (.int f0), .val (.int f1), .val (.int f2)] [(.int (1 : Int32))]))
                        refine hst (fun _ kt => XS.goto X_28.here hx rfl (pc0 := 376) (pc' := 380) rfl (hb hby at_376) (by decide) (by decide) kt) ?_
                        show G (T_28.setTop (mkF m 380 #[.val (.int sh), .val (.int a0v), .val (.int b0v), .val (.long p0), .second, .val (.long p1), .second, .val (.long p2), .second, .val (.int sz), .val (.int b0), .val (.int b1), .val (.int b2), .val (.int m0), .val (.int m1), .val (.int m2), .val (.ref a), .val (.int d0), .val (.int d1), .val (.int d2), .val (.int f0), .val (.int f1), .val (.int f2)] [(.int (1 : Int32))]))
                        exact hend (own_goRet X_28 hx Bd.returns rfl (Or.inl ⟨rfl, by simp, _, rfl⟩) (hb hby at_380) Bd.notSynchronized (by rw [e_28]; exact ⟨rfl, Nj_21⟩) (by decide) (by decide))
                    by_cases hm2 : d2 = (0 : Int32)
                    ·
                      refine hst (fun _ kt => XS.ifYes Xj_20.here hx rfl (pc0 := 313) (pc' := 347) rfl (hb hby at_313) rfl ((if0 _ _).trans (teq hm2).1) (by decide) (by decide) kt) ?_
                      show G (Tj_20.setTop (mkF m 347 #[.val (.int sh), .val (.int a0v), .val (.int b0v), .val (.long p0), .second, .val (.long p1), .second, .val (.long p2), .second, .val (.int sz), .val (.int b0), .val (.int b1), .val (.int b2), .val (.int m0), .val (.int m1), .val (.int m2), .val (.ref a), .val (.int d0), .val (.int d1), .val (.int d2), .val (.int f0), .val (.int f1), .unset] []))
                      refine hst (fun _ kt => XS.iconst Xj_20.here hx rfl (hb hby at_347) kt) ?_
                      show G (Tj_20.setTop (mkF m 348 #[.val (.int sh), .val (.int a0v), .val (.int b0v), .val (.long p0), .second, .val (.long p1), .second, .val (.long p2), .second, .val (.int sz), .val (.int b0), .val (.int b1), .val (.int b2), .val (.int m0), .val (.int m1), .val (.int m2), .val (.ref a), .val (.int d0), .val (.int d1), .val (.int d2), .val (.int f0), .val (.int f1), .unset] [(.int (0 : Int32))]))
                      exact J348 _ Tj_20 _ Xj_20 ej_20 Nj_20 (by simp only [own_mn, if_pos hm2])
                    ·
                      refine hst (fun _ kt => XS.ifNo Xj_20.here hx rfl (hb hby at_313) rfl ((if0 _ _).trans (feq hm2).1) kt) ?_
                      show G (Tj_20.setTop (mkF m 316 #[.val (.int sh), .val (.int a0v), .val (.int b0v), .val (.long p0), .second, .val (.long p1), .second, .val (.long p2), .second, .val (.int sz), .val (.int b0), .val (.int b1), .val (.int b2), .val (.int m0), .val (.int m1), .val (.int m2), .val (.ref a), .val (.int d0), .val (.int d1), .val (.int d2), .val (.int f0), .val (.int f1), .unset] []))
                      refine hst (fun _ kt => XS.lload Xj_20.here hx rfl (hb hby at_316) rfl kt) ?_
                      show G (Tj_20.setTop (mkF m 318 #[.val (.int sh), .val (.int a0v), .val (.int b0v), .val (.long p0), .second, .val (.long p1), .second, .val (.long p2), .second, .val (.int sz), .val (.int b0), .val (.int b1), .val (.int b2), .val (.int m0), .val (.int m1), .val (.int m2), .val (.ref a), .val (.int d0), .val (.int d1), .val (.int d2), .val (.int f0), .val (.int f1), .unset] [(.long p2)]))
                      refine hst (fun _ kt => XS.iconst Xj_20.here hx rfl (hb hby at_318) kt) ?_
                      show G (Tj_20.setTop (mkF m 319 #[.val (.int sh), .val (.int a0v), .val (.int b0v), .val (.long p0), .second, .val (.long p1), .second, .val (.long p2), .second, .val (.int sz), .val (.int b0), .val (.int b1), .val (.int b2), .val (.int m0), .val (.int m1), .val (.int m2), .val (.ref a), .val (.int d0), .val (.int d1), .val (.int d2), .val (.int f0), .val (.int f1), .unset] [(.int (2 : Int32)), (.long p2)]))
                      refine hst (fun _ kt => XS.iload Xj_20.here hx rfl (hb hby at_319) rfl kt) ?_
                      show G (Tj_20.setTop (mkF m 321 #[.val (.int sh), .val (.int a0v), .val (.int b0v), .val (.long p0), .second, .val (.long p1), .second, .val (.long p2), .second, .val (.int sz), .val (.int b0), .val (.int b1), .val (.int b2), .val (.int m0), .val (.int m1), .val (.int m2), .val (.ref a), .val (.int d0), .val (.int d1), .val (.int d2), .val (.int f0), .val (.int f1), .unset] [(.int d0), (.int (2 : Int32)), (.long p2)]))
                      refine hst (fun _ kt => XS.lloadN Xj_20.here hx rfl (hb hby at_321) rfl kt) ?_
                      show G (Tj_20.setTop (mkF m 322 #[.val (.int sh), .val (.int a0v), .val (.int b0v), .val (.long p0), .second, .val (.long p1), .second, .val (.long p2), .second, .val (.int sz), .val (.int b0), .val (.int b1), .val (.int b2), .val (.int m0), .val (.int m1), .val (.int m2), .val (.ref a), .val (.int d0), .val (.int d1), .val (.int d2), .val (.int f0), .val (.int f1), .unset] [(.long p0), (.int d0), (.int (2 : Int32)), (.long p2)]))
                      refine hst (fun _ kt => XS.iconst Xj_20.here hx rfl (hb hby at_322) kt) ?_
                      show G (Tj_20.setTop (mkF m 323 #[.val (.int sh), .val (.int a0v), .val (.int b0v), .val (.long p0), .second, .val (.long p1), .second, .val (.long p2), .second, .val (.int sz), .val (.int b0), .val (.int b1), .val (.int b2), .val (.int m0), .val (.int m1), .val (.int m2), .val (.ref a), .val (.int d0), .val (.int d1), .val (.int d2), .val (.int f0), .val (.int f1), .unset] [(.int (0 : Int32)), (.long p0), (.int d0), (.int (2 : Int32)), (.long p2)]))
                      obtain ⟨_, _, ⟨T_29, L_29, k_29, n_29⟩, -, X_29, ⟨Lc_29, hQ_29, l_29, y_29, z_29⟩, st_29⟩ := Jvm.LawKit.callS Xj_20 hx (y := (⟨x.cls, "beats", "(JIZJI)Z"⟩ : MethodName)) hown (mvT hZ (own_w65 hw)) (mvT hZ (own_w66 hw)) (mvT hZ (own_w67 hw)) (mvT hZ (own_w68 hw)) (by decide) (backOf (W := 0) (rm3 l Z a0 hw [] p2 (2 : Int32) d0 p0 (0 : Int32)  T_18.heap n0 Z0) hZ (own_w68 hw) (own_w67 hw) (by decide) (by decide)) (g := (mkF m 323 #[.val (.int sh), .val (.int a0v), .val (.int b0v), .val (.long p0), .second, .val (.long p1), .second, .val (.long p2), .second, .val (.int sz), .val (.int b0), .val (.int b1), .val (.int b2), .val (.int m0), .val (.int m1), .val (.int m2), .val (.ref a), .val (.int d0), .val (.int d1), .val (.int d2), .val (.int f0), .val (.int f1), .unset] [(.int (0 : Int32)), (.long p0), (.int d0), (.int (2 : Int32)), (.long p2)])) rfl (by rw [hml]; rfl) (argsL := [(.long p2), (.int (2 : Int32)), (.int d0), (.long p0), (.int (0 : Int32))]) (rest := []) (lenOf pd_2 rfl) rfl (by show 2 * 0 + _ ≤ _; exact Nat.le_of_eq rfl) (hb hby at_323) (fun _ _ => ⟨rfl, ej_20, (by decide : 11 + 0 ≤ _), (by decide : 2083 + 0 ≤ _)⟩)
                      dsimp only [Pt.U, Pt.locs, Pt.cells, Pt.slots] at X_29 l_29 y_29 z_29 st_29 hQ_29
                      subst l_29 y_29 z_29
                      obtain ⟨rfl, N_29q, eh_29⟩ := hQ_29
                      have N_29 := Fr.app Nj_20 N_29q
                      refine hst (fun _ kt => st_29 _ kt) ?_
                      show G (T_29.setTop (mkF m 326 #[.val (.int sh), .val (.int a0v), .val (.int b0v), .val (.long p0), .second, .val (.long p1), .second, .val (.long p2), .second, .val (.int sz), .val (.int b0), .val (.int b1), .val (.int b2), .val (.int m0), .val (.int m1), .val (.int m2), .val (.ref a), .val (.int d0), .val (.int d1), .val (.int d2), .val (.int f0), .val (.int f1), .unset] [(.int (own_bt p2 2 d0 p0 0))]))
                      by_cases hm2a : (own_bt p2 2 d0 p0 0) = (0 : Int32)
                      ·
                        refine hst (fun _ kt => XS.ifYes X_29.here hx rfl (pc0 := 326) (pc' := 347) rfl (hb hby at_326) rfl ((if0 _ _).trans (teq hm2a).1) (by decide) (by decide) kt) ?_
                        show G (T_29.setTop (mkF m 347 #[.val (.int sh), .val (.int a0v), .val (.int b0v), .val (.long p0), .second, .val (.long p1), .second, .val (.long p2), .second, .val (.int sz), .val (.int b0), .val (.int b1), .val (.int b2), .val (.int m0), .val (.int m1), .val (.int m2), .val (.ref a), .val (.int d0), .val (.int d1), .val (.int d2), .val (.int f0), .val (.int f1), .unset] []))
                        refine hst (fun _ kt => XS.iconst X_29.here hx rfl (hb hby at_347) kt) ?_
                        show G (T_29.setTop (mkF m 348 #[.val (.int sh), .val (.int a0v), .val (.int b0v), .val (.long p0), .second, .val (.long p1), .second, .val (.long p2), .second, .val (.int sz), .val (.int b0), .val (.int b1), .val (.int b2), .val (.int m0), .val (.int m1), .val (.int m2), .val (.ref a), .val (.int d0), .val (.int d1), .val (.int d2), .val (.int f0), .val (.int f1), .unset] [(.int (0 : Int32))]))
                        exact J348 _ T_29 _ X_29 eh_29 N_29 (by simp only [own_mn, if_neg hm2, if_pos hm2a])
                      ·
                        refine hst (fun _ kt => XS.ifNo X_29.here hx rfl (hb hby at_326) rfl ((if0 _ _).trans (feq hm2a).1) kt) ?_
                        show G (T_29.setTop (mkF m 329 #[.val (.int sh), .val (.int a0v), .val (.int b0v), .val (.long p0), .second, .val (.long p1), .second, .val (.long p2), .second, .val (.int sz), .val (.int b0), .val (.int b1), .val (.int b2), .val (.int m0), .val (.int m1), .val (.int m2), .val (.ref a), .val (.int d0), .val (.int d1), .val (.int d2), .val (.int f0), .val (.int f1), .unset] []))
                        refine hst (fun _ kt => XS.lload X_29.here hx rfl (hb hby at_329) rfl kt) ?_
                        show G (T_29.setTop (mkF m 331 #[.val (.int sh), .val (.int a0v), .val (.int b0v), .val (.long p0), .second, .val (.long p1), .second, .val (.long p2), .second, .val (.int sz), .val (.int b0), .val (.int b1), .val (.int b2), .val (.int m0), .val (.int m1), .val (.int m2), .val (.ref a), .val (.int d0), .val (.int d1), .val (.int d2), .val (.int f0), .val (.int f1), .unset] [(.long p2)]))
                        refine hst (fun _ kt => XS.iconst X_29.here hx rfl (hb hby at_331) kt) ?_
                        show G (T_29.setTop (mkF m 332 #[.val (.int sh), .val (.int a0v), .val (.int b0v), .val (.long p0), .second, .val (.long p1), .second, .val (.long p2), .second, .val (.int sz), .val (.int b0), .val (.int b1), .val (.int b2), .val (.int m0), .val (.int m1), .val (.int m2), .val (.ref a), .val (.int d0), .val (.int d1), .val (.int d2), .val (.int f0), .val (.int f1), .unset] [(.int (2 : Int32)), (.long p2)]))
                        refine hst (fun _ kt => XS.iload X_29.here hx rfl (hb hby at_332) rfl kt) ?_
                        show G (T_29.setTop (mkF m 334 #[.val (.int sh), .val (.int a0v), .val (.int b0v), .val (.long p0), .second, .val (.long p1), .second, .val (.long p2), .second, .val (.int sz), .val (.int b0), .val (.int b1), .val (.int b2), .val (.int m0), .val (.int m1), .val (.int m2), .val (.ref a), .val (.int d0), .val (.int d1), .val (.int d2), .val (.int f0), .val (.int f1), .unset] [(.int d1), (.int (2 : Int32)), (.long p2)]))
                        refine hst (fun _ kt => XS.lload X_29.here hx rfl (hb hby at_334) rfl kt) ?_
                        show G (T_29.setTop (mkF m 336 #[.val (.int sh), .val (.int a0v), .val (.int b0v), .val (.long p0), .second, .val (.long p1), .second, .val (.long p2), .second, .val (.int sz), .val (.int b0), .val (.int b1), .val (.int b2), .val (.int m0), .val (.int m1), .val (.int m2), .val (.ref a), .val (.int d0), .val (.int d1), .val (.int d2), .val (.int f0), .val (.int f1), .unset] [(.long p1), (.int d1), (.int (2 : Int32)), (.long p2)]))
                        refine hst (fun _ kt => XS.iconst X_29.here hx rfl (hb hby at_336) kt) ?_
                        show G (T_29.setTop (mkF m 337 #[.val (.int sh), .val (.int a0v), .val (.int b0v), .val (.long p0), .second, .val (.long p1), .second, .val (.long p2), .second, .val (.int sz), .val (.int b0), .val (.int b1), .val (.int b2), .val (.int m0), .val (.int m1), .val (.int m2), .val (.ref a), .val (.int d0), .val (.int d1), .val (.int d2), .val (.int f0), .val (.int f1), .unset] [(.int (1 : Int32)), (.long p1), (.int d1), (.int (2 : Int32)), (.long p2)]))
                        obtain ⟨_, _, ⟨T_30, L_30, k_30, n_30⟩, -, X_30, ⟨Lc_30, hQ_30, l_30, y_30, z_30⟩, st_30⟩ := Jvm.LawKit.callS X_29 hx (y := (⟨x.cls, "beats", "(JIZJI)Z"⟩ : MethodName)) hown (mvT hZ (own_w65 hw)) (mvT hZ (own_w66 hw)) (mvT hZ (own_w67 hw)) (mvT hZ (own_w68 hw)) (by decide) (backOf (W := 0) (rm3 l Z a0 hw [] p2 (2 : Int32) d1 p1 (1 : Int32)  T_18.heap n0 Z0) hZ (own_w68 hw) (own_w67 hw) (by decide) (by decide)) (g := (mkF m 337 #[.val (.int sh), .val (.int a0v), .val (.int b0v), .val (.long p0), .second, .val (.long p1), .second, .val (.long p2), .second, .val (.int sz), .val (.int b0), .val (.int b1), .val (.int b2), .val (.int m0), .val (.int m1), .val (.int m2), .val (.ref a), .val (.int d0), .val (.int d1), .val (.int d2), .val (.int f0), .val (.int f1), .unset] [(.int (1 : Int32)), (.long p1), (.int d1), (.int (2 : Int32)), (.long p2)])) rfl (by rw [hml]; rfl) (argsL := [(.long p2), (.int (2 : Int32)), (.int d1), (.long p1), (.int (1 : Int32))]) (rest := []) (lenOf pd_2 rfl) rfl (by show 2 * 0 + _ ≤ _; exact Nat.le_of_eq rfl) (hb hby at_337) (fun _ _ => ⟨rfl, eh_29, (by decide : 11 + 0 ≤ _), (by decide : 2083 + 0 ≤ _)⟩)
                        dsimp only [Pt.U, Pt.locs, Pt.cells, Pt.slots] at X_30 l_30 y_30 z_30 st_30 hQ_30
                        subst l_30 y_30 z_30
                        obtain ⟨rfl, N_30q, eh_30⟩ := hQ_30
                        have N_30 := Fr.app N_29 N_30q
                        refine hst (fun _ kt => st_30 _ kt) ?_
                        show G (T_30.setTop (mkF m 340 #[.val (.int sh), .val (.int a0v), .val (.int b0v), .val (.long p0), .second, .val (.long p1), .second, .val (.long p2), .second, .val (.int sz), .val (.int b0), .val (.int b1), .val (.int b2), .val (.int m0), .val (.int m1), .val (.int m2), .val (.ref a), .val (.int d0), .val (.int d1), .val (.int d2), .val (.int f0), .val (.int f1), .unset] [(.int (own_bt p2 2 d1 p1 1))]))
                        by_cases hm2b : (own_bt p2 2 d1 p1 1) = (0 : Int32)
                        ·
                          refine hst (fun _ kt => XS.ifYes X_30.here hx rfl (pc0 := 340) (pc' := 347) rfl (hb hby at_340) rfl ((if0 _ _).trans (teq hm2b).1) (by decide) (by decide) kt) ?_
                          show G (T_30.setTop (mkF m 347 #[.val (.int sh), .val (.int a0v), .val (.int b0v), .val (.long p0), .second, .val (.long p1), .second, .val (.long p2), .second, .val (.int sz), .val (.int b0), .val (.int b1), .val (.int b2), .val (.int m0), .val (.int m1), .val (.int m2), .val (.ref a), .val (.int d0), .val (.int d1), .val (.int d2), .val (.int f0), .val (.int f1), .unset] []))
                          refine hst (fun _ kt => XS.iconst X_30.here hx rfl (hb hby at_347) kt) ?_
                          show G (T_30.setTop (mkF m 348 #[.val (.int sh), .val (.int a0v), .val (.int b0v), .val (.long p0), .second, .val (.long p1), .second, .val (.long p2), .second, .val (.int sz), .val (.int b0), .val (.int b1), .val (.int b2), .val (.int m0), .val (.int m1), .val (.int m2), .val (.ref a), .val (.int d0), .val (.int d1), .val (.int d2), .val (.int f0), .val (.int f1), .unset] [(.int (0 : Int32))]))
                          exact J348 _ T_30 _ X_30 eh_30 N_30 (by simp only [own_mn, if_neg hm2, if_neg hm2a, if_pos hm2b])
                        ·
                          refine hst (fun _ kt => XS.ifNo X_30.here hx rfl (hb hby at_340) rfl ((if0 _ _).trans (feq hm2b).1) kt) ?_
                          show G (T_30.setTop (mkF m 343 #[.val (.int sh), .val (.int a0v), .val (.int b0v), .val (.long p0), .second, .val (.long p1), .second, .val (.long p2), .second, .val (.int sz), .val (.int b0), .val (.int b1), .val (.int b2), .val (.int m0), .val (.int m1), .val (.int m2), .val (.ref a), .val (.int d0), .val (.int d1), .val (.int d2), .val (.int f0), .val (.int f1), .unset] []))
                          refine hst (fun _ kt => XS.iconst X_30.here hx rfl (hb hby at_343) kt) ?_
                          show G (T_30.setTop (mkF m 344 #[.val (.int sh), .val (.int a0v), .val (.int b0v), .val (.long p0), .second, .val (.long p1), .second, .val (.long p2), .second, .val (.int sz), .val (.int b0), .val (.int b1), .val (.int b2), .val (.int m0), .val (.int m1), .val (.int m2), .val (.ref a), .val (.int d0), .val (.int d1), .val (.int d2), .val (.int f0), .val (.int f1), .unset] [(.int (1 : Int32))]))
                          refine hst (fun _ kt => XS.goto X_30.here hx rfl (pc0 := 344) (pc' := 348) rfl (hb hby at_344) (by decide) (by decide) kt) ?_
                          show G (T_30.setTop (mkF m 348 #[.val (.int sh), .val (.int a0v), .val (.int b0v), .val (.long p0), .second, .val (.long p1), .second, .val (.long p2), .second, .val (.int sz), .val (.int b0), .val (.int b1), .val (.int b2), .val (.int m0), .val (.int m1), .val (.int m2), .val (.ref a), .val (.int d0), .val (.int d1), .val (.int d2), .val (.int f0), .val (.int f1), .unset] [(.int (1 : Int32))]))
                          exact J348 _ T_30 _ X_30 eh_30 N_30 (by simp only [own_mn, if_neg hm2, if_neg hm2a, if_neg hm2b])
                  by_cases hm1 : d1 = (0 : Int32)
                  ·
                    refine hst (fun _ kt => XS.ifYes Xj_19.here hx rfl (pc0 := 274) (pc' := 308) rfl (hb hby at_274) rfl ((if0 _ _).trans (teq hm1).1) (by decide) (by decide) kt) ?_
                    show G (Tj_19.setTop (mkF m 308 #[.val (.int sh), .val (.int a0v), .val (.int b0v), .val (.long p0), .second, .val (.long p1), .second, .val (.long p2), .second, .val (.int sz), .val (.int b0), .val (.int b1), .val (.int b2), .val (.int m0), .val (.int m1), .val (.int m2), .val (.ref a), .val (.int d0), .val (.int d1), .val (.int d2), .val (.int f0), .unset, .unset] []))
                    refine hst (fun _ kt => XS.iconst Xj_19.here hx rfl (hb hby at_308) kt) ?_
                    show G (Tj_19.setTop (mkF m 309 #[.val (.int sh), .val (.int a0v), .val (.int b0v), .val (.long p0), .second, .val (.long p1), .second, .val (.long p2), .second, .val (.int sz), .val (.int b0), .val (.int b1), .val (.int b2), .val (.int m0), .val (.int m1), .val (.int m2), .val (.ref a), .val (.int d0), .val (.int d1), .val (.int d2), .val (.int f0), .unset, .unset] [(.int (0 : Int32))]))
                    exact J309 _ Tj_19 _ Xj_19 ej_19 Nj_19 (by simp only [own_mn, if_pos hm1])
                  ·
                    refine hst (fun _ kt => XS.ifNo Xj_19.here hx rfl (hb hby at_274) rfl ((if0 _ _).trans (feq hm1).1) kt) ?_
                    show G (Tj_19.setTop (mkF m 277 #[.val (.int sh), .val (.int a0v), .val (.int b0v), .val (.long p0), .second, .val (.long p1), .second, .val (.long p2), .second, .val (.int sz), .val (.int b0), .val (.int b1), .val (.int b2), .val (.int m0), .val (.int m1), .val (.int m2), .val (.ref a), .val (.int d0), .val (.int d1), .val (.int d2), .val (.int f0), .unset, .unset] []))
                    refine hst (fun _ kt => XS.lload Xj_19.here hx rfl (hb hby at_277) rfl kt) ?_
                    show G (Tj_19.setTop (mkF m 279 #[.val (.int sh), .val (.int a0v), .val (.int b0v), .val (.long p0), .second, .val (.long p1), .second, .val (.long p2), .second, .val (.int sz), .val (.int b0), .val (.int b1), .val (.int b2), .val (.int m0), .val (.int m1), .val (.int m2), .val (.ref a), .val (.int d0), .val (.int d1), .val (.int d2), .val (.int f0), .unset, .unset] [(.long p1)]))
                    refine hst (fun _ kt => XS.iconst Xj_19.here hx rfl (hb hby at_279) kt) ?_
                    show G (Tj_19.setTop (mkF m 280 #[.val (.int sh), .val (.int a0v), .val (.int b0v), .val (.long p0), .second, .val (.long p1), .second, .val (.long p2), .second, .val (.int sz), .val (.int b0), .val (.int b1), .val (.int b2), .val (.int m0), .val (.int m1), .val (.int m2), .val (.ref a), .val (.int d0), .val (.int d1), .val (.int d2), .val (.int f0), .unset, .unset] [(.int (1 : Int32)), (.long p1)]))
                    refine hst (fun _ kt => XS.iload Xj_19.here hx rfl (hb hby at_280) rfl kt) ?_
                    show G (Tj_19.setTop (mkF m 282 #[.val (.int sh), .val (.int a0v), .val (.int b0v), .val (.long p0), .second, .val (.long p1), .second, .val (.long p2), .second, .val (.int sz), .val (.int b0), .val (.int b1), .val (.int b2), .val (.int m0), .val (.int m1), .val (.int m2), .val (.ref a), .val (.int d0), .val (.int d1), .val (.int d2), .val (.int f0), .unset, .unset] [(.int d0), (.int (1 : Int32)), (.long p1)]))
                    refine hst (fun _ kt => XS.lloadN Xj_19.here hx rfl (hb hby at_282) rfl kt) ?_
                    show G (Tj_19.setTop (mkF m 283 #[.val (.int sh), .val (.int a0v), .val (.int b0v), .val (.long p0), .second, .val (.long p1), .second, .val (.long p2), .second, .val (.int sz), .val (.int b0), .val (.int b1), .val (.int b2), .val (.int m0), .val (.int m1), .val (.int m2), .val (.ref a), .val (.int d0), .val (.int d1), .val (.int d2), .val (.int f0), .unset, .unset] [(.long p0), (.int d0), (.int (1 : Int32)), (.long p1)]))
                    refine hst (fun _ kt => XS.iconst Xj_19.here hx rfl (hb hby at_283) kt) ?_
                    show G (Tj_19.setTop (mkF m 284 #[.val (.int sh), .val (.int a0v), .val (.int b0v), .val (.long p0), .second, .val (.long p1), .second, .val (.long p2), .second, .val (.int sz), .val (.int b0), .val (.int b1), .val (.int b2), .val (.int m0), .val (.int m1), .val (.int m2), .val (.ref a), .val (.int d0), .val (.int d1), .val (.int d2), .val (.int f0), .unset, .unset] [(.int (0 : Int32)), (.long p0), (.int d0), (.int (1 : Int32)), (.long p1)]))
                    obtain ⟨_, _, ⟨T_31, L_31, k_31, n_31⟩, -, X_31, ⟨Lc_31, hQ_31, l_31, y_31, z_31⟩, st_31⟩ := Jvm.LawKit.callS Xj_19 hx (y := (⟨x.cls, "beats", "(JIZJI)Z"⟩ : MethodName)) hown (mvT hZ (own_w65 hw)) (mvT hZ (own_w66 hw)) (mvT hZ (own_w67 hw)) (mvT hZ (own_w68 hw)) (by decide) (backOf (W := 0) (rm3 l Z a0 hw [] p1 (1 : Int32) d0 p0 (0 : Int32)  T_18.heap n0 Z0) hZ (own_w68 hw) (own_w67 hw) (by decide) (by decide)) (g := (mkF m 284 #[.val (.int sh), .val (.int a0v), .val (.int b0v), .val (.long p0), .second, .val (.long p1), .second, .val (.long p2), .second, .val (.int sz), .val (.int b0), .val (.int b1), .val (.int b2), .val (.int m0), .val (.int m1), .val (.int m2), .val (.ref a), .val (.int d0), .val (.int d1), .val (.int d2), .val (.int f0), .unset, .unset] [(.int (0 : Int32)), (.long p0), (.int d0), (.int (1 : Int32)), (.long p1)])) rfl (by rw [hml]; rfl) (argsL := [(.long p1), (.int (1 : Int32)), (.int d0), (.long p0), (.int (0 : Int32))]) (rest := []) (lenOf pd_2 rfl) rfl (by show 2 * 0 + _ ≤ _; exact Nat.le_of_eq rfl) (hb hby at_284) (fun _ _ => ⟨rfl, ej_19, (by decide : 11 + 0 ≤ _), (by decide : 2083 + 0 ≤ _)⟩)
                    dsimp only [Pt.U, Pt.locs, Pt.cells, Pt.slots] at X_31 l_31 y_31 z_31 st_31 hQ_31
                    subst l_31 y_31 z_31
                    obtain ⟨rfl, N_31q, eh_31⟩ := hQ_31
                    have N_31 := Fr.app Nj_19 N_31q
                    refine hst (fun _ kt => st_31 _ kt) ?_
                    show G (T_31.setTop (mkF m 287 #[.val (.int sh), .val (.int a0v), .val (.int b0v), .val (.long p0), .second, .val (.long p1), .second, .val (.long p2), .second, .val (.int sz), .val (.int b0), .val (.int b1), .val (.int b2), .val (.int m0), .val (.int m1), .val (.int m2), .val (.ref a), .val (.int d0), .val (.int d1), .val (.int d2), .val (.int f0), .unset, .unset] [(.int (own_bt p1 1 d0 p0 0))]))
                    by_cases hm1a : (own_bt p1 1 d0 p0 0) = (0 : Int32)
                    ·
                      refine hst (fun _ kt => XS.ifYes X_31.here hx rfl (pc0 := 287) (pc' := 308) rfl (hb hby at_287) rfl ((if0 _ _).trans (teq hm1a).1) (by decide) (by decide) kt) ?_
                      show G (T_31.setTop (mkF m 308 #[.val (.int sh), .val (.int a0v), .val (.int b0v), .val (.long p0), .second, .val (.long p1), .second, .val (.long p2), .second, .val (.int sz), .val (.int b0), .val (.int b1), .val (.int b2), .val (.int m0), .val (.int m1), .val (.int m2), .val (.ref a), .val (.int d0), .val (.int d1), .val (.int d2), .val (.int f0), .unset, .unset] []))
                      refine hst (fun _ kt => XS.iconst X_31.here hx rfl (hb hby at_308) kt) ?_
                      show G (T_31.setTop (mkF m 309 #[.val (.int sh), .val (.int a0v), .val (.int b0v), .val (.long p0), .second, .val (.long p1), .second, .val (.long p2), .second, .val (.int sz), .val (.int b0), .val (.int b1), .val (.int b2), .val (.int m0), .val (.int m1), .val (.int m2), .val (.ref a), .val (.int d0), .val (.int d1), .val (.int d2), .val (.int f0), .unset, .unset] [(.int (0 : Int32))]))
                      exact J309 _ T_31 _ X_31 eh_31 N_31 (by simp only [own_mn, if_neg hm1, if_pos hm1a])
                    ·
                      refine hst (fun _ kt => XS.ifNo X_31.here hx rfl (hb hby at_287) rfl ((if0 _ _).trans (feq hm1a).1) kt) ?_
                      show G (T_31.setTop (mkF m 290 #[.val (.int sh), .val (.int a0v), .val (.int b0v), .val (.long p0), .second, .val (.long p1), .second, .val (.long p2), .second, .val (.int sz), .val (.int b0), .val (.int b1), .val (.int b2), .val (.int m0), .val (.int m1), .val (.int m2), .val (.ref a), .val (.int d0), .val (.int d1), .val (.int d2), .val (.int f0), .unset, .unset] []))
                      refine hst (fun _ kt => XS.lload X_31.here hx rfl (hb hby at_290) rfl kt) ?_
                      show G (T_31.setTop (mkF m 292 #[.val (.int sh), .val (.int a0v), .val (.int b0v), .val (.long p0), .second, .val (.long p1), .second, .val (.long p2), .second, .val (.int sz), .val (.int b0), .val (.int b1), .val (.int b2), .val (.int m0), .val (.int m1), .val (.int m2), .val (.ref a), .val (.int d0), .val (.int d1), .val (.int d2), .val (.int f0), .unset, .unset] [(.long p1)]))
                      refine hst (fun _ kt => XS.iconst X_31.here hx rfl (hb hby at_292) kt) ?_
                      show G (T_31.setTop (mkF m 293 #[.val (.int sh), .val (.int a0v), .val (.int b0v), .val (.long p0), .second, .val (.long p1), .second, .val (.long p2), .second, .val (.int sz), .val (.int b0), .val (.int b1), .val (.int b2), .val (.int m0), .val (.int m1), .val (.int m2), .val (.ref a), .val (.int d0), .val (.int d1), .val (.int d2), .val (.int f0), .unset, .unset] [(.int (1 : Int32)), (.long p1)]))
                      refine hst (fun _ kt => XS.iload X_31.here hx rfl (hb hby at_293) rfl kt) ?_
                      show G (T_31.setTop (mkF m 295 #[.val (.int sh), .val (.int a0v), .val (.int b0v), .val (.long p0), .second, .val (.long p1), .second, .val (.long p2), .second, .val (.int sz), .val (.int b0), .val (.int b1), .val (.int b2), .val (.int m0), .val (.int m1), .val (.int m2), .val (.ref a), .val (.int d0), .val (.int d1), .val (.int d2), .val (.int f0), .unset, .unset] [(.int d2), (.int (1 : Int32)), (.long p1)]))
                      refine hst (fun _ kt => XS.lload X_31.here hx rfl (hb hby at_295) rfl kt) ?_
                      show G (T_31.setTop (mkF m 297 #[.val (.int sh), .val (.int a0v), .val (.int b0v), .val (.long p0), .second, .val (.long p1), .second, .val (.long p2), .second, .val (.int sz), .val (.int b0), .val (.int b1), .val (.int b2), .val (.int m0), .val (.int m1), .val (.int m2), .val (.ref a), .val (.int d0), .val (.int d1), .val (.int d2), .val (.int f0), .unset, .unset] [(.long p2), (.int d2), (.int (1 : Int32)), (.long p1)]))
                      refine hst (fun _ kt => XS.iconst X_31.here hx rfl (hb hby at_297) kt) ?_
                      show G (T_31.setTop (mkF m 298 #[.val (.int sh), .val (.int a0v), .val (.int b0v), .val (.long p0), .second, .val (.long p1), .second, .val (.long p2), .second, .val (.int sz), .val (.int b0), .val (.int b1), .val (.int b2), .val (.int m0), .val (.int m1), .val (.int m2), .val (.ref a), .val (.int d0), .val (.int d1), .val (.int d2), .val (.int f0), .unset, .unset] [(.int (2 : Int32)), (.long p2), (.int d2), (.int (1 : Int32)), (.long p1)]))
                      obtain ⟨_, _, ⟨T_32, L_32, k_32, n_32⟩, -, X_32, ⟨Lc_32, hQ_32, l_32, y_32, z_32⟩, st_32⟩ := Jvm.LawKit.callS X_31 hx (y := (⟨x.cls, "beats", "(JIZJI)Z"⟩ : MethodName)) hown (mvT hZ (own_w65 hw)) (mvT hZ (own_w66 hw)) (mvT hZ (own_w67 hw)) (mvT hZ (own_w68 hw)) (by decide) (backOf (W := 0) (rm3 l Z a0 hw [] p1 (1 : Int32) d2 p2 (2 : Int32)  T_18.heap n0 Z0) hZ (own_w68 hw) (own_w67 hw) (by decide) (by decide)) (g := (mkF m 298 #[.val (.int sh), .val (.int a0v), .val (.int b0v), .val (.long p0), .second, .val (.long p1), .second, .val (.long p2), .second, .val (.int sz), .val (.int b0), .val (.int b1), .val (.int b2), .val (.int m0), .val (.int m1), .val (.int m2), .val (.ref a), .val (.int d0), .val (.int d1), .val (.int d2), .val (.int f0), .unset, .unset] [(.int (2 : Int32)), (.long p2), (.int d2), (.int (1 : Int32)), (.long p1)])) rfl (by rw [hml]; rfl) (argsL := [(.long p1), (.int (1 : Int32)), (.int d2), (.long p2), (.int (2 : Int32))]) (rest := []) (lenOf pd_2 rfl) rfl (by show 2 * 0 + _ ≤ _; exact Nat.le_of_eq rfl) (hb hby at_298) (fun _ _ => ⟨rfl, eh_31, (by decide : 11 + 0 ≤ _), (by decide : 2083 + 0 ≤ _)⟩)
                      dsimp only [Pt.U, Pt.locs, Pt.cells, Pt.slots] at X_32 l_32 y_32 z_32 st_32 hQ_32
                      subst l_32 y_32 z_32
                      obtain ⟨rfl, N_32q, eh_32⟩ := hQ_32
                      have N_32 := Fr.app N_31 N_32q
                      refine hst (fun _ kt => st_32 _ kt) ?_
                      show G (T_32.setTop (mkF m 301 #[.val (.int sh), .val (.int a0v), .val (.int b0v), .val (.long p0), .second, .val (.long p1), .second, .val (.long p2), .second, .val (.int sz), .val (.int b0), .val (.int b1), .val (.int b2), .val (.int m0), .val (.int m1), .val (.int m2), .val (.ref a), .val (.int d0), .val (.int d1), .val (.int d2), .val (.int f0), .unset, .unset] [(.int (own_bt p1 1 d2 p2 2))]))
                      by_cases hm1b : (own_bt p1 1 d2 p2 2) = (0 : Int32)
                      ·
                        refine hst (fun _ kt => XS.ifYes X_32.here hx rfl (pc0 := 301) (pc' := 308) rfl (hb hby at_301) rfl ((if0 _ _).trans (teq hm1b).1) (by decide) (by decide) kt) ?_
                        show G (T_32.setTop (mkF m 308 #[.val (.int sh), .val (.int a0v), .val (.int b0v), .val (.long p0), .second, .val (.long p1), .second, .val (.long p2), .second, .val (.int sz), .val (.int b0), .val (.int b1), .val (.int b2), .val (.int m0), .val (.int m1), .val (.int m2), .val (.ref a), .val (.int d0), .val (.int d1), .val (.int d2), .val (.int f0), .unset, .unset] []))
                        refine hst (fun _ kt => XS.iconst X_32.here hx rfl (hb hby at_308) kt) ?_
                        show G (T_32.setTop (mkF m 309 #[.val (.int sh), .val (.int a0v), .val (.int b0v), .val (.long p0), .second, .val (.long p1), .second, .val (.long p2), .second, .val (.int sz), .val (.int b0), .val (.int b1), .val (.int b2), .val (.int m0), .val (.int m1), .val (.int m2), .val (.ref a), .val (.int d0), .val (.int d1), .val (.int d2), .val (.int f0), .unset, .unset] [(.int (0 : Int32))]))
                        exact J309 _ T_32 _ X_32 eh_32 N_32 (by simp only [own_mn, if_neg hm1, if_neg hm1a, if_pos hm1b])
                      ·
                        refine hst (fun _ kt => XS.ifNo X_32.here hx rfl (hb hby at_301) rfl ((if0 _ _).trans (feq hm1b).1) kt) ?_
                        show G (T_32.setTop (mkF m 304 #[.val (.int sh), .val (.int a0v), .val (.int b0v), .val (.long p0), .second, .val (.long p1), .second, .val (.long p2), .second, .val (.int sz), .val (.int b0), .val (.int b1), .val (.int b2), .val (.int m0), .val (.int m1), .val (.int m2), .val (.ref a), .val (.int d0), .val (.int d1), .val (.int d2), .val (.int f0), .unset, .unset] []))
                        refine hst (fun _ kt => XS.iconst X_32.here hx rfl (hb hby at_304) kt) ?_
                        show G (T_32.setTop (mkF m 305 #[.val (.int sh), .val (.int a0v), .val (.int b0v), .val (.long p0), .second, .val (.long p1), .second, .val (.long p2), .second, .val (.int sz), .val (.int b0), .val (.int b1), .val (.int b2), .val (.int m0), .val (.int m1), .val (.int m2), .val (.ref a), .val (.int d0), .val (.int d1), .val (.int d2), .val (.int f0), .unset, .unset] [(.int (1 : Int32))]))
                        refine hst (fun _ kt => XS.goto X_32.here hx rfl (pc0 := 305) (pc' := 309) rfl (hb hby at_305) (by decide) (by decide) kt) ?_
                        show G (T_32.setTop (mkF m 309 #[.val (.int sh), .val (.int a0v), .val (.int b0v), .val (.long p0), .second, .val (.long p1), .second, .val (.long p2), .second, .val (.int sz), .val (.int b0), .val (.int b1), .val (.int b2), .val (.int m0), .val (.int m1), .val (.int m2), .val (.ref a), .val (.int d0), .val (.int d1), .val (.int d2), .val (.int f0), .unset, .unset] [(.int (1 : Int32))]))
                        exact J309 _ T_32 _ X_32 eh_32 N_32 (by simp only [own_mn, if_neg hm1, if_neg hm1a, if_neg hm1b])
                by_cases hm0 : d0 = (0 : Int32)
                ·
                  refine hst (fun _ kt => XS.ifYes X_18.here hx rfl (pc0 := 236) (pc' := 269) rfl (hb hby at_236) rfl ((if0 _ _).trans (teq hm0).1) (by decide) (by decide) kt) ?_
                  show G (T_18.setTop (mkF m 269 #[.val (.int sh), .val (.int a0v), .val (.int b0v), .val (.long p0), .second, .val (.long p1), .second, .val (.long p2), .second, .val (.int sz), .val (.int b0), .val (.int b1), .val (.int b2), .val (.int m0), .val (.int m1), .val (.int m2), .val (.ref a), .val (.int d0), .val (.int d1), .val (.int d2), .unset, .unset, .unset] []))
                  refine hst (fun _ kt => XS.iconst X_18.here hx rfl (hb hby at_269) kt) ?_
                  show G (T_18.setTop (mkF m 270 #[.val (.int sh), .val (.int a0v), .val (.int b0v), .val (.long p0), .second, .val (.long p1), .second, .val (.long p2), .second, .val (.int sz), .val (.int b0), .val (.int b1), .val (.int b2), .val (.int m0), .val (.int m1), .val (.int m2), .val (.ref a), .val (.int d0), .val (.int d1), .val (.int d2), .unset, .unset, .unset] [(.int (0 : Int32))]))
                  exact J270 _ T_18 _ X_18 rfl N_18 (by simp only [own_mn, if_pos hm0])
                ·
                  refine hst (fun _ kt => XS.ifNo X_18.here hx rfl (hb hby at_236) rfl ((if0 _ _).trans (feq hm0).1) kt) ?_
                  show G (T_18.setTop (mkF m 239 #[.val (.int sh), .val (.int a0v), .val (.int b0v), .val (.long p0), .second, .val (.long p1), .second, .val (.long p2), .second, .val (.int sz), .val (.int b0), .val (.int b1), .val (.int b2), .val (.int m0), .val (.int m1), .val (.int m2), .val (.ref a), .val (.int d0), .val (.int d1), .val (.int d2), .unset, .unset, .unset] []))
                  refine hst (fun _ kt => XS.lloadN X_18.here hx rfl (hb hby at_239) rfl kt) ?_
                  show G (T_18.setTop (mkF m 240 #[.val (.int sh), .val (.int a0v), .val (.int b0v), .val (.long p0), .second, .val (.long p1), .second, .val (.long p2), .second, .val (.int sz), .val (.int b0), .val (.int b1), .val (.int b2), .val (.int m0), .val (.int m1), .val (.int m2), .val (.ref a), .val (.int d0), .val (.int d1), .val (.int d2), .unset, .unset, .unset] [(.long p0)]))
                  refine hst (fun _ kt => XS.iconst X_18.here hx rfl (hb hby at_240) kt) ?_
                  show G (T_18.setTop (mkF m 241 #[.val (.int sh), .val (.int a0v), .val (.int b0v), .val (.long p0), .second, .val (.long p1), .second, .val (.long p2), .second, .val (.int sz), .val (.int b0), .val (.int b1), .val (.int b2), .val (.int m0), .val (.int m1), .val (.int m2), .val (.ref a), .val (.int d0), .val (.int d1), .val (.int d2), .unset, .unset, .unset] [(.int (0 : Int32)), (.long p0)]))
                  refine hst (fun _ kt => XS.iload X_18.here hx rfl (hb hby at_241) rfl kt) ?_
                  show G (T_18.setTop (mkF m 243 #[.val (.int sh), .val (.int a0v), .val (.int b0v), .val (.long p0), .second, .val (.long p1), .second, .val (.long p2), .second, .val (.int sz), .val (.int b0), .val (.int b1), .val (.int b2), .val (.int m0), .val (.int m1), .val (.int m2), .val (.ref a), .val (.int d0), .val (.int d1), .val (.int d2), .unset, .unset, .unset] [(.int d1), (.int (0 : Int32)), (.long p0)]))
                  refine hst (fun _ kt => XS.lload X_18.here hx rfl (hb hby at_243) rfl kt) ?_
                  show G (T_18.setTop (mkF m 245 #[.val (.int sh), .val (.int a0v), .val (.int b0v), .val (.long p0), .second, .val (.long p1), .second, .val (.long p2), .second, .val (.int sz), .val (.int b0), .val (.int b1), .val (.int b2), .val (.int m0), .val (.int m1), .val (.int m2), .val (.ref a), .val (.int d0), .val (.int d1), .val (.int d2), .unset, .unset, .unset] [(.long p1), (.int d1), (.int (0 : Int32)), (.long p0)]))
                  refine hst (fun _ kt => XS.iconst X_18.here hx rfl (hb hby at_245) kt) ?_
                  show G (T_18.setTop (mkF m 246 #[.val (.int sh), .val (.int a0v), .val (.int b0v), .val (.long p0), .second, .val (.long p1), .second, .val (.long p2), .second, .val (.int sz), .val (.int b0), .val (.int b1), .val (.int b2), .val (.int m0), .val (.int m1), .val (.int m2), .val (.ref a), .val (.int d0), .val (.int d1), .val (.int d2), .unset, .unset, .unset] [(.int (1 : Int32)), (.long p1), (.int d1), (.int (0 : Int32)), (.long p0)]))
                  obtain ⟨_, _, ⟨T_33, L_33, k_33, n_33⟩, -, X_33, ⟨Lc_33, hQ_33, l_33, y_33, z_33⟩, st_33⟩ := Jvm.LawKit.callS X_18 hx (y := (⟨x.cls, "beats", "(JIZJI)Z"⟩ : MethodName)) hown (mvT hZ (own_w65 hw)) (mvT hZ (own_w66 hw)) (mvT hZ (own_w67 hw)) (mvT hZ (own_w68 hw)) (by decide) (backOf (W := 0) (rm3 l Z a0 hw [] p0 (0 : Int32) d1 p1 (1 : Int32)  T_18.heap n0 Z0) hZ (own_w68 hw) (own_w67 hw) (by decide) (by decide)) (g := (mkF m 246 #[.val (.int sh), .val (.int a0v), .val (.int b0v), .val (.long p0), .second, .val (.long p1), .second, .val (.long p2), .second, .val (.int sz), .val (.int b0), .val (.int b1), .val (.int b2), .val (.int m0), .val (.int m1), .val (.int m2), .val (.ref a), .val (.int d0), .val (.int d1), .val (.int d2), .unset, .unset, .unset] [(.int (1 : Int32)), (.long p1), (.int d1), (.int (0 : Int32)), (.long p0)])) rfl (by rw [hml]; rfl) (argsL := [(.long p0), (.int (0 : Int32)), (.int d1), (.long p1), (.int (1 : Int32))]) (rest := []) (lenOf pd_2 rfl) rfl (by show 2 * 0 + _ ≤ _; exact Nat.le_of_eq rfl) (hb hby at_246) (fun _ _ => ⟨rfl, rfl, (by decide : 11 + 0 ≤ _), (by decide : 2083 + 0 ≤ _)⟩)
                  dsimp only [Pt.U, Pt.locs, Pt.cells, Pt.slots] at X_33 l_33 y_33 z_33 st_33 hQ_33
                  subst l_33 y_33 z_33
                  obtain ⟨rfl, N_33q, eh_33⟩ := hQ_33
                  have N_33 := Fr.app N_18 N_33q
                  refine hst (fun _ kt => st_33 _ kt) ?_
                  show G (T_33.setTop (mkF m 249 #[.val (.int sh), .val (.int a0v), .val (.int b0v), .val (.long p0), .second, .val (.long p1), .second, .val (.long p2), .second, .val (.int sz), .val (.int b0), .val (.int b1), .val (.int b2), .val (.int m0), .val (.int m1), .val (.int m2), .val (.ref a), .val (.int d0), .val (.int d1), .val (.int d2), .unset, .unset, .unset] [(.int (own_bt p0 0 d1 p1 1))]))
                  by_cases hm0a : (own_bt p0 0 d1 p1 1) = (0 : Int32)
                  ·
                    refine hst (fun _ kt => XS.ifYes X_33.here hx rfl (pc0 := 249) (pc' := 269) rfl (hb hby at_249) rfl ((if0 _ _).trans (teq hm0a).1) (by decide) (by decide) kt) ?_
                    show G (T_33.setTop (mkF m 269 #[.val (.int sh), .val (.int a0v), .val (.int b0v), .val (.long p0), .second, .val (.long p1), .second, .val (.long p2), .second, .val (.int sz), .val (.int b0), .val (.int b1), .val (.int b2), .val (.int m0), .val (.int m1), .val (.int m2), .val (.ref a), .val (.int d0), .val (.int d1), .val (.int d2), .unset, .unset, .unset] []))
                    refine hst (fun _ kt => XS.iconst X_33.here hx rfl (hb hby at_269) kt) ?_
                    show G (T_33.setTop (mkF m 270 #[.val (.int sh), .val (.int a0v), .val (.int b0v), .val (.long p0), .second, .val (.long p1), .second, .val (.long p2), .second, .val (.int sz), .val (.int b0), .val (.int b1), .val (.int b2), .val (.int m0), .val (.int m1), .val (.int m2), .val (.ref a), .val (.int d0), .val (.int d1), .val (.int d2), .unset, .unset, .unset] [(.int (0 : Int32))]))
                    exact J270 _ T_33 _ X_33 eh_33 N_33 (by simp only [own_mn, if_neg hm0, if_pos hm0a])
                  ·
                    refine hst (fun _ kt => XS.ifNo X_33.here hx rfl (hb hby at_249) rfl ((if0 _ _).trans (feq hm0a).1) kt) ?_
                    show G (T_33.setTop (mkF m 252 #[.val (.int sh), .val (.int a0v), .val (.int b0v), .val (.long p0), .second, .val (.long p1), .second, .val (.long p2), .second, .val (.int sz), .val (.int b0), .val (.int b1), .val (.int b2), .val (.int m0), .val (.int m1), .val (.int m2), .val (.ref a), .val (.int d0), .val (.int d1), .val (.int d2), .unset, .unset, .unset] []))
                    refine hst (fun _ kt => XS.lloadN X_33.here hx rfl (hb hby at_252) rfl kt) ?_
                    show G (T_33.setTop (mkF m 253 #[.val (.int sh), .val (.int a0v), .val (.int b0v), .val (.long p0), .second, .val (.long p1), .second, .val (.long p2), .second, .val (.int sz), .val (.int b0), .val (.int b1), .val (.int b2), .val (.int m0), .val (.int m1), .val (.int m2), .val (.ref a), .val (.int d0), .val (.int d1), .val (.int d2), .unset, .unset, .unset] [(.long p0)]))
                    refine hst (fun _ kt => XS.iconst X_33.here hx rfl (hb hby at_253) kt) ?_
                    show G (T_33.setTop (mkF m 254 #[.val (.int sh), .val (.int a0v), .val (.int b0v), .val (.long p0), .second, .val (.long p1), .second, .val (.long p2), .second, .val (.int sz), .val (.int b0), .val (.int b1), .val (.int b2), .val (.int m0), .val (.int m1), .val (.int m2), .val (.ref a), .val (.int d0), .val (.int d1), .val (.int d2), .unset, .unset, .unset] [(.int (0 : Int32)), (.long p0)]))
                    refine hst (fun _ kt => XS.iload X_33.here hx rfl (hb hby at_254) rfl kt) ?_
                    show G (T_33.setTop (mkF m 256 #[.val (.int sh), .val (.int a0v), .val (.int b0v), .val (.long p0), .second, .val (.long p1), .second, .val (.long p2), .second, .val (.int sz), .val (.int b0), .val (.int b1), .val (.int b2), .val (.int m0), .val (.int m1), .val (.int m2), .val (.ref a), .val (.int d0), .val (.int d1), .val (.int d2), .unset, .unset, .unset] [(.int d2), (.int (0 : Int32)), (.long p0)]))
                    refine hst (fun _ kt => XS.lload X_33.here hx rfl (hb hby at_256) rfl kt) ?_
                    show G (T_33.setTop (mkF m 258 #[.val (.int sh), .val (.int a0v), .val (.int b0v), .val (.long p0), .second, .val (.long p1), .second, .val (.long p2), .second, .val (.int sz), .val (.int b0), .val (.int b1), .val (.int b2), .val (.int m0), .val (.int m1), .val (.int m2), .val (.ref a), .val (.int d0), .val (.int d1), .val (.int d2), .unset, .unset, .unset] [(.long p2), (.int d2), (.int (0 : Int32)), (.long p0)]))
                    refine hst (fun _ kt => XS.iconst X_33.here hx rfl (hb hby at_258) kt) ?_
                    show G (T_33.setTop (mkF m 259 #[.val (.int sh), .val (.int a0v), .val (.int b0v), .val (.long p0), .second, .val (.long p1), .second, .val (.long p2), .second, .val (.int sz), .val (.int b0), .val (.int b1), .val (.int b2), .val (.int m0), .val (.int m1), .val (.int m2), .val (.ref a), .val (.int d0), .val (.int d1), .val (.int d2), .unset, .unset, .unset] [(.int (2 : Int32)), (.long p2), (.int d2), (.int (0 : Int32)), (.long p0)]))
                    obtain ⟨_, _, ⟨T_34, L_34, k_34, n_34⟩, -, X_34, ⟨Lc_34, hQ_34, l_34, y_34, z_34⟩, st_34⟩ := Jvm.LawKit.callS X_33 hx (y := (⟨x.cls, "beats", "(JIZJI)Z"⟩ : MethodName)) hown (mvT hZ (own_w65 hw)) (mvT hZ (own_w66 hw)) (mvT hZ (own_w67 hw)) (mvT hZ (own_w68 hw)) (by decide) (backOf (W := 0) (rm3 l Z a0 hw [] p0 (0 : Int32) d2 p2 (2 : Int32)  T_18.heap n0 Z0) hZ (own_w68 hw) (own_w67 hw) (by decide) (by decide)) (g := (mkF m 259 #[.val (.int sh), .val (.int a0v), .val (.int b0v), .val (.long p0), .second, .val (.long p1), .second, .val (.long p2), .second, .val (.int sz), .val (.int b0), .val (.int b1), .val (.int b2), .val (.int m0), .val (.int m1), .val (.int m2), .val (.ref a), .val (.int d0), .val (.int d1), .val (.int d2), .unset, .unset, .unset] [(.int (2 : Int32)), (.long p2), (.int d2), (.int (0 : Int32)), (.long p0)])) rfl (by rw [hml]; rfl) (argsL := [(.long p0), (.int (0 : Int32)), (.int d2), (.long p2), (.int (2 : Int32))]) (rest := []) (lenOf pd_2 rfl) rfl (by show 2 * 0 + _ ≤ _; exact Nat.le_of_eq rfl) (hb hby at_259) (fun _ _ => ⟨rfl, eh_33, (by decide : 11 + 0 ≤ _), (by decide : 2083 + 0 ≤ _)⟩)
                    dsimp only [Pt.U, Pt.locs, Pt.cells, Pt.slots] at X_34 l_34 y_34 z_34 st_34 hQ_34
                    subst l_34 y_34 z_34
                    obtain ⟨rfl, N_34q, eh_34⟩ := hQ_34
                    have N_34 := Fr.app N_33 N_34q
                    refine hst (fun _ kt => st_34 _ kt) ?_
                    show G (T_34.setTop (mkF m 262 #[.val (.int sh), .val (.int a0v), .val (.int b0v), .val (.long p0), .second, .val (.long p1), .second, .val (.long p2), .second, .val (.int sz), .val (.int b0), .val (.int b1), .val (.int b2), .val (.int m0), .val (.int m1), .val (.int m2), .val (.ref a), .val (.int d0), .val (.int d1), .val (.int d2), .unset, .unset, .unset] [(.int (own_bt p0 0 d2 p2 2))]))
                    by_cases hm0b : (own_bt p0 0 d2 p2 2) = (0 : Int32)
                    ·
                      refine hst (fun _ kt => XS.ifYes X_34.here hx rfl (pc0 := 262) (pc' := 269) rfl (hb hby at_262) rfl ((if0 _ _).trans (teq hm0b).1) (by decide) (by decide) kt) ?_
                      show G (T_34.setTop (mkF m 269 #[.val (.int sh), .val (.int a0v), .val (.int b0v), .val (.long p0), .second, .val (.long p1), .second, .val (.long p2), .second, .val (.int sz), .val (.int b0), .val (.int b1), .val (.int b2), .val (.int m0), .val (.int m1), .val (.int m2), .val (.ref a), .val (.int d0), .val (.int d1), .val (.int d2), .unset, .unset, .unset] []))
                      refine hst (fun _ kt => XS.iconst X_34.here hx rfl (hb hby at_269) kt) ?_
                      show G (T_34.setTop (mkF m 270 #[.val (.int sh), .val (.int a0v), .val (.int b0v), .val (.long p0), .second, .val (.long p1), .second, .val (.long p2), .second, .val (.int sz), .val (.int b0), .val (.int b1), .val (.int b2), .val (.int m0), .val (.int m1), .val (.int m2), .val (.ref a), .val (.int d0), .val (.int d1), .val (.int d2), .unset, .unset, .unset] [(.int (0 : Int32))]))
                      exact J270 _ T_34 _ X_34 eh_34 N_34 (by simp only [own_mn, if_neg hm0, if_neg hm0a, if_pos hm0b])
                    ·
                      refine hst (fun _ kt => XS.ifNo X_34.here hx rfl (hb hby at_262) rfl ((if0 _ _).trans (feq hm0b).1) kt) ?_
                      show G (T_34.setTop (mkF m 265 #[.val (.int sh), .val (.int a0v), .val (.int b0v), .val (.long p0), .second, .val (.long p1), .second, .val (.long p2), .second, .val (.int sz), .val (.int b0), .val (.int b1), .val (.int b2), .val (.int m0), .val (.int m1), .val (.int m2), .val (.ref a), .val (.int d0), .val (.int d1), .val (.int d2), .unset, .unset, .unset] []))
                      refine hst (fun _ kt => XS.iconst X_34.here hx rfl (hb hby at_265) kt) ?_
                      show G (T_34.setTop (mkF m 266 #[.val (.int sh), .val (.int a0v), .val (.int b0v), .val (.long p0), .second, .val (.long p1), .second, .val (.long p2), .second, .val (.int sz), .val (.int b0), .val (.int b1), .val (.int b2), .val (.int m0), .val (.int m1), .val (.int m2), .val (.ref a), .val (.int d0), .val (.int d1), .val (.int d2), .unset, .unset, .unset] [(.int (1 : Int32))]))
                      refine hst (fun _ kt => XS.goto X_34.here hx rfl (pc0 := 266) (pc' := 270) rfl (hb hby at_266) (by decide) (by decide) kt) ?_
                      show G (T_34.setTop (mkF m 270 #[.val (.int sh), .val (.int a0v), .val (.int b0v), .val (.long p0), .second, .val (.long p1), .second, .val (.long p2), .second, .val (.int sz), .val (.int b0), .val (.int b1), .val (.int b2), .val (.int m0), .val (.int m1), .val (.int m2), .val (.ref a), .val (.int d0), .val (.int d1), .val (.int d2), .unset, .unset, .unset] [(.int (1 : Int32))]))
                      exact J270 _ T_34 _ X_34 eh_34 N_34 (by simp only [own_mn, if_neg hm0, if_neg hm0a, if_neg hm0b])
              by_cases hq2 : (2 : Int32) < sz
              ·
                refine hst (fun _ kt => XS.icmpNo X_18.here hx rfl (hb hby at_219) rfl (tlt hq2).2.2.2 kt) ?_
                show G (T_18.setTop (mkF m 222 #[.val (.int sh), .val (.int a0v), .val (.int b0v), .val (.long p0), .second, .val (.long p1), .second, .val (.long p2), .second, .val (.int sz), .val (.int b0), .val (.int b1), .val (.int b2), .val (.int m0), .val (.int m1), .val (.int m2), .val (.ref a), .val (.int d0), .val (.int d1), .unset, .unset, .unset, .unset] []))
                refine hst (fun _ kt => XS.iload X_18.here hx rfl (hb hby at_222) rfl kt) ?_
                show G (T_18.setTop (mkF m 224 #[.val (.int sh), .val (.int a0v), .val (.int b0v), .val (.long p0), .second, .val (.long p1), .second, .val (.long p2), .second, .val (.int sz), .val (.int b0), .val (.int b1), .val (.int b2), .val (.int m0), .val (.int m1), .val (.int m2), .val (.ref a), .val (.int d0), .val (.int d1), .unset, .unset, .unset, .unset] [(.int b2)]))
                by_cases hq2a : b2 = (0 : Int32)
                ·
                  refine hst (fun _ kt => XS.ifNo X_18.here hx rfl (hb hby at_224) rfl ((if0 _ _).trans (teq hq2a).2) kt) ?_
                  show G (T_18.setTop (mkF m 227 #[.val (.int sh), .val (.int a0v), .val (.int b0v), .val (.long p0), .second, .val (.long p1), .second, .val (.long p2), .second, .val (.int sz), .val (.int b0), .val (.int b1), .val (.int b2), .val (.int m0), .val (.int m1), .val (.int m2), .val (.ref a), .val (.int d0), .val (.int d1), .unset, .unset, .unset, .unset] []))
                  refine hst (fun _ kt => XS.iconst X_18.here hx rfl (hb hby at_227) kt) ?_
                  show G (T_18.setTop (mkF m 228 #[.val (.int sh), .val (.int a0v), .val (.int b0v), .val (.long p0), .second, .val (.long p1), .second, .val (.long p2), .second, .val (.int sz), .val (.int b0), .val (.int b1), .val (.int b2), .val (.int m0), .val (.int m1), .val (.int m2), .val (.ref a), .val (.int d0), .val (.int d1), .unset, .unset, .unset, .unset] [(.int (1 : Int32))]))
                  refine hst (fun _ kt => XS.goto X_18.here hx rfl (pc0 := 228) (pc' := 232) rfl (hb hby at_228) (by decide) (by decide) kt) ?_
                  show G (T_18.setTop (mkF m 232 #[.val (.int sh), .val (.int a0v), .val (.int b0v), .val (.long p0), .second, .val (.long p1), .second, .val (.long p2), .second, .val (.int sz), .val (.int b0), .val (.int b1), .val (.int b2), .val (.int m0), .val (.int m1), .val (.int m2), .val (.ref a), .val (.int d0), .val (.int d1), .unset, .unset, .unset, .unset] [(.int (1 : Int32))]))
                  exact J232 _ (by simp only [own_pr, if_pos hq2, if_pos hq2a])
                ·
                  refine hst (fun _ kt => XS.ifYes X_18.here hx rfl (pc0 := 224) (pc' := 231) rfl (hb hby at_224) rfl ((if0 _ _).trans (feq hq2a).2) (by decide) (by decide) kt) ?_
                  show G (T_18.setTop (mkF m 231 #[.val (.int sh), .val (.int a0v), .val (.int b0v), .val (.long p0), .second, .val (.long p1), .second, .val (.long p2), .second, .val (.int sz), .val (.int b0), .val (.int b1), .val (.int b2), .val (.int m0), .val (.int m1), .val (.int m2), .val (.ref a), .val (.int d0), .val (.int d1), .unset, .unset, .unset, .unset] []))
                  refine hst (fun _ kt => XS.iconst X_18.here hx rfl (hb hby at_231) kt) ?_
                  show G (T_18.setTop (mkF m 232 #[.val (.int sh), .val (.int a0v), .val (.int b0v), .val (.long p0), .second, .val (.long p1), .second, .val (.long p2), .second, .val (.int sz), .val (.int b0), .val (.int b1), .val (.int b2), .val (.int m0), .val (.int m1), .val (.int m2), .val (.ref a), .val (.int d0), .val (.int d1), .unset, .unset, .unset, .unset] [(.int (0 : Int32))]))
                  exact J232 _ (by simp only [own_pr, if_pos hq2, if_neg hq2a])
              ·
                refine hst (fun _ kt => XS.icmpYes X_18.here hx rfl (pc0 := 219) (pc' := 231) rfl (hb hby at_219) rfl (flt hq2).2.2.2 (by decide) (by decide) kt) ?_
                show G (T_18.setTop (mkF m 231 #[.val (.int sh), .val (.int a0v), .val (.int b0v), .val (.long p0), .second, .val (.long p1), .second, .val (.long p2), .second, .val (.int sz), .val (.int b0), .val (.int b1), .val (.int b2), .val (.int m0), .val (.int m1), .val (.int m2), .val (.ref a), .val (.int d0), .val (.int d1), .unset, .unset, .unset, .unset] []))
                refine hst (fun _ kt => XS.iconst X_18.here hx rfl (hb hby at_231) kt) ?_
                show G (T_18.setTop (mkF m 232 #[.val (.int sh), .val (.int a0v), .val (.int b0v), .val (.long p0), .second, .val (.long p1), .second, .val (.long p2), .second, .val (.int sz), .val (.int b0), .val (.int b1), .val (.int b2), .val (.int m0), .val (.int m1), .val (.int m2), .val (.ref a), .val (.int d0), .val (.int d1), .unset, .unset, .unset, .unset] [(.int (0 : Int32))]))
                exact J232 _ (by simp only [own_pr, if_neg hq2])
            by_cases hq1 : (1 : Int32) < sz
            ·
              refine hst (fun _ kt => XS.icmpNo X_18.here hx rfl (hb hby at_201) rfl (tlt hq1).2.2.2 kt) ?_
              show G (T_18.setTop (mkF m 204 #[.val (.int sh), .val (.int a0v), .val (.int b0v), .val (.long p0), .second, .val (.long p1), .second, .val (.long p2), .second, .val (.int sz), .val (.int b0), .val (.int b1), .val (.int b2), .val (.int m0), .val (.int m1), .val (.int m2), .val (.ref a), .val (.int d0), .unset, .unset, .unset, .unset, .unset] []))
              refine hst (fun _ kt => XS.iload X_18.here hx rfl (hb hby at_204) rfl kt) ?_
              show G (T_18.setTop (mkF m 206 #[.val (.int sh), .val (.int a0v), .val (.int b0v), .val (.long p0), .second, .val (.long p1), .second, .val (.long p2), .second, .val (.int sz), .val (.int b0), .val (.int b1), .val (.int b2), .val (.int m0), .val (.int m1), .val (.int m2), .val (.ref a), .val (.int d0), .unset, .unset, .unset, .unset, .unset] [(.int b1)]))
              by_cases hq1a : b1 = (0 : Int32)
              ·
                refine hst (fun _ kt => XS.ifNo X_18.here hx rfl (hb hby at_206) rfl ((if0 _ _).trans (teq hq1a).2) kt) ?_
                show G (T_18.setTop (mkF m 209 #[.val (.int sh), .val (.int a0v), .val (.int b0v), .val (.long p0), .second, .val (.long p1), .second, .val (.long p2), .second, .val (.int sz), .val (.int b0), .val (.int b1), .val (.int b2), .val (.int m0), .val (.int m1), .val (.int m2), .val (.ref a), .val (.int d0), .unset, .unset, .unset, .unset, .unset] []))
                refine hst (fun _ kt => XS.iconst X_18.here hx rfl (hb hby at_209) kt) ?_
                show G (T_18.setTop (mkF m 210 #[.val (.int sh), .val (.int a0v), .val (.int b0v), .val (.long p0), .second, .val (.long p1), .second, .val (.long p2), .second, .val (.int sz), .val (.int b0), .val (.int b1), .val (.int b2), .val (.int m0), .val (.int m1), .val (.int m2), .val (.ref a), .val (.int d0), .unset, .unset, .unset, .unset, .unset] [(.int (1 : Int32))]))
                refine hst (fun _ kt => XS.goto X_18.here hx rfl (pc0 := 210) (pc' := 214) rfl (hb hby at_210) (by decide) (by decide) kt) ?_
                show G (T_18.setTop (mkF m 214 #[.val (.int sh), .val (.int a0v), .val (.int b0v), .val (.long p0), .second, .val (.long p1), .second, .val (.long p2), .second, .val (.int sz), .val (.int b0), .val (.int b1), .val (.int b2), .val (.int m0), .val (.int m1), .val (.int m2), .val (.ref a), .val (.int d0), .unset, .unset, .unset, .unset, .unset] [(.int (1 : Int32))]))
                exact J214 _ (by simp only [own_pr, if_pos hq1, if_pos hq1a])
              ·
                refine hst (fun _ kt => XS.ifYes X_18.here hx rfl (pc0 := 206) (pc' := 213) rfl (hb hby at_206) rfl ((if0 _ _).trans (feq hq1a).2) (by decide) (by decide) kt) ?_
                show G (T_18.setTop (mkF m 213 #[.val (.int sh), .val (.int a0v), .val (.int b0v), .val (.long p0), .second, .val (.long p1), .second, .val (.long p2), .second, .val (.int sz), .val (.int b0), .val (.int b1), .val (.int b2), .val (.int m0), .val (.int m1), .val (.int m2), .val (.ref a), .val (.int d0), .unset, .unset, .unset, .unset, .unset] []))
                refine hst (fun _ kt => XS.iconst X_18.here hx rfl (hb hby at_213) kt) ?_
                show G (T_18.setTop (mkF m 214 #[.val (.int sh), .val (.int a0v), .val (.int b0v), .val (.long p0), .second, .val (.long p1), .second, .val (.long p2), .second, .val (.int sz), .val (.int b0), .val (.int b1), .val (.int b2), .val (.int m0), .val (.int m1), .val (.int m2), .val (.ref a), .val (.int d0), .unset, .unset, .unset, .unset, .unset] [(.int (0 : Int32))]))
                exact J214 _ (by simp only [own_pr, if_pos hq1, if_neg hq1a])
            ·
              refine hst (fun _ kt => XS.icmpYes X_18.here hx rfl (pc0 := 201) (pc' := 213) rfl (hb hby at_201) rfl (flt hq1).2.2.2 (by decide) (by decide) kt) ?_
              show G (T_18.setTop (mkF m 213 #[.val (.int sh), .val (.int a0v), .val (.int b0v), .val (.long p0), .second, .val (.long p1), .second, .val (.long p2), .second, .val (.int sz), .val (.int b0), .val (.int b1), .val (.int b2), .val (.int m0), .val (.int m1), .val (.int m2), .val (.ref a), .val (.int d0), .unset, .unset, .unset, .unset, .unset] []))
              refine hst (fun _ kt => XS.iconst X_18.here hx rfl (hb hby at_213) kt) ?_
              show G (T_18.setTop (mkF m 214 #[.val (.int sh), .val (.int a0v), .val (.int b0v), .val (.long p0), .second, .val (.long p1), .second, .val (.long p2), .second, .val (.int sz), .val (.int b0), .val (.int b1), .val (.int b2), .val (.int m0), .val (.int m1), .val (.int m2), .val (.ref a), .val (.int d0), .unset, .unset, .unset, .unset, .unset] [(.int (0 : Int32))]))
              exact J214 _ (by simp only [own_pr, if_neg hq1])
          by_cases hq0 : (0 : Int32) < sz
          ·
            refine hst (fun _ kt => XS.ifNo X_18.here hx rfl (hb hby at_183) rfl ((if0 _ _).trans (tlt hq0).2.2.2) kt) ?_
            show G (T_18.setTop (mkF m 186 #[.val (.int sh), .val (.int a0v), .val (.int b0v), .val (.long p0), .second, .val (.long p1), .second, .val (.long p2), .second, .val (.int sz), .val (.int b0), .val (.int b1), .val (.int b2), .val (.int m0), .val (.int m1), .val (.int m2), .val (.ref a), .unset, .unset, .unset, .unset, .unset, .unset] []))
            refine hst (fun _ kt => XS.iload X_18.here hx rfl (hb hby at_186) rfl kt) ?_
            show G (T_18.setTop (mkF m 188 #[.val (.int sh), .val (.int a0v), .val (.int b0v), .val (.long p0), .second, .val (.long p1), .second, .val (.long p2), .second, .val (.int sz), .val (.int b0), .val (.int b1), .val (.int b2), .val (.int m0), .val (.int m1), .val (.int m2), .val (.ref a), .unset, .unset, .unset, .unset, .unset, .unset] [(.int b0)]))
            by_cases hq0a : b0 = (0 : Int32)
            ·
              refine hst (fun _ kt => XS.ifNo X_18.here hx rfl (hb hby at_188) rfl ((if0 _ _).trans (teq hq0a).2) kt) ?_
              show G (T_18.setTop (mkF m 191 #[.val (.int sh), .val (.int a0v), .val (.int b0v), .val (.long p0), .second, .val (.long p1), .second, .val (.long p2), .second, .val (.int sz), .val (.int b0), .val (.int b1), .val (.int b2), .val (.int m0), .val (.int m1), .val (.int m2), .val (.ref a), .unset, .unset, .unset, .unset, .unset, .unset] []))
              refine hst (fun _ kt => XS.iconst X_18.here hx rfl (hb hby at_191) kt) ?_
              show G (T_18.setTop (mkF m 192 #[.val (.int sh), .val (.int a0v), .val (.int b0v), .val (.long p0), .second, .val (.long p1), .second, .val (.long p2), .second, .val (.int sz), .val (.int b0), .val (.int b1), .val (.int b2), .val (.int m0), .val (.int m1), .val (.int m2), .val (.ref a), .unset, .unset, .unset, .unset, .unset, .unset] [(.int (1 : Int32))]))
              refine hst (fun _ kt => XS.goto X_18.here hx rfl (pc0 := 192) (pc' := 196) rfl (hb hby at_192) (by decide) (by decide) kt) ?_
              show G (T_18.setTop (mkF m 196 #[.val (.int sh), .val (.int a0v), .val (.int b0v), .val (.long p0), .second, .val (.long p1), .second, .val (.long p2), .second, .val (.int sz), .val (.int b0), .val (.int b1), .val (.int b2), .val (.int m0), .val (.int m1), .val (.int m2), .val (.ref a), .unset, .unset, .unset, .unset, .unset, .unset] [(.int (1 : Int32))]))
              exact J196 _ (by simp only [own_pr, if_pos hq0, if_pos hq0a])
            ·
              refine hst (fun _ kt => XS.ifYes X_18.here hx rfl (pc0 := 188) (pc' := 195) rfl (hb hby at_188) rfl ((if0 _ _).trans (feq hq0a).2) (by decide) (by decide) kt) ?_
              show G (T_18.setTop (mkF m 195 #[.val (.int sh), .val (.int a0v), .val (.int b0v), .val (.long p0), .second, .val (.long p1), .second, .val (.long p2), .second, .val (.int sz), .val (.int b0), .val (.int b1), .val (.int b2), .val (.int m0), .val (.int m1), .val (.int m2), .val (.ref a), .unset, .unset, .unset, .unset, .unset, .unset] []))
              refine hst (fun _ kt => XS.iconst X_18.here hx rfl (hb hby at_195) kt) ?_
              show G (T_18.setTop (mkF m 196 #[.val (.int sh), .val (.int a0v), .val (.int b0v), .val (.long p0), .second, .val (.long p1), .second, .val (.long p2), .second, .val (.int sz), .val (.int b0), .val (.int b1), .val (.int b2), .val (.int m0), .val (.int m1), .val (.int m2), .val (.ref a), .unset, .unset, .unset, .unset, .unset, .unset] [(.int (0 : Int32))]))
              exact J196 _ (by simp only [own_pr, if_pos hq0, if_neg hq0a])
          ·
            refine hst (fun _ kt => XS.ifYes X_18.here hx rfl (pc0 := 183) (pc' := 195) rfl (hb hby at_183) rfl ((if0 _ _).trans (flt hq0).2.2.2) (by decide) (by decide) kt) ?_
            show G (T_18.setTop (mkF m 195 #[.val (.int sh), .val (.int a0v), .val (.int b0v), .val (.long p0), .second, .val (.long p1), .second, .val (.long p2), .second, .val (.int sz), .val (.int b0), .val (.int b1), .val (.int b2), .val (.int m0), .val (.int m1), .val (.int m2), .val (.ref a), .unset, .unset, .unset, .unset, .unset, .unset] []))
            refine hst (fun _ kt => XS.iconst X_18.here hx rfl (hb hby at_195) kt) ?_
            show G (T_18.setTop (mkF m 196 #[.val (.int sh), .val (.int a0v), .val (.int b0v), .val (.long p0), .second, .val (.long p1), .second, .val (.long p2), .second, .val (.int sz), .val (.int b0), .val (.int b1), .val (.int b2), .val (.int m0), .val (.int m1), .val (.int m2), .val (.ref a), .unset, .unset, .unset, .unset, .unset, .unset] [(.int (0 : Int32))]))
            exact J196 _ (by simp only [own_pr, if_neg hq0])
        by_cases hs2 : b2 = (0 : Int32)
        ·
          refine hst (fun _ kt => XS.ifYes X_7.here hx rfl (pc0 := 118) (pc' := 125) rfl (hb hby at_118) rfl ((if0 _ _).trans (teq hs2).1) (by decide) (by decide) kt) ?_
          show G (T_7.setTop (mkF m 125 #[.val (.int sh), .val (.int a0v), .val (.int b0v), .val (.long p0), .second, .val (.long p1), .second, .val (.long p2), .second, .val (.int sz), .val (.int b0), .val (.int b1), .val (.int b2), .val (.int m0), .val (.int m1), .val (.int m2), .val (.ref a), .unset, .unset, .unset, .unset, .unset, .unset] [(.int (2 : Int32)), (.ref bn)]))
          refine hst (fun _ kt => XS.iload X_7.here hx rfl (hb hby at_125) rfl kt) ?_
          show G (T_7.setTop (mkF m 127 #[.val (.int sh), .val (.int a0v), .val (.int b0v), .val (.long p0), .second, .val (.long p1), .second, .val (.long p2), .second, .val (.int sz), .val (.int b0), .val (.int b1), .val (.int b2), .val (.int m0), .val (.int m1), .val (.int m2), .val (.ref a), .unset, .unset, .unset, .unset, .unset, .unset] [(.int m2), (.int (2 : Int32)), (.ref bn)]))
          exact J127 _ (by rw [if_pos hs2])
        ·
          refine hst (fun _ kt => XS.ifNo X_7.here hx rfl (hb hby at_118) rfl ((if0 _ _).trans (feq hs2).1) kt) ?_
          show G (T_7.setTop (mkF m 121 #[.val (.int sh), .val (.int a0v), .val (.int b0v), .val (.long p0), .second, .val (.long p1), .second, .val (.long p2), .second, .val (.int sz), .val (.int b0), .val (.int b1), .val (.int b2), .val (.int m0), .val (.int m1), .val (.int m2), .val (.ref a), .unset, .unset, .unset, .unset, .unset, .unset] [(.int (2 : Int32)), (.ref bn)]))
          refine hst (fun _ kt => XS.iconst X_7.here hx rfl (hb hby at_121) kt) ?_
          show G (T_7.setTop (mkF m 122 #[.val (.int sh), .val (.int a0v), .val (.int b0v), .val (.long p0), .second, .val (.long p1), .second, .val (.long p2), .second, .val (.int sz), .val (.int b0), .val (.int b1), .val (.int b2), .val (.int m0), .val (.int m1), .val (.int m2), .val (.ref a), .unset, .unset, .unset, .unset, .unset, .unset] [(.int (-1 : Int32)), (.int (2 : Int32)), (.ref bn)]))
          refine hst (fun _ kt => XS.goto X_7.here hx rfl (pc0 := 122) (pc' := 127) rfl (hb hby at_122) (by decide) (by decide) kt) ?_
          show G (T_7.setTop (mkF m 127 #[.val (.int sh), .val (.int a0v), .val (.int b0v), .val (.long p0), .second, .val (.long p1), .second, .val (.long p2), .second, .val (.int sz), .val (.int b0), .val (.int b1), .val (.int b2), .val (.int m0), .val (.int m1), .val (.int m2), .val (.ref a), .unset, .unset, .unset, .unset, .unset, .unset] [(.int (-1 : Int32)), (.int (2 : Int32)), (.ref bn)]))
          exact J127 _ (by rw [if_neg hs2])
      by_cases hs1 : b1 = (0 : Int32)
      ·
        refine hst (fun _ kt => XS.ifYes X_5.here hx rfl (pc0 := 100) (pc' := 107) rfl (hb hby at_100) rfl ((if0 _ _).trans (teq hs1).1) (by decide) (by decide) kt) ?_
        show G (T_5.setTop (mkF m 107 #[.val (.int sh), .val (.int a0v), .val (.int b0v), .val (.long p0), .second, .val (.long p1), .second, .val (.long p2), .second, .val (.int sz), .val (.int b0), .val (.int b1), .val (.int b2), .val (.int m0), .val (.int m1), .val (.int m2), .val (.ref a), .unset, .unset, .unset, .unset, .unset, .unset] [(.int (1 : Int32)), (.ref bn)]))
        refine hst (fun _ kt => XS.iload X_5.here hx rfl (hb hby at_107) rfl kt) ?_
        show G (T_5.setTop (mkF m 109 #[.val (.int sh), .val (.int a0v), .val (.int b0v), .val (.long p0), .second, .val (.long p1), .second, .val (.long p2), .second, .val (.int sz), .val (.int b0), .val (.int b1), .val (.int b2), .val (.int m0), .val (.int m1), .val (.int m2), .val (.ref a), .unset, .unset, .unset, .unset, .unset, .unset] [(.int m1), (.int (1 : Int32)), (.ref bn)]))
        exact J109 _ (by rw [if_pos hs1])
      ·
        refine hst (fun _ kt => XS.ifNo X_5.here hx rfl (hb hby at_100) rfl ((if0 _ _).trans (feq hs1).1) kt) ?_
        show G (T_5.setTop (mkF m 103 #[.val (.int sh), .val (.int a0v), .val (.int b0v), .val (.long p0), .second, .val (.long p1), .second, .val (.long p2), .second, .val (.int sz), .val (.int b0), .val (.int b1), .val (.int b2), .val (.int m0), .val (.int m1), .val (.int m2), .val (.ref a), .unset, .unset, .unset, .unset, .unset, .unset] [(.int (1 : Int32)), (.ref bn)]))
        refine hst (fun _ kt => XS.iconst X_5.here hx rfl (hb hby at_103) kt) ?_
        show G (T_5.setTop (mkF m 104 #[.val (.int sh), .val (.int a0v), .val (.int b0v), .val (.long p0), .second, .val (.long p1), .second, .val (.long p2), .second, .val (.int sz), .val (.int b0), .val (.int b1), .val (.int b2), .val (.int m0), .val (.int m1), .val (.int m2), .val (.ref a), .unset, .unset, .unset, .unset, .unset, .unset] [(.int (-1 : Int32)), (.int (1 : Int32)), (.ref bn)]))
        refine hst (fun _ kt => XS.goto X_5.here hx rfl (pc0 := 104) (pc' := 109) rfl (hb hby at_104) (by decide) (by decide) kt) ?_
        show G (T_5.setTop (mkF m 109 #[.val (.int sh), .val (.int a0v), .val (.int b0v), .val (.long p0), .second, .val (.long p1), .second, .val (.long p2), .second, .val (.int sz), .val (.int b0), .val (.int b1), .val (.int b2), .val (.int m0), .val (.int m1), .val (.int m2), .val (.ref a), .unset, .unset, .unset, .unset, .unset, .unset] [(.int (-1 : Int32)), (.int (1 : Int32)), (.ref bn)]))
        exact J109 _ (by rw [if_neg hs1])
    by_cases hs0 : b0 = (0 : Int32)
    ·
      refine hst (fun _ kt => XS.ifYes X_3.here hx rfl (pc0 := 82) (pc' := 89) rfl (hb hby at_82) rfl ((if0 _ _).trans (teq hs0).1) (by decide) (by decide) kt) ?_
      show G (T_3.setTop (mkF m 89 #[.val (.int sh), .val (.int a0v), .val (.int b0v), .val (.long p0), .second, .val (.long p1), .second, .val (.long p2), .second, .val (.int sz), .val (.int b0), .val (.int b1), .val (.int b2), .val (.int m0), .val (.int m1), .val (.int m2), .val (.ref a), .unset, .unset, .unset, .unset, .unset, .unset] [(.int (0 : Int32)), (.ref bn)]))
      refine hst (fun _ kt => XS.iload X_3.here hx rfl (hb hby at_89) rfl kt) ?_
      show G (T_3.setTop (mkF m 91 #[.val (.int sh), .val (.int a0v), .val (.int b0v), .val (.long p0), .second, .val (.long p1), .second, .val (.long p2), .second, .val (.int sz), .val (.int b0), .val (.int b1), .val (.int b2), .val (.int m0), .val (.int m1), .val (.int m2), .val (.ref a), .unset, .unset, .unset, .unset, .unset, .unset] [(.int m0), (.int (0 : Int32)), (.ref bn)]))
      exact J91 _ (by rw [if_pos hs0])
    ·
      refine hst (fun _ kt => XS.ifNo X_3.here hx rfl (hb hby at_82) rfl ((if0 _ _).trans (feq hs0).1) kt) ?_
      show G (T_3.setTop (mkF m 85 #[.val (.int sh), .val (.int a0v), .val (.int b0v), .val (.long p0), .second, .val (.long p1), .second, .val (.long p2), .second, .val (.int sz), .val (.int b0), .val (.int b1), .val (.int b2), .val (.int m0), .val (.int m1), .val (.int m2), .val (.ref a), .unset, .unset, .unset, .unset, .unset, .unset] [(.int (0 : Int32)), (.ref bn)]))
      refine hst (fun _ kt => XS.iconst X_3.here hx rfl (hb hby at_85) kt) ?_
      show G (T_3.setTop (mkF m 86 #[.val (.int sh), .val (.int a0v), .val (.int b0v), .val (.long p0), .second, .val (.long p1), .second, .val (.long p2), .second, .val (.int sz), .val (.int b0), .val (.int b1), .val (.int b2), .val (.int m0), .val (.int m1), .val (.int m2), .val (.ref a), .unset, .unset, .unset, .unset, .unset, .unset] [(.int (-1 : Int32)), (.int (0 : Int32)), (.ref bn)]))
      refine hst (fun _ kt => XS.goto X_3.here hx rfl (pc0 := 86) (pc' := 91) rfl (hb hby at_86) (by decide) (by decide) kt) ?_
      show G (T_3.setTop (mkF m 91 #[.val (.int sh), .val (.int a0v), .val (.int b0v), .val (.long p0), .second, .val (.long p1), .second, .val (.long p2), .second, .val (.int sz), .val (.int b0), .val (.int b1), .val (.int b2), .val (.int m0), .val (.int m1), .val (.int m2), .val (.ref a), .unset, .unset, .unset, .unset, .unset, .unset] [(.int (-1 : Int32)), (.int (0 : Int32)), (.ref bn)]))
      exact J91 _ (by rw [if_neg hs0])
  show G (s₁.setTop (mkF m 0 #[.val (.int sh), .val (.int a0v), .val (.int b0v), .val (.long p0), .second, .val (.long p1), .second, .val (.long p2), .second, .unset, .unset, .unset, .unset, .unset, .unset, .unset, .unset, .unset, .unset, .unset, .unset, .unset, .unset] []))
  refine hst (fun _ kt => XS.iloadN X0.here hx rfl (hb hby at_0) rfl kt) ?_
  show G (s₁.setTop (mkF m 1 #[.val (.int sh), .val (.int a0v), .val (.int b0v), .val (.long p0), .second, .val (.long p1), .second, .val (.long p2), .second, .unset, .unset, .unset, .unset, .unset, .unset, .unset, .unset, .unset, .unset, .unset, .unset, .unset, .unset] [(.int sh)]))
  refine hst (fun _ kt => XS.iconst X0.here hx rfl (hb hby at_1) kt) ?_
  show G (s₁.setTop (mkF m 2 #[.val (.int sh), .val (.int a0v), .val (.int b0v), .val (.long p0), .second, .val (.long p1), .second, .val (.long p2), .second, .unset, .unset, .unset, .unset, .unset, .unset, .unset, .unset, .unset, .unset, .unset, .unset, .unset, .unset] [(.int (3 : Int32)), (.int sh)]))
  refine hst (fun _ kt => XS.iand X0.here hx rfl (hb hby at_2) rfl kt) ?_
  show G (s₁.setTop (mkF m 3 #[.val (.int sh), .val (.int a0v), .val (.int b0v), .val (.long p0), .second, .val (.long p1), .second, .val (.long p2), .second, .unset, .unset, .unset, .unset, .unset, .unset, .unset, .unset, .unset, .unset, .unset, .unset, .unset, .unset] [(.int (sh &&& (3 : Int32)))]))
  refine hst (fun _ kt => XS.istore X0.here hx rfl (hb hby at_3) rfl (l' := #[.val (.int sh), .val (.int a0v), .val (.int b0v), .val (.long p0), .second, .val (.long p1), .second, .val (.long p2), .second, .val (.int (sh &&& (3 : Int32))), .unset, .unset, .unset, .unset, .unset, .unset, .unset, .unset, .unset, .unset, .unset, .unset, .unset]) rfl kt) ?_
  show G (s₁.setTop (mkF m 5 #[.val (.int sh), .val (.int a0v), .val (.int b0v), .val (.long p0), .second, .val (.long p1), .second, .val (.long p2), .second, .val (.int (sh &&& (3 : Int32))), .unset, .unset, .unset, .unset, .unset, .unset, .unset, .unset, .unset, .unset, .unset, .unset, .unset] []))
  refine hst (fun _ kt => XS.iloadN X0.here hx rfl (hb hby at_5) rfl kt) ?_
  show G (s₁.setTop (mkF m 6 #[.val (.int sh), .val (.int a0v), .val (.int b0v), .val (.long p0), .second, .val (.long p1), .second, .val (.long p2), .second, .val (.int (sh &&& (3 : Int32))), .unset, .unset, .unset, .unset, .unset, .unset, .unset, .unset, .unset, .unset, .unset, .unset, .unset] [(.int sh)]))
  refine hst (fun _ kt => XS.iconst X0.here hx rfl (hb hby at_6) kt) ?_
  show G (s₁.setTop (mkF m 7 #[.val (.int sh), .val (.int a0v), .val (.int b0v), .val (.long p0), .second, .val (.long p1), .second, .val (.long p2), .second, .val (.int (sh &&& (3 : Int32))), .unset, .unset, .unset, .unset, .unset, .unset, .unset, .unset, .unset, .unset, .unset, .unset, .unset] [(.int (4 : Int32)), (.int sh)]))
  refine hst (fun _ kt => XS.iand X0.here hx rfl (hb hby at_7) rfl kt) ?_
  show G (s₁.setTop (mkF m 8 #[.val (.int sh), .val (.int a0v), .val (.int b0v), .val (.long p0), .second, .val (.long p1), .second, .val (.long p2), .second, .val (.int (sh &&& (3 : Int32))), .unset, .unset, .unset, .unset, .unset, .unset, .unset, .unset, .unset, .unset, .unset, .unset, .unset] [(.int (sh &&& (4 : Int32)))]))
  by_cases hh0 : (sh &&& (4 : Int32)) = (0 : Int32)
  ·
    refine hst (fun _ kt => XS.ifYes X0.here hx rfl (pc0 := 8) (pc' := 15) rfl (hb hby at_8) rfl ((if0 _ _).trans (teq hh0).1) (by decide) (by decide) kt) ?_
    show G (s₁.setTop (mkF m 15 #[.val (.int sh), .val (.int a0v), .val (.int b0v), .val (.long p0), .second, .val (.long p1), .second, .val (.long p2), .second, .val (.int (sh &&& (3 : Int32))), .unset, .unset, .unset, .unset, .unset, .unset, .unset, .unset, .unset, .unset, .unset, .unset, .unset] []))
    refine hst (fun _ kt => XS.iconst X0.here hx rfl (hb hby at_15) kt) ?_
    show G (s₁.setTop (mkF m 16 #[.val (.int sh), .val (.int a0v), .val (.int b0v), .val (.long p0), .second, .val (.long p1), .second, .val (.long p2), .second, .val (.int (sh &&& (3 : Int32))), .unset, .unset, .unset, .unset, .unset, .unset, .unset, .unset, .unset, .unset, .unset, .unset, .unset] [(.int (0 : Int32))]))
    refine hst (fun _ kt => XS.istore X0.here hx rfl (hb hby at_16) rfl (l' := #[.val (.int sh), .val (.int a0v), .val (.int b0v), .val (.long p0), .second, .val (.long p1), .second, .val (.long p2), .second, .val (.int (sh &&& (3 : Int32))), .val (.int (0 : Int32)), .unset, .unset, .unset, .unset, .unset, .unset, .unset, .unset, .unset, .unset, .unset, .unset]) rfl kt) ?_
    show G (s₁.setTop (mkF m 18 #[.val (.int sh), .val (.int a0v), .val (.int b0v), .val (.long p0), .second, .val (.long p1), .second, .val (.long p2), .second, .val (.int (sh &&& (3 : Int32))), .val (.int (0 : Int32)), .unset, .unset, .unset, .unset, .unset, .unset, .unset, .unset, .unset, .unset, .unset, .unset] []))
    refine hst (fun _ kt => XS.iloadN X0.here hx rfl (hb hby at_18) rfl kt) ?_
    show G (s₁.setTop (mkF m 19 #[.val (.int sh), .val (.int a0v), .val (.int b0v), .val (.long p0), .second, .val (.long p1), .second, .val (.long p2), .second, .val (.int (sh &&& (3 : Int32))), .val (.int (0 : Int32)), .unset, .unset, .unset, .unset, .unset, .unset, .unset, .unset, .unset, .unset, .unset, .unset] [(.int sh)]))
    refine hst (fun _ kt => XS.bipush X0.here hx rfl (hb hby at_19) kt) ?_
    show G (s₁.setTop (mkF m 21 #[.val (.int sh), .val (.int a0v), .val (.int b0v), .val (.long p0), .second, .val (.long p1), .second, .val (.long p2), .second, .val (.int (sh &&& (3 : Int32))), .val (.int (0 : Int32)), .unset, .unset, .unset, .unset, .unset, .unset, .unset, .unset, .unset, .unset, .unset, .unset] [(.int (8 : Int32)), (.int sh)]))
    refine hst (fun _ kt => XS.iand X0.here hx rfl (hb hby at_21) rfl kt) ?_
    show G (s₁.setTop (mkF m 22 #[.val (.int sh), .val (.int a0v), .val (.int b0v), .val (.long p0), .second, .val (.long p1), .second, .val (.long p2), .second, .val (.int (sh &&& (3 : Int32))), .val (.int (0 : Int32)), .unset, .unset, .unset, .unset, .unset, .unset, .unset, .unset, .unset, .unset, .unset, .unset] [(.int (sh &&& (8 : Int32)))]))
    by_cases hh1 : (sh &&& (8 : Int32)) = (0 : Int32)
    ·
      refine hst (fun _ kt => XS.ifYes X0.here hx rfl (pc0 := 22) (pc' := 29) rfl (hb hby at_22) rfl ((if0 _ _).trans (teq hh1).1) (by decide) (by decide) kt) ?_
      show G (s₁.setTop (mkF m 29 #[.val (.int sh), .val (.int a0v), .val (.int b0v), .val (.long p0), .second, .val (.long p1), .second, .val (.long p2), .second, .val (.int (sh &&& (3 : Int32))), .val (.int (0 : Int32)), .unset, .unset, .unset, .unset, .unset, .unset, .unset, .unset, .unset, .unset, .unset, .unset] []))
      refine hst (fun _ kt => XS.iconst X0.here hx rfl (hb hby at_29) kt) ?_
      show G (s₁.setTop (mkF m 30 #[.val (.int sh), .val (.int a0v), .val (.int b0v), .val (.long p0), .second, .val (.long p1), .second, .val (.long p2), .second, .val (.int (sh &&& (3 : Int32))), .val (.int (0 : Int32)), .unset, .unset, .unset, .unset, .unset, .unset, .unset, .unset, .unset, .unset, .unset, .unset] [(.int (0 : Int32))]))
      refine hst (fun _ kt => XS.istore X0.here hx rfl (hb hby at_30) rfl (l' := #[.val (.int sh), .val (.int a0v), .val (.int b0v), .val (.long p0), .second, .val (.long p1), .second, .val (.long p2), .second, .val (.int (sh &&& (3 : Int32))), .val (.int (0 : Int32)), .val (.int (0 : Int32)), .unset, .unset, .unset, .unset, .unset, .unset, .unset, .unset, .unset, .unset, .unset]) rfl kt) ?_
      show G (s₁.setTop (mkF m 32 #[.val (.int sh), .val (.int a0v), .val (.int b0v), .val (.long p0), .second, .val (.long p1), .second, .val (.long p2), .second, .val (.int (sh &&& (3 : Int32))), .val (.int (0 : Int32)), .val (.int (0 : Int32)), .unset, .unset, .unset, .unset, .unset, .unset, .unset, .unset, .unset, .unset, .unset] []))
      refine hst (fun _ kt => XS.iloadN X0.here hx rfl (hb hby at_32) rfl kt) ?_
      show G (s₁.setTop (mkF m 33 #[.val (.int sh), .val (.int a0v), .val (.int b0v), .val (.long p0), .second, .val (.long p1), .second, .val (.long p2), .second, .val (.int (sh &&& (3 : Int32))), .val (.int (0 : Int32)), .val (.int (0 : Int32)), .unset, .unset, .unset, .unset, .unset, .unset, .unset, .unset, .unset, .unset, .unset] [(.int sh)]))
      refine hst (fun _ kt => XS.bipush X0.here hx rfl (hb hby at_33) kt) ?_
      show G (s₁.setTop (mkF m 35 #[.val (.int sh), .val (.int a0v), .val (.int b0v), .val (.long p0), .second, .val (.long p1), .second, .val (.long p2), .second, .val (.int (sh &&& (3 : Int32))), .val (.int (0 : Int32)), .val (.int (0 : Int32)), .unset, .unset, .unset, .unset, .unset, .unset, .unset, .unset, .unset, .unset, .unset] [(.int (16 : Int32)), (.int sh)]))
      refine hst (fun _ kt => XS.iand X0.here hx rfl (hb hby at_35) rfl kt) ?_
      show G (s₁.setTop (mkF m 36 #[.val (.int sh), .val (.int a0v), .val (.int b0v), .val (.long p0), .second, .val (.long p1), .second, .val (.long p2), .second, .val (.int (sh &&& (3 : Int32))), .val (.int (0 : Int32)), .val (.int (0 : Int32)), .unset, .unset, .unset, .unset, .unset, .unset, .unset, .unset, .unset, .unset, .unset] [(.int (sh &&& (16 : Int32)))]))
      by_cases hh2 : (sh &&& (16 : Int32)) = (0 : Int32)
      ·
        refine hst (fun _ kt => XS.ifYes X0.here hx rfl (pc0 := 36) (pc' := 43) rfl (hb hby at_36) rfl ((if0 _ _).trans (teq hh2).1) (by decide) (by decide) kt) ?_
        show G (s₁.setTop (mkF m 43 #[.val (.int sh), .val (.int a0v), .val (.int b0v), .val (.long p0), .second, .val (.long p1), .second, .val (.long p2), .second, .val (.int (sh &&& (3 : Int32))), .val (.int (0 : Int32)), .val (.int (0 : Int32)), .unset, .unset, .unset, .unset, .unset, .unset, .unset, .unset, .unset, .unset, .unset] []))
        refine hst (fun _ kt => XS.iconst X0.here hx rfl (hb hby at_43) kt) ?_
        show G (s₁.setTop (mkF m 44 #[.val (.int sh), .val (.int a0v), .val (.int b0v), .val (.long p0), .second, .val (.long p1), .second, .val (.long p2), .second, .val (.int (sh &&& (3 : Int32))), .val (.int (0 : Int32)), .val (.int (0 : Int32)), .unset, .unset, .unset, .unset, .unset, .unset, .unset, .unset, .unset, .unset, .unset] [(.int (0 : Int32))]))
        refine hst (fun _ kt => XS.istore X0.here hx rfl (hb hby at_44) rfl (l' := #[.val (.int sh), .val (.int a0v), .val (.int b0v), .val (.long p0), .second, .val (.long p1), .second, .val (.long p2), .second, .val (.int (sh &&& (3 : Int32))), .val (.int (0 : Int32)), .val (.int (0 : Int32)), .val (.int (0 : Int32)), .unset, .unset, .unset, .unset, .unset, .unset, .unset, .unset, .unset, .unset]) rfl kt) ?_
        show G (s₁.setTop (mkF m 46 #[.val (.int sh), .val (.int a0v), .val (.int b0v), .val (.long p0), .second, .val (.long p1), .second, .val (.long p2), .second, .val (.int (sh &&& (3 : Int32))), .val (.int (0 : Int32)), .val (.int (0 : Int32)), .val (.int (0 : Int32)), .unset, .unset, .unset, .unset, .unset, .unset, .unset, .unset, .unset, .unset] []))
        exact J46 _ _ _ (Or.inl rfl) (Or.inl rfl) (Or.inl rfl)
      ·
        refine hst (fun _ kt => XS.ifNo X0.here hx rfl (hb hby at_36) rfl ((if0 _ _).trans (feq hh2).1) kt) ?_
        show G (s₁.setTop (mkF m 39 #[.val (.int sh), .val (.int a0v), .val (.int b0v), .val (.long p0), .second, .val (.long p1), .second, .val (.long p2), .second, .val (.int (sh &&& (3 : Int32))), .val (.int (0 : Int32)), .val (.int (0 : Int32)), .unset, .unset, .unset, .unset, .unset, .unset, .unset, .unset, .unset, .unset, .unset] []))
        refine hst (fun _ kt => XS.iconst X0.here hx rfl (hb hby at_39) kt) ?_
        show G (s₁.setTop (mkF m 40 #[.val (.int sh), .val (.int a0v), .val (.int b0v), .val (.long p0), .second, .val (.long p1), .second, .val (.long p2), .second, .val (.int (sh &&& (3 : Int32))), .val (.int (0 : Int32)), .val (.int (0 : Int32)), .unset, .unset, .unset, .unset, .unset, .unset, .unset, .unset, .unset, .unset, .unset] [(.int (1 : Int32))]))
        refine hst (fun _ kt => XS.goto X0.here hx rfl (pc0 := 40) (pc' := 44) rfl (hb hby at_40) (by decide) (by decide) kt) ?_
        show G (s₁.setTop (mkF m 44 #[.val (.int sh), .val (.int a0v), .val (.int b0v), .val (.long p0), .second, .val (.long p1), .second, .val (.long p2), .second, .val (.int (sh &&& (3 : Int32))), .val (.int (0 : Int32)), .val (.int (0 : Int32)), .unset, .unset, .unset, .unset, .unset, .unset, .unset, .unset, .unset, .unset, .unset] [(.int (1 : Int32))]))
        refine hst (fun _ kt => XS.istore X0.here hx rfl (hb hby at_44) rfl (l' := #[.val (.int sh), .val (.int a0v), .val (.int b0v), .val (.long p0), .second, .val (.long p1), .second, .val (.long p2), .second, .val (.int (sh &&& (3 : Int32))), .val (.int (0 : Int32)), .val (.int (0 : Int32)), .val (.int (1 : Int32)), .unset, .unset, .unset, .unset, .unset, .unset, .unset, .unset, .unset, .unset]) rfl kt) ?_
        show G (s₁.setTop (mkF m 46 #[.val (.int sh), .val (.int a0v), .val (.int b0v), .val (.long p0), .second, .val (.long p1), .second, .val (.long p2), .second, .val (.int (sh &&& (3 : Int32))), .val (.int (0 : Int32)), .val (.int (0 : Int32)), .val (.int (1 : Int32)), .unset, .unset, .unset, .unset, .unset, .unset, .unset, .unset, .unset, .unset] []))
        exact J46 _ _ _ (Or.inl rfl) (Or.inl rfl) (Or.inr rfl)
    ·
      refine hst (fun _ kt => XS.ifNo X0.here hx rfl (hb hby at_22) rfl ((if0 _ _).trans (feq hh1).1) kt) ?_
      show G (s₁.setTop (mkF m 25 #[.val (.int sh), .val (.int a0v), .val (.int b0v), .val (.long p0), .second, .val (.long p1), .second, .val (.long p2), .second, .val (.int (sh &&& (3 : Int32))), .val (.int (0 : Int32)), .unset, .unset, .unset, .unset, .unset, .unset, .unset, .unset, .unset, .unset, .unset, .unset] []))
      refine hst (fun _ kt => XS.iconst X0.here hx rfl (hb hby at_25) kt) ?_
      show G (s₁.setTop (mkF m 26 #[.val (.int sh), .val (.int a0v), .val (.int b0v), .val (.long p0), .second, .val (.long p1), .second, .val (.long p2), .second, .val (.int (sh &&& (3 : Int32))), .val (.int (0 : Int32)), .unset, .unset, .unset, .unset, .unset, .unset, .unset, .unset, .unset, .unset, .unset, .unset] [(.int (1 : Int32))]))
      refine hst (fun _ kt => XS.goto X0.here hx rfl (pc0 := 26) (pc' := 30) rfl (hb hby at_26) (by decide) (by decide) kt) ?_
      show G (s₁.setTop (mkF m 30 #[.val (.int sh), .val (.int a0v), .val (.int b0v), .val (.long p0), .second, .val (.long p1), .second, .val (.long p2), .second, .val (.int (sh &&& (3 : Int32))), .val (.int (0 : Int32)), .unset, .unset, .unset, .unset, .unset, .unset, .unset, .unset, .unset, .unset, .unset, .unset] [(.int (1 : Int32))]))
      refine hst (fun _ kt => XS.istore X0.here hx rfl (hb hby at_30) rfl (l' := #[.val (.int sh), .val (.int a0v), .val (.int b0v), .val (.long p0), .second, .val (.long p1), .second, .val (.long p2), .second, .val (.int (sh &&& (3 : Int32))), .val (.int (0 : Int32)), .val (.int (1 : Int32)), .unset, .unset, .unset, .unset, .unset, .unset, .unset, .unset, .unset, .unset, .unset]) rfl kt) ?_
      show G (s₁.setTop (mkF m 32 #[.val (.int sh), .val (.int a0v), .val (.int b0v), .val (.long p0), .second, .val (.long p1), .second, .val (.long p2), .second, .val (.int (sh &&& (3 : Int32))), .val (.int (0 : Int32)), .val (.int (1 : Int32)), .unset, .unset, .unset, .unset, .unset, .unset, .unset, .unset, .unset, .unset, .unset] []))
      refine hst (fun _ kt => XS.iloadN X0.here hx rfl (hb hby at_32) rfl kt) ?_
      show G (s₁.setTop (mkF m 33 #[.val (.int sh), .val (.int a0v), .val (.int b0v), .val (.long p0), .second, .val (.long p1), .second, .val (.long p2), .second, .val (.int (sh &&& (3 : Int32))), .val (.int (0 : Int32)), .val (.int (1 : Int32)), .unset, .unset, .unset, .unset, .unset, .unset, .unset, .unset, .unset, .unset, .unset] [(.int sh)]))
      refine hst (fun _ kt => XS.bipush X0.here hx rfl (hb hby at_33) kt) ?_
      show G (s₁.setTop (mkF m 35 #[.val (.int sh), .val (.int a0v), .val (.int b0v), .val (.long p0), .second, .val (.long p1), .second, .val (.long p2), .second, .val (.int (sh &&& (3 : Int32))), .val (.int (0 : Int32)), .val (.int (1 : Int32)), .unset, .unset, .unset, .unset, .unset, .unset, .unset, .unset, .unset, .unset, .unset] [(.int (16 : Int32)), (.int sh)]))
      refine hst (fun _ kt => XS.iand X0.here hx rfl (hb hby at_35) rfl kt) ?_
      show G (s₁.setTop (mkF m 36 #[.val (.int sh), .val (.int a0v), .val (.int b0v), .val (.long p0), .second, .val (.long p1), .second, .val (.long p2), .second, .val (.int (sh &&& (3 : Int32))), .val (.int (0 : Int32)), .val (.int (1 : Int32)), .unset, .unset, .unset, .unset, .unset, .unset, .unset, .unset, .unset, .unset, .unset] [(.int (sh &&& (16 : Int32)))]))
      by_cases hh2 : (sh &&& (16 : Int32)) = (0 : Int32)
      ·
        refine hst (fun _ kt => XS.ifYes X0.here hx rfl (pc0 := 36) (pc' := 43) rfl (hb hby at_36) rfl ((if0 _ _).trans (teq hh2).1) (by decide) (by decide) kt) ?_
        show G (s₁.setTop (mkF m 43 #[.val (.int sh), .val (.int a0v), .val (.int b0v), .val (.long p0), .second, .val (.long p1), .second, .val (.long p2), .second, .val (.int (sh &&& (3 : Int32))), .val (.int (0 : Int32)), .val (.int (1 : Int32)), .unset, .unset, .unset, .unset, .unset, .unset, .unset, .unset, .unset, .unset, .unset] []))
        refine hst (fun _ kt => XS.iconst X0.here hx rfl (hb hby at_43) kt) ?_
        show G (s₁.setTop (mkF m 44 #[.val (.int sh), .val (.int a0v), .val (.int b0v), .val (.long p0), .second, .val (.long p1), .second, .val (.long p2), .second, .val (.int (sh &&& (3 : Int32))), .val (.int (0 : Int32)), .val (.int (1 : Int32)), .unset, .unset, .unset, .unset, .unset, .unset, .unset, .unset, .unset, .unset, .unset] [(.int (0 : Int32))]))
        refine hst (fun _ kt => XS.istore X0.here hx rfl (hb hby at_44) rfl (l' := #[.val (.int sh), .val (.int a0v), .val (.int b0v), .val (.long p0), .second, .val (.long p1), .second, .val (.long p2), .second, .val (.int (sh &&& (3 : Int32))), .val (.int (0 : Int32)), .val (.int (1 : Int32)), .val (.int (0 : Int32)), .unset, .unset, .unset, .unset, .unset, .unset, .unset, .unset, .unset, .unset]) rfl kt) ?_
        show G (s₁.setTop (mkF m 46 #[.val (.int sh), .val (.int a0v), .val (.int b0v), .val (.long p0), .second, .val (.long p1), .second, .val (.long p2), .second, .val (.int (sh &&& (3 : Int32))), .val (.int (0 : Int32)), .val (.int (1 : Int32)), .val (.int (0 : Int32)), .unset, .unset, .unset, .unset, .unset, .unset, .unset, .unset, .unset, .unset] []))
        exact J46 _ _ _ (Or.inl rfl) (Or.inr rfl) (Or.inl rfl)
      ·
        refine hst (fun _ kt => XS.ifNo X0.here hx rfl (hb hby at_36) rfl ((if0 _ _).trans (feq hh2).1) kt) ?_
        show G (s₁.setTop (mkF m 39 #[.val (.int sh), .val (.int a0v), .val (.int b0v), .val (.long p0), .second, .val (.long p1), .second, .val (.long p2), .second, .val (.int (sh &&& (3 : Int32))), .val (.int (0 : Int32)), .val (.int (1 : Int32)), .unset, .unset, .unset, .unset, .unset, .unset, .unset, .unset, .unset, .unset, .unset] []))
        refine hst (fun _ kt => XS.iconst X0.here hx rfl (hb hby at_39) kt) ?_
        show G (s₁.setTop (mkF m 40 #[.val (.int sh), .val (.int a0v), .val (.int b0v), .val (.long p0), .second, .val (.long p1), .second, .val (.long p2), .second, .val (.int (sh &&& (3 : Int32))), .val (.int (0 : Int32)), .val (.int (1 : Int32)), .unset, .unset, .unset, .unset, .unset, .unset, .unset, .unset, .unset, .unset, .unset] [(.int (1 : Int32))]))
        refine hst (fun _ kt => XS.goto X0.here hx rfl (pc0 := 40) (pc' := 44) rfl (hb hby at_40) (by decide) (by decide) kt) ?_
        show G (s₁.setTop (mkF m 44 #[.val (.int sh), .val (.int a0v), .val (.int b0v), .val (.long p0), .second, .val (.long p1), .second, .val (.long p2), .second, .val (.int (sh &&& (3 : Int32))), .val (.int (0 : Int32)), .val (.int (1 : Int32)), .unset, .unset, .unset, .unset, .unset, .unset, .unset, .unset, .unset, .unset, .unset] [(.int (1 : Int32))]))
        refine hst (fun _ kt => XS.istore X0.here hx rfl (hb hby at_44) rfl (l' := #[.val (.int sh), .val (.int a0v), .val (.int b0v), .val (.long p0), .second, .val (.long p1), .second, .val (.long p2), .second, .val (.int (sh &&& (3 : Int32))), .val (.int (0 : Int32)), .val (.int (1 : Int32)), .val (.int (1 : Int32)), .unset, .unset, .unset, .unset, .unset, .unset, .unset, .unset, .unset, .unset]) rfl kt) ?_
        show G (s₁.setTop (mkF m 46 #[.val (.int sh), .val (.int a0v), .val (.int b0v), .val (.long p0), .second, .val (.long p1), .second, .val (.long p2), .second, .val (.int (sh &&& (3 : Int32))), .val (.int (0 : Int32)), .val (.int (1 : Int32)), .val (.int (1 : Int32)), .unset, .unset, .unset, .unset, .unset, .unset, .unset, .unset, .unset, .unset] []))
        exact J46 _ _ _ (Or.inl rfl) (Or.inr rfl) (Or.inr rfl)
  ·
    refine hst (fun _ kt => XS.ifNo X0.here hx rfl (hb hby at_8) rfl ((if0 _ _).trans (feq hh0).1) kt) ?_
    show G (s₁.setTop (mkF m 11 #[.val (.int sh), .val (.int a0v), .val (.int b0v), .val (.long p0), .second, .val (.long p1), .second, .val (.long p2), .second, .val (.int (sh &&& (3 : Int32))), .unset, .unset, .unset, .unset, .unset, .unset, .unset, .unset, .unset, .unset, .unset, .unset, .unset] []))
    refine hst (fun _ kt => XS.iconst X0.here hx rfl (hb hby at_11) kt) ?_
    show G (s₁.setTop (mkF m 12 #[.val (.int sh), .val (.int a0v), .val (.int b0v), .val (.long p0), .second, .val (.long p1), .second, .val (.long p2), .second, .val (.int (sh &&& (3 : Int32))), .unset, .unset, .unset, .unset, .unset, .unset, .unset, .unset, .unset, .unset, .unset, .unset, .unset] [(.int (1 : Int32))]))
    refine hst (fun _ kt => XS.goto X0.here hx rfl (pc0 := 12) (pc' := 16) rfl (hb hby at_12) (by decide) (by decide) kt) ?_
    show G (s₁.setTop (mkF m 16 #[.val (.int sh), .val (.int a0v), .val (.int b0v), .val (.long p0), .second, .val (.long p1), .second, .val (.long p2), .second, .val (.int (sh &&& (3 : Int32))), .unset, .unset, .unset, .unset, .unset, .unset, .unset, .unset, .unset, .unset, .unset, .unset, .unset] [(.int (1 : Int32))]))
    refine hst (fun _ kt => XS.istore X0.here hx rfl (hb hby at_16) rfl (l' := #[.val (.int sh), .val (.int a0v), .val (.int b0v), .val (.long p0), .second, .val (.long p1), .second, .val (.long p2), .second, .val (.int (sh &&& (3 : Int32))), .val (.int (1 : Int32)), .unset, .unset, .unset, .unset, .unset, .unset, .unset, .unset, .unset, .unset, .unset, .unset]) rfl kt) ?_
    show G (s₁.setTop (mkF m 18 #[.val (.int sh), .val (.int a0v), .val (.int b0v), .val (.long p0), .second, .val (.long p1), .second, .val (.long p2), .second, .val (.int (sh &&& (3 : Int32))), .val (.int (1 : Int32)), .unset, .unset, .unset, .unset, .unset, .unset, .unset, .unset, .unset, .unset, .unset, .unset] []))
    refine hst (fun _ kt => XS.iloadN X0.here hx rfl (hb hby at_18) rfl kt) ?_
    show G (s₁.setTop (mkF m 19 #[.val (.int sh), .val (.int a0v), .val (.int b0v), .val (.long p0), .second, .val (.long p1), .second, .val (.long p2), .second, .val (.int (sh &&& (3 : Int32))), .val (.int (1 : Int32)), .unset, .unset, .unset, .unset, .unset, .unset, .unset, .unset, .unset, .unset, .unset, .unset] [(.int sh)]))
    refine hst (fun _ kt => XS.bipush X0.here hx rfl (hb hby at_19) kt) ?_
    show G (s₁.setTop (mkF m 21 #[.val (.int sh), .val (.int a0v), .val (.int b0v), .val (.long p0), .second, .val (.long p1), .second, .val (.long p2), .second, .val (.int (sh &&& (3 : Int32))), .val (.int (1 : Int32)), .unset, .unset, .unset, .unset, .unset, .unset, .unset, .unset, .unset, .unset, .unset, .unset] [(.int (8 : Int32)), (.int sh)]))
    refine hst (fun _ kt => XS.iand X0.here hx rfl (hb hby at_21) rfl kt) ?_
    show G (s₁.setTop (mkF m 22 #[.val (.int sh), .val (.int a0v), .val (.int b0v), .val (.long p0), .second, .val (.long p1), .second, .val (.long p2), .second, .val (.int (sh &&& (3 : Int32))), .val (.int (1 : Int32)), .unset, .unset, .unset, .unset, .unset, .unset, .unset, .unset, .unset, .unset, .unset, .unset] [(.int (sh &&& (8 : Int32)))]))
    by_cases hh1 : (sh &&& (8 : Int32)) = (0 : Int32)
    ·
      refine hst (fun _ kt => XS.ifYes X0.here hx rfl (pc0 := 22) (pc' := 29) rfl (hb hby at_22) rfl ((if0 _ _).trans (teq hh1).1) (by decide) (by decide) kt) ?_
      show G (s₁.setTop (mkF m 29 #[.val (.int sh), .val (.int a0v), .val (.int b0v), .val (.long p0), .second, .val (.long p1), .second, .val (.long p2), .second, .val (.int (sh &&& (3 : Int32))), .val (.int (1 : Int32)), .unset, .unset, .unset, .unset, .unset, .unset, .unset, .unset, .unset, .unset, .unset, .unset] []))
      refine hst (fun _ kt => XS.iconst X0.here hx rfl (hb hby at_29) kt) ?_
      show G (s₁.setTop (mkF m 30 #[.val (.int sh), .val (.int a0v), .val (.int b0v), .val (.long p0), .second, .val (.long p1), .second, .val (.long p2), .second, .val (.int (sh &&& (3 : Int32))), .val (.int (1 : Int32)), .unset, .unset, .unset, .unset, .unset, .unset, .unset, .unset, .unset, .unset, .unset, .unset] [(.int (0 : Int32))]))
      refine hst (fun _ kt => XS.istore X0.here hx rfl (hb hby at_30) rfl (l' := #[.val (.int sh), .val (.int a0v), .val (.int b0v), .val (.long p0), .second, .val (.long p1), .second, .val (.long p2), .second, .val (.int (sh &&& (3 : Int32))), .val (.int (1 : Int32)), .val (.int (0 : Int32)), .unset, .unset, .unset, .unset, .unset, .unset, .unset, .unset, .unset, .unset, .unset]) rfl kt) ?_
      show G (s₁.setTop (mkF m 32 #[.val (.int sh), .val (.int a0v), .val (.int b0v), .val (.long p0), .second, .val (.long p1), .second, .val (.long p2), .second, .val (.int (sh &&& (3 : Int32))), .val (.int (1 : Int32)), .val (.int (0 : Int32)), .unset, .unset, .unset, .unset, .unset, .unset, .unset, .unset, .unset, .unset, .unset] []))
      refine hst (fun _ kt => XS.iloadN X0.here hx rfl (hb hby at_32) rfl kt) ?_
      show G (s₁.setTop (mkF m 33 #[.val (.int sh), .val (.int a0v), .val (.int b0v), .val (.long p0), .second, .val (.long p1), .second, .val (.long p2), .second, .val (.int (sh &&& (3 : Int32))), .val (.int (1 : Int32)), .val (.int (0 : Int32)), .unset, .unset, .unset, .unset, .unset, .unset, .unset, .unset, .unset, .unset, .unset] [(.int sh)]))
      refine hst (fun _ kt => XS.bipush X0.here hx rfl (hb hby at_33) kt) ?_
      show G (s₁.setTop (mkF m 35 #[.val (.int sh), .val (.int a0v), .val (.int b0v), .val (.long p0), .second, .val (.long p1), .second, .val (.long p2), .second, .val (.int (sh &&& (3 : Int32))), .val (.int (1 : Int32)), .val (.int (0 : Int32)), .unset, .unset, .unset, .unset, .unset, .unset, .unset, .unset, .unset, .unset, .unset] [(.int (16 : Int32)), (.int sh)]))
      refine hst (fun _ kt => XS.iand X0.here hx rfl (hb hby at_35) rfl kt) ?_
      show G (s₁.setTop (mkF m 36 #[.val (.int sh), .val (.int a0v), .val (.int b0v), .val (.long p0), .second, .val (.long p1), .second, .val (.long p2), .second, .val (.int (sh &&& (3 : Int32))), .val (.int (1 : Int32)), .val (.int (0 : Int32)), .unset, .unset, .unset, .unset, .unset, .unset, .unset, .unset, .unset, .unset, .unset] [(.int (sh &&& (16 : Int32)))]))
      by_cases hh2 : (sh &&& (16 : Int32)) = (0 : Int32)
      ·
        refine hst (fun _ kt => XS.ifYes X0.here hx rfl (pc0 := 36) (pc' := 43) rfl (hb hby at_36) rfl ((if0 _ _).trans (teq hh2).1) (by decide) (by decide) kt) ?_
        show G (s₁.setTop (mkF m 43 #[.val (.int sh), .val (.int a0v), .val (.int b0v), .val (.long p0), .second, .val (.long p1), .second, .val (.long p2), .second, .val (.int (sh &&& (3 : Int32))), .val (.int (1 : Int32)), .val (.int (0 : Int32)), .unset, .unset, .unset, .unset, .unset, .unset, .unset, .unset, .unset, .unset, .unset] []))
        refine hst (fun _ kt => XS.iconst X0.here hx rfl (hb hby at_43) kt) ?_
        show G (s₁.setTop (mkF m 44 #[.val (.int sh), .val (.int a0v), .val (.int b0v), .val (.long p0), .second, .val (.long p1), .second, .val (.long p2), .second, .val (.int (sh &&& (3 : Int32))), .val (.int (1 : Int32)), .val (.int (0 : Int32)), .unset, .unset, .unset, .unset, .unset, .unset, .unset, .unset, .unset, .unset, .unset] [(.int (0 : Int32))]))
        refine hst (fun _ kt => XS.istore X0.here hx rfl (hb hby at_44) rfl (l' := #[.val (.int sh), .val (.int a0v), .val (.int b0v), .val (.long p0), .second, .val (.long p1), .second, .val (.long p2), .second, .val (.int (sh &&& (3 : Int32))), .val (.int (1 : Int32)), .val (.int (0 : Int32)), .val (.int (0 : Int32)), .unset, .unset, .unset, .unset, .unset, .unset, .unset, .unset, .unset, .unset]) rfl kt) ?_
        show G (s₁.setTop (mkF m 46 #[.val (.int sh), .val (.int a0v), .val (.int b0v), .val (.long p0), .second, .val (.long p1), .second, .val (.long p2), .second, .val (.int (sh &&& (3 : Int32))), .val (.int (1 : Int32)), .val (.int (0 : Int32)), .val (.int (0 : Int32)), .unset, .unset, .unset, .unset, .unset, .unset, .unset, .unset, .unset, .unset] []))
        exact J46 _ _ _ (Or.inr rfl) (Or.inl rfl) (Or.inl rfl)
      ·
        refine hst (fun _ kt => XS.ifNo X0.here hx rfl (hb hby at_36) rfl ((if0 _ _).trans (feq hh2).1) kt) ?_
        show G (s₁.setTop (mkF m 39 #[.val (.int sh), .val (.int a0v), .val (.int b0v), .val (.long p0), .second, .val (.long p1), .second, .val (.long p2), .second, .val (.int (sh &&& (3 : Int32))), .val (.int (1 : Int32)), .val (.int (0 : Int32)), .unset, .unset, .unset, .unset, .unset, .unset, .unset, .unset, .unset, .unset, .unset] []))
        refine hst (fun _ kt => XS.iconst X0.here hx rfl (hb hby at_39) kt) ?_
        show G (s₁.setTop (mkF m 40 #[.val (.int sh), .val (.int a0v), .val (.int b0v), .val (.long p0), .second, .val (.long p1), .second, .val (.long p2), .second, .val (.int (sh &&& (3 : Int32))), .val (.int (1 : Int32)), .val (.int (0 : Int32)), .unset, .unset, .unset, .unset, .unset, .unset, .unset, .unset, .unset, .unset, .unset] [(.int (1 : Int32))]))
        refine hst (fun _ kt => XS.goto X0.here hx rfl (pc0 := 40) (pc' := 44) rfl (hb hby at_40) (by decide) (by decide) kt) ?_
        show G (s₁.setTop (mkF m 44 #[.val (.int sh), .val (.int a0v), .val (.int b0v), .val (.long p0), .second, .val (.long p1), .second, .val (.long p2), .second, .val (.int (sh &&& (3 : Int32))), .val (.int (1 : Int32)), .val (.int (0 : Int32)), .unset, .unset, .unset, .unset, .unset, .unset, .unset, .unset, .unset, .unset, .unset] [(.int (1 : Int32))]))
        refine hst (fun _ kt => XS.istore X0.here hx rfl (hb hby at_44) rfl (l' := #[.val (.int sh), .val (.int a0v), .val (.int b0v), .val (.long p0), .second, .val (.long p1), .second, .val (.long p2), .second, .val (.int (sh &&& (3 : Int32))), .val (.int (1 : Int32)), .val (.int (0 : Int32)), .val (.int (1 : Int32)), .unset, .unset, .unset, .unset, .unset, .unset, .unset, .unset, .unset, .unset]) rfl kt) ?_
        show G (s₁.setTop (mkF m 46 #[.val (.int sh), .val (.int a0v), .val (.int b0v), .val (.long p0), .second, .val (.long p1), .second, .val (.long p2), .second, .val (.int (sh &&& (3 : Int32))), .val (.int (1 : Int32)), .val (.int (0 : Int32)), .val (.int (1 : Int32)), .unset, .unset, .unset, .unset, .unset, .unset, .unset, .unset, .unset, .unset] []))
        exact J46 _ _ _ (Or.inr rfl) (Or.inl rfl) (Or.inr rfl)
    ·
      refine hst (fun _ kt => XS.ifNo X0.here hx rfl (hb hby at_22) rfl ((if0 _ _).trans (feq hh1).1) kt) ?_
      show G (s₁.setTop (mkF m 25 #[.val (.int sh), .val (.int a0v), .val (.int b0v), .val (.long p0), .second, .val (.long p1), .second, .val (.long p2), .second, .val (.int (sh &&& (3 : Int32))), .val (.int (1 : Int32)), .unset, .unset, .unset, .unset, .unset, .unset, .unset, .unset, .unset, .unset, .unset, .unset] []))
      refine hst (fun _ kt => XS.iconst X0.here hx rfl (hb hby at_25) kt) ?_
      show G (s₁.setTop (mkF m 26 #[.val (.int sh), .val (.int a0v), .val (.int b0v), .val (.long p0), .second, .val (.long p1), .second, .val (.long p2), .second, .val (.int (sh &&& (3 : Int32))), .val (.int (1 : Int32)), .unset, .unset, .unset, .unset, .unset, .unset, .unset, .unset, .unset, .unset, .unset, .unset] [(.int (1 : Int32))]))
      refine hst (fun _ kt => XS.goto X0.here hx rfl (pc0 := 26) (pc' := 30) rfl (hb hby at_26) (by decide) (by decide) kt) ?_
      show G (s₁.setTop (mkF m 30 #[.val (.int sh), .val (.int a0v), .val (.int b0v), .val (.long p0), .second, .val (.long p1), .second, .val (.long p2), .second, .val (.int (sh &&& (3 : Int32))), .val (.int (1 : Int32)), .unset, .unset, .unset, .unset, .unset, .unset, .unset, .unset, .unset, .unset, .unset, .unset] [(.int (1 : Int32))]))
      refine hst (fun _ kt => XS.istore X0.here hx rfl (hb hby at_30) rfl (l' := #[.val (.int sh), .val (.int a0v), .val (.int b0v), .val (.long p0), .second, .val (.long p1), .second, .val (.long p2), .second, .val (.int (sh &&& (3 : Int32))), .val (.int (1 : Int32)), .val (.int (1 : Int32)), .unset, .unset, .unset, .unset, .unset, .unset, .unset, .unset, .unset, .unset, .unset]) rfl kt) ?_
      show G (s₁.setTop (mkF m 32 #[.val (.int sh), .val (.int a0v), .val (.int b0v), .val (.long p0), .second, .val (.long p1), .second, .val (.long p2), .second, .val (.int (sh &&& (3 : Int32))), .val (.int (1 : Int32)), .val (.int (1 : Int32)), .unset, .unset, .unset, .unset, .unset, .unset, .unset, .unset, .unset, .unset, .unset] []))
      refine hst (fun _ kt => XS.iloadN X0.here hx rfl (hb hby at_32) rfl kt) ?_
      show G (s₁.setTop (mkF m 33 #[.val (.int sh), .val (.int a0v), .val (.int b0v), .val (.long p0), .second, .val (.long p1), .second, .val (.long p2), .second, .val (.int (sh &&& (3 : Int32))), .val (.int (1 : Int32)), .val (.int (1 : Int32)), .unset, .unset, .unset, .unset, .unset, .unset, .unset, .unset, .unset, .unset, .unset] [(.int sh)]))
      refine hst (fun _ kt => XS.bipush X0.here hx rfl (hb hby at_33) kt) ?_
      show G (s₁.setTop (mkF m 35 #[.val (.int sh), .val (.int a0v), .val (.int b0v), .val (.long p0), .second, .val (.long p1), .second, .val (.long p2), .second, .val (.int (sh &&& (3 : Int32))), .val (.int (1 : Int32)), .val (.int (1 : Int32)), .unset, .unset, .unset, .unset, .unset, .unset, .unset, .unset, .unset, .unset, .unset] [(.int (16 : Int32)), (.int sh)]))
      refine hst (fun _ kt => XS.iand X0.here hx rfl (hb hby at_35) rfl kt) ?_
      show G (s₁.setTop (mkF m 36 #[.val (.int sh), .val (.int a0v), .val (.int b0v), .val (.long p0), .second, .val (.long p1), .second, .val (.long p2), .second, .val (.int (sh &&& (3 : Int32))), .val (.int (1 : Int32)), .val (.int (1 : Int32)), .unset, .unset, .unset, .unset, .unset, .unset, .unset, .unset, .unset, .unset, .unset] [(.int (sh &&& (16 : Int32)))]))
      by_cases hh2 : (sh &&& (16 : Int32)) = (0 : Int32)
      ·
        refine hst (fun _ kt => XS.ifYes X0.here hx rfl (pc0 := 36) (pc' := 43) rfl (hb hby at_36) rfl ((if0 _ _).trans (teq hh2).1) (by decide) (by decide) kt) ?_
        show G (s₁.setTop (mkF m 43 #[.val (.int sh), .val (.int a0v), .val (.int b0v), .val (.long p0), .second, .val (.long p1), .second, .val (.long p2), .second, .val (.int (sh &&& (3 : Int32))), .val (.int (1 : Int32)), .val (.int (1 : Int32)), .unset, .unset, .unset, .unset, .unset, .unset, .unset, .unset, .unset, .unset, .unset] []))
        refine hst (fun _ kt => XS.iconst X0.here hx rfl (hb hby at_43) kt) ?_
        show G (s₁.setTop (mkF m 44 #[.val (.int sh), .val (.int a0v), .val (.int b0v), .val (.long p0), .second, .val (.long p1), .second, .val (.long p2), .second, .val (.int (sh &&& (3 : Int32))), .val (.int (1 : Int32)), .val (.int (1 : Int32)), .unset, .unset, .unset, .unset, .unset, .unset, .unset, .unset, .unset, .unset, .unset] [(.int (0 : Int32))]))
        refine hst (fun _ kt => XS.istore X0.here hx rfl (hb hby at_44) rfl (l' := #[.val (.int sh), .val (.int a0v), .val (.int b0v), .val (.long p0), .second, .val (.long p1), .second, .val (.long p2), .second, .val (.int (sh &&& (3 : Int32))), .val (.int (1 : Int32)), .val (.int (1 : Int32)), .val (.int (0 : Int32)), .unset, .unset, .unset, .unset, .unset, .unset, .unset, .unset, .unset, .unset]) rfl kt) ?_
        show G (s₁.setTop (mkF m 46 #[.val (.int sh), .val (.int a0v), .val (.int b0v), .val (.long p0), .second, .val (.long p1), .second, .val (.long p2), .second, .val (.int (sh &&& (3 : Int32))), .val (.int (1 : Int32)), .val (.int (1 : Int32)), .val (.int (0 : Int32)), .unset, .unset, .unset, .unset, .unset, .unset, .unset, .unset, .unset, .unset] []))
        exact J46 _ _ _ (Or.inr rfl) (Or.inr rfl) (Or.inl rfl)
      ·
        refine hst (fun _ kt => XS.ifNo X0.here hx rfl (hb hby at_36) rfl ((if0 _ _).trans (feq hh2).1) kt) ?_
        show G (s₁.setTop (mkF m 39 #[.val (.int sh), .val (.int a0v), .val (.int b0v), .val (.long p0), .second, .val (.long p1), .second, .val (.long p2), .second, .val (.int (sh &&& (3 : Int32))), .val (.int (1 : Int32)), .val (.int (1 : Int32)), .unset, .unset, .unset, .unset, .unset, .unset, .unset, .unset, .unset, .unset, .unset] []))
        refine hst (fun _ kt => XS.iconst X0.here hx rfl (hb hby at_39) kt) ?_
        show G (s₁.setTop (mkF m 40 #[.val (.int sh), .val (.int a0v), .val (.int b0v), .val (.long p0), .second, .val (.long p1), .second, .val (.long p2), .second, .val (.int (sh &&& (3 : Int32))), .val (.int (1 : Int32)), .val (.int (1 : Int32)), .unset, .unset, .unset, .unset, .unset, .unset, .unset, .unset, .unset, .unset, .unset] [(.int (1 : Int32))]))
        refine hst (fun _ kt => XS.goto X0.here hx rfl (pc0 := 40) (pc' := 44) rfl (hb hby at_40) (by decide) (by decide) kt) ?_
        show G (s₁.setTop (mkF m 44 #[.val (.int sh), .val (.int a0v), .val (.int b0v), .val (.long p0), .second, .val (.long p1), .second, .val (.long p2), .second, .val (.int (sh &&& (3 : Int32))), .val (.int (1 : Int32)), .val (.int (1 : Int32)), .unset, .unset, .unset, .unset, .unset, .unset, .unset, .unset, .unset, .unset, .unset] [(.int (1 : Int32))]))
        refine hst (fun _ kt => XS.istore X0.here hx rfl (hb hby at_44) rfl (l' := #[.val (.int sh), .val (.int a0v), .val (.int b0v), .val (.long p0), .second, .val (.long p1), .second, .val (.long p2), .second, .val (.int (sh &&& (3 : Int32))), .val (.int (1 : Int32)), .val (.int (1 : Int32)), .val (.int (1 : Int32)), .unset, .unset, .unset, .unset, .unset, .unset, .unset, .unset, .unset, .unset]) rfl kt) ?_
        show G (s₁.setTop (mkF m 46 #[.val (.int sh), .val (.int a0v), .val (.int b0v), .val (.long p0), .second, .val (.long p1), .second, .val (.long p2), .second, .val (.int (sh &&& (3 : Int32))), .val (.int (1 : Int32)), .val (.int (1 : Int32)), .val (.int (1 : Int32)), .unset, .unset, .unset, .unset, .unset, .unset, .unset, .unset, .unset, .unset] []))
        exact J46 _ _ _ (Or.inr rfl) (Or.inr rfl) (Or.inr rfl)
set_option maxRecDepth 65536 in
set_option maxHeartbeats 40000000 in
theorem comes_1 {Post : Tables → Env → Array Value → State → Outcome → State → Prop} (hpost : ∀ tb e args s v u, (limb_1_1.after args s (.returned v) u = true ∧ limb_1_2.after args s (.returned v) u = true ∧ True) → FrameEnd s (.returned v) u (Jvm.fieldLocs frame_1_writes args s ++ Jvm.arrayLocs frame_1_arrays args s ++ Jvm.staticLocs frame_1_statics s) 32 4288 → Post tb e args s (.returned v) u) :
    ArmFor flags0 classFile x code maxLocals ret World_1 tables_1 room_1 Calls_1 rest_1 Pre_1 Post := by
  intro l hfl _ _ p e ha hc hk s m args below hf hA hF happ hP
  obtain ⟨hcalls, hrest, hpre⟩ := hP
  obtain ⟨-, -, -, hnamed, -, -, -, hat⟩ := (Spec.applies_iff hf).mp happ
  obtain ⟨hg, hn⟩ := and_e (Cond.before_iff.mp (show (Jvm.Cond.and given_1 narrow_1).before args s = true from hpre))
  obtain ⟨gc, g0⟩ := and_e hg
  obtain ⟨ga0, g1⟩ := and_e g0
  obtain ⟨ga1, g2⟩ := and_e g1
  obtain ⟨ga2, g3⟩ := and_e g2
  obtain ⟨ga3, g4⟩ := and_e g3
  obtain ⟨ga4, g5⟩ := and_e g4
  obtain ⟨w0, w1, w2, w3, w4, w5, rfl⟩ : ∃ w0 w1 w2 w3 w4 w5 : Value, args = #[w0, w1, w2, w3, w4, w5] := by
    have hs : args.size = 6 := by simpa [Cond.value, given_1] using gc
    obtain ⟨L⟩ := args
    match L, hs with
    | [w0, w1, w2, w3, w4, w5], _ => exact ⟨w0, w1, w2, w3, w4, w5, rfl⟩
  have hw := fun d (hd : d ∈ tables_1) => atoms_spec (ws := Jvm.Cond.code x code maxLocals ret :: tables_1) hat d (List.mem_cons_of_mem _ hd)
  have hfit : Fit s := fun {y c} hc i hi => by
    obtain ⟨ha, rfl⟩ := Array.getElem?_eq_some_iff.mp hc
    have q := List.all_eq_true.mp ((Array.all_eq_true_iff_forall_mem.mp hF) _ (Array.getElem_mem ha)) i (List.mem_range.mpr hi)
    simpa [Array.getElem?_eq_getElem hi] using q
  obtain ⟨i0, ei0⟩ := is_v ga0
  obtain rfl : w0 = (.int i0) := Option.some.inj ei0
  obtain ⟨i1, ei1⟩ := is_v ga1
  obtain rfl : w1 = (.int i1) := Option.some.inj ei1
  obtain ⟨i2, ei2⟩ := is_v ga2
  obtain rfl : w2 = (.int i2) := Option.some.inj ei2
  obtain ⟨i3, ei3⟩ := isL_v ga3
  obtain rfl : w3 = (.long i3) := Option.some.inj ei3
  obtain ⟨i4, ei4⟩ := isL_v ga4
  obtain rfl : w4 = (.long i4) := Option.some.inj ei4
  obtain ⟨i5, ei5⟩ := isL_v g5
  obtain rfl : w5 = (.long i5) := Option.some.inj ei5
  obtain ⟨n, o, h1, h2, h3, _, L, rfl, ⟨rfl, N⟩, hq⟩ := rm0 l s _ hw tables_1 i0 i1 i2 i3 i4 i5  s.heap s.heap.size (Nat.le_refl _)  p e ha hc hk s m _ below hf ((Spec.applies_iff_loose hf).mp happ).1 ⟨rfl, State.Warmed39.refl s, rfl⟩ trivial
  refine ⟨n, _, h1, h2, h3, hpost _ _ _ _ _ _ ⟨Cond.after_iff.mpr rfl, Cond.after_iff.mpr (eq_i res_at (Term.int_eval (1)) rfl), trivial⟩ ⟨hq.1, hq.2.1, (hq.2.2.sift fun y hy => Or.inr (N y hy)).mono (by decide) (by decide)⟩⟩
theorem main_1_1 : Claimed_1_1 := comes_1 fun _ _ _ _ _ _ h hF => ⟨h.1, hF⟩
theorem main_1_2 : Claimed_1_2 := comes_1 fun _ _ _ _ _ _ h hF => ⟨h.2.1, hF⟩
end Jvm.Pilot.@@N@@
namespace Jvm.Pilot.@@N@@
open Jvm Jvm.ClassFile Sem Op Lib Jvm.Free Jvm.Stand Jvm.Pilot.@@N@@.Jvm.D
/-! MADE BY PROGRAM (witnessworld.py) out of the Statement's table words and the real class files: 14 classes; the members and pool entries that the words name. The judged class is class 1, her method 2. -/
namespace start1
open Jvm.ClassFile
def u (s : String) : CpInfo := .utf8 (stringToUtf16 s)
/-- a pool by its gaps: so many unusable entries, then the entry; so many at the end -/
def gap : Nat → List CpInfo → List CpInfo
  | 0, r => r
  | n + 1, r => .unusable :: gap n r
def poolList (es : List (Nat × CpInfo)) (last : Nat) : List CpInfo := es.foldr (fun e r => gap e.1 (e.2 :: r)) (gap last [])
def pool (es : List (Nat × CpInfo)) (last : Nat) : Array CpInfo := ⟨poolList es last⟩
def fileOf (pool : Array CpInfo) (this : Nat) (attrs : Array Attribute := #[]) (ms : Array MethodInfo := #[]) (fl : Nat := 33) (sup : Nat := 0) (ifs : Array Nat := #[]) (fds : Array FieldInfo := #[]) : ClassFile where
  minorVersion := 0
  majorVersion := 65
  constantPool := pool
  accessFlags := fl
  thisClass := this
  superClass := sup
  interfaces := ifs
  fields := fds
  methods := ms
  attributes := attrs
def plain (name : String) (sup : Option ClassId) : Class where
  name := name
  kind := .ordinary
  loader := none
  accessFlags := 33
  super := sup
  interfaces := #[]
  cf := none
  fields := #[]
  methods := #[]
  instanceTypes := #[]
  staticTypes := #[]
  resolved := #[]
  callSites := []
  init := .initialized
  statics := none
  mirror := none

def pool0 : Array CpInfo := pool [(5, u "<init>"), (0, u "()V"), (1, .class_ 10), (1, u "java/lang/Object")] 113

def k0c0 : Code := { maxStack := 0, maxLocals := 1, code := object_method_1_code, exceptionTable := #[], attributes := #[] }
def k0m0 : Method := { name := "<init>", desc := "()V", sig := { parameters := [], returnType := none }, accessFlags := 1, code := some k0c0 }
/-- java/lang/Object -/
def k0 : Class := { plain "java/lang/Object" none with
  accessFlags := 33
  interfaces := #[]
  cf := some (fileOf pool0 8 #[] #[{ accessFlags := 1, nameIndex := 5, descriptorIndex := 6, attributes := #[] }] 33 0 #[] #[])
  fields := #[]
  methods := #[k0m0]
  instanceTypes := #[]
  staticTypes := #[]
  resolved := Array.replicate 124 none
  statics := none }

def pool1 : Array CpInfo := pool [(2, .class_ 4), (1, u "java/lang/Object"), (0, u "<init>"), (0, u "()V"), (0, .integer 2147483647), (0, .class_ 9), (0, u "com/example/tierfold/tierfold/simulation/SlotOrder$Block"), (0, .methodref 8 11), (0, .nameAndType 5 12), (0, u "(II)V"), (0, .fieldref 8 14), (0, .nameAndType 15 16), (0, u "numbers"), (0, u "[I"), (0, .class_ 18), (0, u "com/example/tierfold/tierfold/simulation/SlotOrder"), (0, .fieldref 8 20), (0, .nameAndType 21 22), (0, u "places"), (0, u "[J"), (0, .fieldref 8 24), (0, .nameAndType 25 26), (0, u "size"), (0, u "I"), (0, .fieldref 8 28), (0, .nameAndType 29 26), (0, u "oldest"), (2, .long 9223372036854775808), (1, .fieldref 8 35), (0, .nameAndType 36 37), (0, u "oldestPlace"), (0, u "J"), (0, .methodref 17 39), (0, .nameAndType 40 41), (0, u "findOldest"), (0, u "(Lcom/example/tierfold/tierfold/simulation/SlotOrder$Block;)V"), (0, .methodref 43 44), (0, .class_ 45), (0, .nameAndType 46 47), (0, u "com/example/tierfold/tierfold/simulation/SlotOrderFindOldestPinLaw"), (0, u "beats"), (0, u "(JIZJI)Z"), (3, u "law"), (0, u "(IIIJJJ)Z")] 5

def k1m0 : Method := { name := "<init>", desc := "()V", sig := { parameters := [], returnType := none }, accessFlags := 1, code := none }
def k1c1 : Code := { maxStack := 4, maxLocals := 7, code := method_2_code, exceptionTable := #[], attributes := #[] }
def k1m1 : Method := { name := "beats", desc := "(JIZJI)Z", sig := { parameters := [.long, .int, .boolean, .long, .int], returnType := some .boolean }, accessFlags := 10, code := some k1c1 }
def k1c2 : Code := { maxStack := 7, maxLocals := 23, code := code, exceptionTable := #[], attributes := #[] }
def k1m2 : Method := { name := "law", desc := "(IIIJJJ)Z", sig := { parameters := [.int, .int, .int, .long, .long, .long], returnType := some .boolean }, accessFlags := 9, code := some k1c2 }
/-- com/example/tierfold/tierfold/simulation/SlotOrderFindOldestPinLaw -/
def k1 : Class := { plain "com/example/tierfold/tierfold/simulation/SlotOrderFindOldestPinLaw" (some 0) with
  accessFlags := 49
  interfaces := #[]
  cf := some (fileOf pool1 43 #[] #[{ accessFlags := 1, nameIndex := 5, descriptorIndex := 6, attributes := #[] }, { accessFlags := 10, nameIndex := 46, descriptorIndex := 47, attributes := #[] }, { accessFlags := 9, nameIndex := 51, descriptorIndex := 52, attributes := #[] }] 49 2 #[] #[])
  fields := #[]
  methods := #[k1m0, k1m1, k1m2]
  instanceTypes := #[]
  staticTypes := #[]
  resolved := Array.replicate 58 none
  statics := none }

def pool2 : Array CpInfo := pool [(1, .class_ 2), (0, u "com/example/tierfold/tierfold/simulation/SlotOrder"), (0, .methodref 4 5), (0, .class_ 6), (0, .nameAndType 7 8), (0, u "java/lang/Object"), (0, u "<init>"), (0, u "()V"), (0, .fieldref 10 11), (0, .class_ 12), (0, .nameAndType 13 14), (0, u "com/example/tierfold/tierfold/simulation/SlotOrder$Block"), (0, u "numbers"), (0, u "[I"), (0, .fieldref 10 16), (0, .nameAndType 17 18), (0, u "lives"), (0, u "[J"), (0, .fieldref 10 20), (0, .nameAndType 21 18), (0, u "places"), (0, .fieldref 10 23), (0, .nameAndType 24 18), (0, u "bytesPerDoc"), (0, .fieldref 10 26), (0, .nameAndType 27 18), (0, u "aloneAt"), (0, .fieldref 10 29), (0, .nameAndType 30 14), (0, u "handles"), (0, .fieldref 10 32), (0, .nameAndType 33 34), (0, u "groups"), (0, u "[B"), (0, .fieldref 10 36), (0, .nameAndType 37 38), (0, u "watches"), (0, u "[Z"), (2, .long 9223372036854775807), (1, .fieldref 10 44), (0, .nameAndType 45 46), (0, u "leastSlack"), (0, u "J"), (0, .fieldref 10 48), (0, .nameAndType 49 50), (0, u "oldest"), (0, u "I"), (0, .fieldref 10 52), (0, .nameAndType 53 46), (0, u "leastHandled"), (0, .long 18446744073709551615), (1, .fieldref 10 57), (0, .nameAndType 58 46), (0, u "handledPerDoc"), (0, .fieldref 10 60), (0, .nameAndType 61 46), (0, u "heldCountedAt"), (0, .fieldref 10 63), (0, .nameAndType 64 50), (0, u "home"), (0, .fieldref 10 66), (0, .nameAndType 67 14), (0, u "handledIn"), (0, .fieldref 10 69), (0, .nameAndType 70 18), (0, u "handledPerDocsIn"), (2, u "oddLiveBytes"), (2, u "quotients"), (2, u "spares"), (2, u "docs"), (2, u "carries"), (0, u "size"), (0, u "held"), (0, u "bytesPerDocs"), (0, u "uneven"), (0, u "watched"), (0, u "handled"), (0, u "oldestPlace"), (0, u "shrankBy"), (0, u "floored"), (0, u "Z"), (0, u "heldAhead"), (0, u "dirty"), (0, u "dropped"), (0, u "(II)V")] 9

def k2c0 : Code := { maxStack := 3, maxLocals := 3, code := prog_102_method_1_code, exceptionTable := #[], attributes := #[] }
def k2m0 : Method := { name := "<init>", desc := "(II)V", sig := { parameters := [.int, .int], returnType := none }, accessFlags := 0, code := some k2c0 }
/-- com/example/tierfold/tierfold/simulation/SlotOrder$Block -/
def k2 : Class := { plain "com/example/tierfold/tierfold/simulation/SlotOrder$Block" (some 0) with
  accessFlags := 48
  interfaces := #[]
  cf := some (fileOf pool2 10 #[.nestHost 1] #[{ accessFlags := 0, nameIndex := 7, descriptorIndex := 99, attributes := #[] }] 48 4 #[] #[{ accessFlags := 16, nameIndex := 64, descriptorIndex := 50, attributes := #[] }, { accessFlags := 16, nameIndex := 13, descriptorIndex := 14, attributes := #[] }, { accessFlags := 16, nameIndex := 17, descriptorIndex := 18, attributes := #[] }, { accessFlags := 16, nameIndex := 21, descriptorIndex := 18, attributes := #[] }, { accessFlags := 16, nameIndex := 24, descriptorIndex := 18, attributes := #[] }, { accessFlags := 16, nameIndex := 27, descriptorIndex := 18, attributes := #[] }, { accessFlags := 16, nameIndex := 30, descriptorIndex := 14, attributes := #[] }, { accessFlags := 16, nameIndex := 33, descriptorIndex := 34, attributes := #[] }, { accessFlags := 16, nameIndex := 37, descriptorIndex := 38, attributes := #[] }, { accessFlags := 0, nameIndex := 73, descriptorIndex := 18, attributes := #[] }, { accessFlags := 0, nameIndex := 76, descriptorIndex := 18, attributes := #[] }, { accessFlags := 0, nameIndex := 79, descriptorIndex := 18, attributes := #[] }, { accessFlags := 0, nameIndex := 82, descriptorIndex := 18, attributes := #[] }, { accessFlags := 0, nameIndex := 85, descriptorIndex := 18, attributes := #[] }, { accessFlags := 0, nameIndex := 86, descriptorIndex := 50, attributes := #[] }, { accessFlags := 0, nameIndex := 87, descriptorIndex := 50, attributes := #[] }, { accessFlags := 0, nameIndex := 45, descriptorIndex := 46, attributes := #[] }, { accessFlags := 0, nameIndex := 88, descriptorIndex := 46, attributes := #[] }, { accessFlags := 0, nameIndex := 89, descriptorIndex := 50, attributes := #[] }, { accessFlags := 0, nameIndex := 90, descriptorIndex := 50, attributes := #[] }, { accessFlags := 0, nameIndex := 91, descriptorIndex := 50, attributes := #[] }, { accessFlags := 0, nameIndex := 49, descriptorIndex := 50, attributes := #[] }, { accessFlags := 0, nameIndex := 92, descriptorIndex := 46, attributes := #[] }, { accessFlags := 0, nameIndex := 53, descriptorIndex := 46, attributes := #[] }, { accessFlags := 16, nameIndex := 67, descriptorIndex := 14, attributes := #[] }, { accessFlags := 16, nameIndex := 70, descriptorIndex := 18, attributes := #[] }, { accessFlags := 0, nameIndex := 58, descriptorIndex := 46, attributes := #[] }, { accessFlags := 0, nameIndex := 93, descriptorIndex := 46, attributes := #[] }, { accessFlags := 0, nameIndex := 94, descriptorIndex := 95, attributes := #[] }, { accessFlags := 2, nameIndex := 96, descriptorIndex := 14, attributes := #[] }, { accessFlags := 2, nameIndex := 61, descriptorIndex := 46, attributes := #[] }, { accessFlags := 0, nameIndex := 97, descriptorIndex := 95, attributes := #[] }, { accessFlags := 2, nameIndex := 98, descriptorIndex := 95, attributes := #[] }])
  fields := #[{ name := "home", type := .int, accessFlags := 16, slot := 0, constantValue := 0 }, { name := "numbers", type := (.array .int), accessFlags := 16, slot := 1, constantValue := 0 }, { name := "lives", type := (.array .long), accessFlags := 16, slot := 2, constantValue := 0 }, { name := "places", type := (.array .long), accessFlags := 16, slot := 3, constantValue := 0 }, { name := "bytesPerDoc", type := (.array .long), accessFlags := 16, slot := 4, constantValue := 0 }, { name := "aloneAt", type := (.array .long), accessFlags := 16, slot := 5, constantValue := 0 }, { name := "handles", type := (.array .int), accessFlags := 16, slot := 6, constantValue := 0 }, { name := "groups", type := (.array .byte), accessFlags := 16, slot := 7, constantValue := 0 }, { name := "watches", type := (.array .boolean), accessFlags := 16, slot := 8, constantValue := 0 }, { name := "oddLiveBytes", type := (.array .long), accessFlags := 0, slot := 9, constantValue := 0 }, { name := "quotients", type := (.array .long), accessFlags := 0, slot := 10, constantValue := 0 }, { name := "spares", type := (.array .long), accessFlags := 0, slot := 11, constantValue := 0 }, { name := "docs", type := (.array .long), accessFlags := 0, slot := 12, constantValue := 0 }, { name := "carries", type := (.array .long), accessFlags := 0, slot := 13, constantValue := 0 }, { name := "size", type := .int, accessFlags := 0, slot := 14, constantValue := 0 }, { name := "held", type := .int, accessFlags := 0, slot := 15, constantValue := 0 }, { name := "leastSlack", type := .long, accessFlags := 0, slot := 16, constantValue := 0 }, { name := "bytesPerDocs", type := .long, accessFlags := 0, slot := 17, constantValue := 0 }, { name := "uneven", type := .int, accessFlags := 0, slot := 18, constantValue := 0 }, { name := "watched", type := .int, accessFlags := 0, slot := 19, constantValue := 0 }, { name := "handled", type := .int, accessFlags := 0, slot := 20, constantValue := 0 }, { name := "oldest", type := .int, accessFlags := 0, slot := 21, constantValue := 0 }, { name := "oldestPlace", type := .long, accessFlags := 0, slot := 22, constantValue := 0 }, { name := "leastHandled", type := .long, accessFlags := 0, slot := 23, constantValue := 0 }, { name := "handledIn", type := (.array .int), accessFlags := 16, slot := 24, constantValue := 0 }, { name := "handledPerDocsIn", type := (.array .long), accessFlags := 16, slot := 25, constantValue := 0 }, { name := "handledPerDoc", type := .long, accessFlags := 0, slot := 26, constantValue := 0 }, { name := "shrankBy", type := .long, accessFlags := 0, slot := 27, constantValue := 0 }, { name := "floored", type := .boolean, accessFlags := 0, slot := 28, constantValue := 0 }, { name := "heldAhead", type := (.array .int), accessFlags := 2, slot := 29, constantValue := 0 }, { name := "heldCountedAt", type := .long, accessFlags := 2, slot := 30, constantValue := 0 }, { name := "dirty", type := .boolean, accessFlags := 0, slot := 31, constantValue := 0 }, { name := "dropped", type := .boolean, accessFlags := 2, slot := 32, constantValue := 0 }]
  methods := #[k2m0]
  instanceTypes := #[.int, (.array .int), (.array .long), (.array .long), (.array .long), (.array .long), (.array .int), (.array .byte), (.array .boolean), (.array .long), (.array .long), (.array .long), (.array .long), (.array .long), .int, .int, .long, .long, .int, .int, .int, .int, .long, .long, (.array .int), (.array .long), .long, .long, .boolean, (.array .int), .long, .boolean, .boolean]
  staticTypes := #[]
  resolved := Array.replicate 109 none
  statics := none }

def pool3 : Array CpInfo := pool [(1, .class_ 2), (0, u "com/example/tierfold/tierfold/simulation/SlotOrder"), (1, .class_ 6), (1, u "java/lang/Object"), (2, .class_ 10), (0, u "com/example/tierfold/tierfold/simulation/SlotOrder$Block"), (2, u "blocks"), (0, u "[Lcom/example/tierfold/tierfold/simulation/SlotOrder$Block;"), (2, u "spare"), (2, u "merged"), (2, u "droppedBlocks"), (2, u "slotsAhead"), (0, u "[I"), (2, u "runStarts"), (0, u "[J"), (2, u "runLosts"), (2, u "runsAt"), (2, u "runHeap"), (4, u "takenFrom"), (0, u "J"), (2, u "takenTo"), (13, u "table"), (0, u "Lcom/example/tierfold/tierfold/simulation/SlotTable;"), (2, u "owner"), (0, u "Lcom/example/tierfold/tierfold/simulation/Shrinks$Owner;"), (2, u "groups"), (0, u "I"), (23, u "blockCount"), (22, .fieldref 9 120), (0, .nameAndType 121 72), (0, u "size"), (7, u "(Lcom/example/tierfold/tierfold/simulation/SlotOrder$Block;)V"), (6, u "entries"), (32, .fieldref 9 170), (0, .nameAndType 171 27), (0, u "numbers"), (15, .fieldref 9 188), (0, .nameAndType 189 31), (0, u "places"), (143, .fieldref 9 334), (0, .nameAndType 335 72), (0, u "oldest"), (0, .fieldref 9 337), (0, .nameAndType 338 46), (0, u "oldestPlace"), (2, u "holes"), (2, u "BY_LIVE"), (0, u "Ljava/util/Comparator;"), (23, .class_ 371), (1, u "com/example/tierfold/tierfold/simulation/SlotOrder$Former"), (5, u "mergedCount"), (21, u "counts"), (29, u "runCount"), (51, u "droppedCount"), (18, u "copying"), (0, u "Lcom/example/tierfold/tierfold/simulation/SlotOrder$Block;"), (24, u "spareCount"), (30, u "BLOCK"), (2, u "FORMED"), (1, u "SLACK"), (1, u "SPARE_HOLES"), (1, u "HOLE"), (1, u "UNKNOWN"), (1, u "NO_HANDLE"), (0, u "UNTOLD"), (0, u "NO_SIZE"), (0, u "NOWHERE"), (0, u "ONE_AT_A_TIME"), (14, u "findOldest")] 61

def k3c0 : Code := { maxStack := 4, maxLocals := 2, code := prog_101_method_17_code, exceptionTable := #[], attributes := #[] }
def k3m0 : Method := { name := "findOldest", desc := "(Lcom/example/tierfold/tierfold/simulation/SlotOrder$Block;)V", sig := { parameters := [(.object "com/example/tierfold/tierfold/simulation/SlotOrder$Block")], returnType := none }, accessFlags := 8, code := some k3c0 }
/-- com/example/tierfold/tierfold/simulation/SlotOrder -/
def k3 : Class := { plain "com/example/tierfold/tierfold/simulation/SlotOrder" (some 0) with
  accessFlags := 48
  interfaces := #[]
  cf := some (fileOf pool3 1 #[.nestMembers #[369, 9]] #[{ accessFlags := 8, nameIndex := 589, descriptorIndex := 129, attributes := #[] }] 48 4 #[] #[{ accessFlags := 24, nameIndex := 557, descriptorIndex := 72, attributes := #[] }, { accessFlags := 26, nameIndex := 560, descriptorIndex := 72, attributes := #[] }, { accessFlags := 26, nameIndex := 562, descriptorIndex := 72, attributes := #[] }, { accessFlags := 26, nameIndex := 564, descriptorIndex := 72, attributes := #[] }, { accessFlags := 24, nameIndex := 566, descriptorIndex := 72, attributes := #[] }, { accessFlags := 24, nameIndex := 568, descriptorIndex := 72, attributes := #[] }, { accessFlags := 24, nameIndex := 570, descriptorIndex := 72, attributes := #[] }, { accessFlags := 24, nameIndex := 571, descriptorIndex := 46, attributes := #[] }, { accessFlags := 26, nameIndex := 572, descriptorIndex := 46, attributes := #[] }, { accessFlags := 26, nameIndex := 573, descriptorIndex := 46, attributes := #[] }, { accessFlags := 26, nameIndex := 574, descriptorIndex := 46, attributes := #[] }, { accessFlags := 26, nameIndex := 344, descriptorIndex := 345, attributes := #[] }, { accessFlags := 18, nameIndex := 63, descriptorIndex := 64, attributes := #[] }, { accessFlags := 18, nameIndex := 67, descriptorIndex := 68, attributes := #[] }, { accessFlags := 18, nameIndex := 71, descriptorIndex := 72, attributes := #[] }, { accessFlags := 2, nameIndex := 13, descriptorIndex := 14, attributes := #[] }, { accessFlags := 2, nameIndex := 96, descriptorIndex := 72, attributes := #[] }, { accessFlags := 2, nameIndex := 17, descriptorIndex := 14, attributes := #[] }, { accessFlags := 2, nameIndex := 526, descriptorIndex := 72, attributes := #[] }, { accessFlags := 2, nameIndex := 20, descriptorIndex := 14, attributes := #[] }, { accessFlags := 2, nameIndex := 377, descriptorIndex := 72, attributes := #[] }, { accessFlags := 2, nameIndex := 500, descriptorIndex := 501, attributes := #[] }, { accessFlags := 2, nameIndex := 23, descriptorIndex := 14, attributes := #[] }, { accessFlags := 2, nameIndex := 481, descriptorIndex := 72, attributes := #[] }, { accessFlags := 2, nameIndex := 136, descriptorIndex := 72, attributes := #[] }, { accessFlags := 2, nameIndex := 341, descriptorIndex := 72, attributes := #[] }, { accessFlags := 2, nameIndex := 26, descriptorIndex := 27, attributes := #[] }, { accessFlags := 2, nameIndex := 399, descriptorIndex := 46, attributes := #[] }, { accessFlags := 2, nameIndex := 30, descriptorIndex := 31, attributes := #[] }, { accessFlags := 2, nameIndex := 34, descriptorIndex := 31, attributes := #[] }, { accessFlags := 2, nameIndex := 37, descriptorIndex := 31, attributes := #[] }, { accessFlags := 2, nameIndex := 40, descriptorIndex := 27, attributes := #[] }, { accessFlags := 2, nameIndex := 429, descriptorIndex := 72, attributes := #[] }, { accessFlags := 2, nameIndex := 45, descriptorIndex := 46, attributes := #[] }, { accessFlags := 2, nameIndex := 49, descriptorIndex := 46, attributes := #[] }])
  fields := #[{ name := "BLOCK", type := .int, accessFlags := 24, slot := 0, constantValue := 0 }, { name := "FORMED", type := .int, accessFlags := 26, slot := 1, constantValue := 0 }, { name := "SLACK", type := .int, accessFlags := 26, slot := 2, constantValue := 0 }, { name := "SPARE_HOLES", type := .int, accessFlags := 26, slot := 3, constantValue := 0 }, { name := "HOLE", type := .int, accessFlags := 24, slot := 4, constantValue := 0 }, { name := "UNKNOWN", type := .int, accessFlags := 24, slot := 5, constantValue := 0 }, { name := "NO_HANDLE", type := .int, accessFlags := 24, slot := 6, constantValue := 0 }, { name := "UNTOLD", type := .long, accessFlags := 24, slot := 7, constantValue := 0 }, { name := "NO_SIZE", type := .long, accessFlags := 26, slot := 8, constantValue := 0 }, { name := "NOWHERE", type := .long, accessFlags := 26, slot := 9, constantValue := 0 }, { name := "ONE_AT_A_TIME", type := .long, accessFlags := 26, slot := 10, constantValue := 0 }, { name := "BY_LIVE", type := (.object "java/util/Comparator"), accessFlags := 26, slot := 11, constantValue := 0 }, { name := "table", type := (.object "com/example/tierfold/tierfold/simulation/SlotTable"), accessFlags := 18, slot := 0, constantValue := 0 }, { name := "owner", type := (.object "com/example/tierfold/tierfold/simulation/Shrinks$Owner"), accessFlags := 18, slot := 1, constantValue := 0 }, { name := "groups", type := .int, accessFlags := 18, slot := 2, constantValue := 0 }, { name := "blocks", type := (.array (.object "com/example/tierfold/tierfold/simulation/SlotOrder$Block")), accessFlags := 2, slot := 3, constantValue := 0 }, { name := "blockCount", type := .int, accessFlags := 2, slot := 4, constantValue := 0 }, { name := "spare", type := (.array (.object "com/example/tierfold/tierfold/simulation/SlotOrder$Block")), accessFlags := 2, slot := 5, constantValue := 0 }, { name := "spareCount", type := .int, accessFlags := 2, slot := 6, constantValue := 0 }, { name := "merged", type := (.array (.object "com/example/tierfold/tierfold/simulation/SlotOrder$Block")), accessFlags := 2, slot := 7, constantValue := 0 }, { name := "mergedCount", type := .int, accessFlags := 2, slot := 8, constantValue := 0 }, { name := "copying", type := (.object "com/example/tierfold/tierfold/simulation/SlotOrder$Block"), accessFlags := 2, slot := 9, constantValue := 0 }, { name := "droppedBlocks", type := (.array (.object "com/example/tierfold/tierfold/simulation/SlotOrder$Block")), accessFlags := 2, slot := 10, constantValue := 0 }, { name := "droppedCount", type := .int, accessFlags := 2, slot := 11, constantValue := 0 }, { name := "entries", type := .int, accessFlags := 2, slot := 12, constantValue := 0 }, { name := "holes", type := .int, accessFlags := 2, slot := 13, constantValue := 0 }, { name := "slotsAhead", type := (.array .int), accessFlags := 2, slot := 14, constantValue := 0 }, { name := "counts", type := .long, accessFlags := 2, slot := 15, constantValue := 0 }, { name := "runStarts", type := (.array .long), accessFlags := 2, slot := 16, constantValue := 0 }, { name := "runLosts", type := (.array .long), accessFlags := 2, slot := 17, constantValue := 0 }, { name := "runsAt", type := (.array .long), accessFlags := 2, slot := 18, constantValue := 0 }, { name := "runHeap", type := (.array .int), accessFlags := 2, slot := 19, constantValue := 0 }, { name := "runCount", type := .int, accessFlags := 2, slot := 20, constantValue := 0 }, { name := "takenFrom", type := .long, accessFlags := 2, slot := 21, constantValue := 0 }, { name := "takenTo", type := .long, accessFlags := 2, slot := 22, constantValue := 0 }]
  methods := #[k3m0]
  instanceTypes := #[(.object "com/example/tierfold/tierfold/simulation/SlotTable"), (.object "com/example/tierfold/tierfold/simulation/Shrinks$Owner"), .int, (.array (.object "com/example/tierfold/tierfold/simulation/SlotOrder$Block")), .int, (.array (.object "com/example/tierfold/tierfold/simulation/SlotOrder$Block")), .int, (.array (.object "com/example/tierfold/tierfold/simulation/SlotOrder$Block")), .int, (.object "com/example/tierfold/tierfold/simulation/SlotOrder$Block"), (.array (.object "com/example/tierfold/tierfold/simulation/SlotOrder$Block")), .int, .int, .int, (.array .int), .long, (.array .long), (.array .long), (.array .long), (.array .int), .int, .long, .long]
  staticTypes := #[.int, .int, .int, .int, .int, .int, .int, .long, .long, .long, .long, (.object "java/util/Comparator")]
  resolved := Array.replicate 651 none
  statics := none }

def pool4 : Array CpInfo := pool [(1, u "java/lang/Cloneable"), (0, .class_ 1), (0, u "java/lang/Object"), (0, .class_ 3)] 3

/-- java/lang/Cloneable -/
def k4 : Class := { plain "java/lang/Cloneable" (some 0) with
  accessFlags := 1537
  interfaces := #[]
  cf := some (fileOf pool4 2 #[] #[] 1537 4 #[] #[])
  fields := #[]
  methods := #[]
  instanceTypes := #[]
  staticTypes := #[]
  resolved := Array.replicate 8 none
  statics := none }

def pool5 : Array CpInfo := pool [(1, u "java/io/Serializable"), (0, .class_ 1), (0, u "java/lang/Object"), (0, .class_ 3)] 3

/-- java/io/Serializable -/
def k5 : Class := { plain "java/io/Serializable" (some 0) with
  accessFlags := 1537
  interfaces := #[]
  cf := some (fileOf pool5 2 #[] #[] 1537 4 #[] #[])
  fields := #[]
  methods := #[]
  instanceTypes := #[]
  staticTypes := #[]
  resolved := Array.replicate 8 none
  statics := none }

/-- the primitive boolean -/
def k6 : Class := { plain "boolean" none with kind := .primitive 'Z', accessFlags := 0x411 }
/-- [Z -/
def k7 : Class := { plain "[Z" (some 0) with kind := .array 6 .boolean, interfaces := #[4, 5], accessFlags := 1041 }

/-- the primitive byte -/
def k8 : Class := { plain "byte" none with kind := .primitive 'B', accessFlags := 0x411 }
/-- [B -/
def k9 : Class := { plain "[B" (some 0) with kind := .array 8 .byte, interfaces := #[4, 5], accessFlags := 1041 }

/-- the primitive int -/
def k10 : Class := { plain "int" none with kind := .primitive 'I', accessFlags := 0x411 }
/-- [I -/
def k11 : Class := { plain "[I" (some 0) with kind := .array 10 .int, interfaces := #[4, 5], accessFlags := 1041 }

/-- the primitive long -/
def k12 : Class := { plain "long" none with kind := .primitive 'J', accessFlags := 0x411 }
/-- [J -/
def k13 : Class := { plain "[J" (some 0) with kind := .array 12 .long, interfaces := #[4, 5], accessFlags := 1041 }

def heap : Heap := #[]
def classes : Array Class := #[k0, k1, k2, k3, k4, k5, k6, k7, k8, k9, k10, k11, k12, k13]
def interned : List (Array UInt16 × Addr) := []
def slotsUsed : Nat := 0
def theMethod : MethodId := ⟨1, 2⟩
def args0 : Array Value := #[.int 5, .int 7, .int 4, .long 3, .long 9, .long 1]
def aboutOver (below : List Frame) : State where
  vm := { classes := classes, interned := interned.toArray }
  heap := heap
  slotsUsed := slotsUsed
  threads := #[{ frames := .invoking theMethod args0 :: below }]
def below0 : List Frame := [.native { method := ⟨0, 0⟩, args := #[] }]
def about1 : State := aboutOver below0
def p0 : Program := .bare "" "" ""
def e0 : Env := launch0.env 0 0 0
theorem w_frames : about1.frames = Frame.invoking theMethod args0 :: below0 := rfl
set_option maxRecDepth 65536 in
theorem w_args : argsFit about1.vm theMethod args0 = true := by decide +kernel
set_option maxRecDepth 65536 in
theorem w_heap : heapFits about1 = true := by decide +kernel
set_option maxRecDepth 65536 in
theorem w_runnable : about1.curStatus? = some .runnable := by decide +kernel
set_option maxRecDepth 65536 in
theorem w_alone : about1.alone = true := by decide +kernel
set_option maxRecDepth 65536 in
theorem w_named : about1.methodNamed? x = some theMethod := by decide +kernel
set_option maxRecDepth 65536 in
theorem w_hears : about1.hears theMethod below0 = true := by decide +kernel
set_option maxRecDepth 65536 in
theorem w_ripe : about1.ripe theMethod args0 below0 = true := by decide +kernel
theorem w_running : about1.status = .running := rfl
set_option maxRecDepth 65536 in
theorem w_room : about1.hasRoom e0.platform room_1 = true :=
  launch0.hasRoom_least _ room_1 (by decide +kernel) (by decide +kernel) (by decide +kernel) (by decide +kernel) (by decide +kernel) (by decide +kernel)
theorem allAtoms_all (ts : List Jvm.Cond) (a : Array Jvm.Value) (st : Jvm.State) : (allAtoms ts).before a st = ts.all (fun c => c.before a st) := by
  induction ts with
  | nil => rfl
  | cons c t ih =>
    show (Jvm.Cond.and c (allAtoms t)).before a st = _
    rw [Jvm.Cond.before_and, ih, List.all_cons]
def words1 : List Jvm.Cond := Jvm.Cond.code x code maxLocals ret :: tables_1
/-- a 'code' word, met by the world's own term for the bytes: nothing is compared byte by byte -/
theorem code_word {y : MethodName} {bytes : ByteArray} {mx : Nat} {rt : Option FieldType} {a : Array Value} {s : State} {m : MethodId} {meth : Method} {c : Code} (h1 : s.methodNamed? y = some m) (h2 : s.vm.method? m = some meth) (h3 : meth.code = some c) (h4 : c.code = bytes)
    (h5 : (c.maxLocals == mx && c.exceptionTable.isEmpty && decide (c.maxStack ≤ mostOperands) && decide (meth.sig.returnType = rt) && !meth.locks && decide (parseMethodDescriptor y.desc = some meth.sig)) = true) : (Jvm.Cond.code y bytes mx rt).before a s = true := by
  simp only [Bool.and_eq_true, beq_iff_eq, Bool.not_eq_true', decide_eq_true_eq] at h5
  obtain ⟨⟨⟨⟨⟨g1, g2⟩, g3⟩, g4⟩, g5⟩, g6⟩ := h5
  simp [Cond.before, Cond.holds, Cond.value, h1, h2, h3, h4, g1, g2, g3, g4, g5, g6]
def isCode : Jvm.Cond → Bool
  | .code _ _ _ _ => true
  | _ => false
theorem all_split {L : List Jvm.Cond} {P : Jvm.Cond → Bool} (h1 : L.all (fun c => isCode c || P c) = true) (h2 : ∀ c ∈ L.filter isCode, P c = true) : L.all P = true := by
  refine List.all_eq_true.mpr fun c hc => ?_
  have h := List.all_eq_true.mp h1 c hc
  rcases Bool.eq_false_or_eq_true (isCode c) with hi | hi
  · exact h2 c (List.mem_filter.mpr ⟨hc, hi⟩)
  · simpa [hi] using h
set_option maxRecDepth 65536 in
theorem w_c0 : (Jvm.Cond.code x code maxLocals ret).before args0 about1 = true := code_word (m := ⟨1, 2⟩) (meth := k1m2) (c := k1c2) (by decide +kernel) rfl rfl rfl (by decide +kernel)
set_option maxRecDepth 65536 in
theorem w_c1 : (Jvm.Cond.code ({ cls := "com/example/tierfold/tierfold/simulation/SlotOrder$Block", name := "<init>", desc := "(II)V" } : Jvm.MethodName) prog_102_method_1_code (3 : Nat) (Option.none : Option Jvm.ClassFile.FieldType)).before args0 about1 = true := code_word (m := ⟨2, 0⟩) (meth := k2m0) (c := k2c0) (by decide +kernel) rfl rfl rfl (by decide +kernel)
set_option maxRecDepth 65536 in
theorem w_c2 : (Jvm.Cond.code ({ cls := "java/lang/Object", name := "<init>", desc := "()V" } : Jvm.MethodName) object_method_1_code (1 : Nat) (Option.none : Option Jvm.ClassFile.FieldType)).before args0 about1 = true := code_word (m := ⟨0, 0⟩) (meth := k0m0) (c := k0c0) (by decide +kernel) rfl rfl rfl (by decide +kernel)
set_option maxRecDepth 65536 in
theorem w_c3 : (Jvm.Cond.code ({ cls := "com/example/tierfold/tierfold/simulation/SlotOrder", name := "findOldest", desc := "(Lcom/example/tierfold/tierfold/simulation/SlotOrder$Block;)V" } : Jvm.MethodName) prog_101_method_17_code (2 : Nat) (Option.none : Option Jvm.ClassFile.FieldType)).before args0 about1 = true := code_word (m := ⟨3, 0⟩) (meth := k3m0) (c := k3c0) (by decide +kernel) rfl rfl rfl (by decide +kernel)
set_option maxRecDepth 65536 in
theorem w_c4 : (Jvm.Cond.code ({ cls := "com/example/tierfold/tierfold/simulation/SlotOrderFindOldestPinLaw", name := "beats", desc := "(JIZJI)Z" } : Jvm.MethodName) method_2_code (7 : Nat) (Option.some Jvm.ClassFile.FieldType.boolean)).before args0 about1 = true := code_word (m := ⟨1, 1⟩) (meth := k1m1) (c := k1c1) (by decide +kernel) rfl rfl rfl (by decide +kernel)
def codes1 : List Jvm.Cond := [Jvm.Cond.code x code maxLocals ret, Jvm.Cond.code ({ cls := "com/example/tierfold/tierfold/simulation/SlotOrder$Block", name := "<init>", desc := "(II)V" } : Jvm.MethodName) prog_102_method_1_code (3 : Nat) (Option.none : Option Jvm.ClassFile.FieldType), Jvm.Cond.code ({ cls := "java/lang/Object", name := "<init>", desc := "()V" } : Jvm.MethodName) object_method_1_code (1 : Nat) (Option.none : Option Jvm.ClassFile.FieldType), Jvm.Cond.code ({ cls := "com/example/tierfold/tierfold/simulation/SlotOrder", name := "findOldest", desc := "(Lcom/example/tierfold/tierfold/simulation/SlotOrder$Block;)V" } : Jvm.MethodName) prog_101_method_17_code (2 : Nat) (Option.none : Option Jvm.ClassFile.FieldType), Jvm.Cond.code ({ cls := "com/example/tierfold/tierfold/simulation/SlotOrderFindOldestPinLaw", name := "beats", desc := "(JIZJI)Z" } : Jvm.MethodName) method_2_code (7 : Nat) (Option.some Jvm.ClassFile.FieldType.boolean)]
set_option maxRecDepth 65536 in
theorem codes_eq : words1.filter isCode = codes1 := rfl
theorem w_codes : ∀ c ∈ words1.filter isCode, c.before args0 about1 = true := by
  rw [codes_eq]
  intro c hc
  simp only [codes1, List.mem_cons, List.not_mem_nil, or_false] at hc
  rcases hc with rfl | rfl | rfl | rfl | rfl
  · exact w_c0
  · exact w_c1
  · exact w_c2
  · exact w_c3
  · exact w_c4
set_option maxRecDepth 65536 in
theorem w_t1 : (words1.take 24).all (fun c => isCode c || c.before args0 about1) = true := by decide +kernel
set_option maxRecDepth 65536 in
theorem w_t2 : ((words1.drop 24).take 24).all (fun c => isCode c || c.before args0 about1) = true := by decide +kernel
set_option maxRecDepth 65536 in
theorem w_t3 : ((words1.drop 24).drop 24).all (fun c => isCode c || c.before args0 about1) = true := by decide +kernel
theorem w_tables : (allAtoms (Jvm.Cond.code x code maxLocals ret :: tables_1)).before args0 about1 = true := by
  rw [allAtoms_all]
  show words1.all (fun c => c.before args0 about1) = true
  refine all_split ?_ w_codes
  rw [← List.take_append_drop 24 words1, List.all_append, w_t1, ← List.take_append_drop 24 (words1.drop 24), List.all_append, w_t2, w_t3]
  rfl
set_option maxRecDepth 65536 in
theorem w_case : (Jvm.Cond.and given_1 narrow_1).before args0 about1 = true := by decide +kernel
theorem w_applies : (headSpec (Jvm.Cond.code x code maxLocals ret :: tables_1) room_1).applies x e0.platform about1 = true :=
  (Spec.applies_iff w_frames).mpr ⟨w_running, w_runnable, w_alone, w_named, w_hears, w_ripe, w_room, w_tables⟩
theorem atStart : AtStart classFile x code maxLocals ret World_1 tables_1 room_1 Calls_1 rest_1 Pre_1 launch0 p0 e0 about1 theMethod args0 below0 :=
  ⟨lists_1, trivial, launch0.admits_env _ _ _, launch0.least_env, fairChoices_fair.cas, fairChoices_fair.clock, w_frames, w_args, w_heap, w_applies, trivial, trivial, w_case⟩
end start1
theorem witness_1 : WitnessClaimed_1 := ⟨start1.p0, start1.e0, start1.about1, start1.theMethod, start1.args0, start1.below0, start1.atStart⟩
end Jvm.Pilot.@@N@@
