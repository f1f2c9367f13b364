import JvmDerived
import JvmDerived.Pilot.@@N@@Statement
import JvmDerived.Pilot.@@N@@Code
set_option linter.unusedVariables false
set_option linter.unusedSimpArgs false
namespace Jvm.Pilot.@@N@@
open Jvm Jvm.ClassFile Sem Op Lib Jvm.Free Jvm.Stand Jvm.LawKit Jvm.RoadKit Bundle Jvm.Pilot.@@N@@.Jvm.D
/-- from S on the run ends as Q says -/
def own_Go (p : Program) (e : Env) (below : List Frame) (s : State) (Q : Option Value → Heap → List Loc → Prop) (k n : Nat) (S : State) : Prop :=
  ∃ s₂ o, Steps p.tables e below S s₂ ∧ s₂.status = .running ∧ Ended s₂ below o ∧ ∃ v L, o = .returned v ∧ Q v s₂.heap L ∧ FrameEnd s o s₂ L k n
/-- the goal, as a predicate that is closed under steps -/
theorem own_abs (p : Program) (e : Env) (below : List Frame) (s : State) (Q : Option Value → Heap → List Loc → Prop) (k n : Nat) :
    ∃ G : State → Prop, (∀ {S : State}, G S → own_Go p e below s Q k n S) ∧ (∀ {S S' : State}, (∀ t, Steps p.tables e below S' t → Steps p.tables e below S t) → G S' → G S) ∧ (∀ {S : State}, own_Go p e below s Q k n S → G S) :=
  ⟨own_Go p e below s Q k n, fun h => h, fun h g => by obtain ⟨s2, o, h1, r⟩ := g; exact ⟨s2, o, h _ h1, r⟩, fun h => h⟩
section OwnEnd
variable {p : Program} {l : Launch} {e : Env} {R : Room} {s : State} {m : MethodId} {args : Array Value} {below : List Frame} {meth : Method} {c : Code} {T : State} {locs : List Loc} {cells slots : Nat} {Q : Option Value → Heap → List Loc → Prop} {k n : Nat}
theorem own_goRet (X : Stand p l e R s m args below meth c T locs cells slots) (hx : p.tables.exec = Jvm.exec) {pc : Nat} {Ls : Array Slot} {w : Value} {t : FieldType} {i : Instr} {rest : List Value} (hret : meth.sig.returnType = some t) (hn : narrow t w = w)
    (hi : (i = .ireturn ∧ (t = .int ∨ t = .boolean ∨ t = .byte ∨ t = .char ∨ t = .short) ∧ ∃ z, w = .int z) ∨ (i = .lreturn ∧ t = .long ∧ ∃ z, w = .long z) ∨ (i = .dreturn ∧ t = .double ∧ ∃ z, w = .double z) ∨ (i = .freturn ∧ t = .float ∧ ∃ z, w = .float z) ∨ (i = .areturn ∧ t.isReference = true ∧ w.isRef = true))
    (hd : decode c.code pc = .ok (i, 1)) (hlk : meth.locks = false) (hQ : Q (some w) T.heap locs) (hk : cells ≤ k) (hn' : slots ≤ n) : own_Go p e below s Q k n (T.setTop (mkF m pc Ls (w :: rest))) := by
  obtain ⟨fs, hr, hrun, hended, hW, hsame⟩ := X.leave (v := some w) (fun h => by rw [hret] at h; cases h) hlk
  exact ⟨_, _, retOut X hx hret hn hi hd hr, hrun, hended, _, _, rfl, hQ, ⟨_, rfl⟩, hW, hsame.mono hk hn'⟩
theorem own_goVoid (X : Stand p l e R s m args below meth c T locs cells slots) (hx : p.tables.exec = Jvm.exec) {pc : Nat} {Ls : Array Slot} (hret : meth.sig.returnType = none)
    (hd : decode c.code pc = .ok (.return_, 1)) (hlk : meth.locks = false) (hQ : Q none T.heap locs) (hk : cells ≤ k) (hn' : slots ≤ n) : own_Go p e below s Q k n (T.setTop (mkF m pc Ls [])) := by
  obtain ⟨fs, hr, hrun, hended, hW, hsame⟩ := X.leave (v := none) (fun _ => rfl) hlk
  exact ⟨_, _, X.returnOut hx hret hd hr, hrun, hended, _, _, rfl, hQ, ⟨_, rfl⟩, hW, hsame.mono hk hn'⟩
end OwnEnd
def own_aft (p1 : Int32) (q1 : Int64) (p2 : Int32) (q2 : Int64) : Int32 := if p2 < p1 then 1 else if p1 = p2 then (if q2 < q1 then 1 else 0) else 0
theorem own_aft_asym (p1 : Int32) (q1 : Int64) (p2 : Int32) (q2 : Int64) (h : ¬ own_aft p1 q1 p2 q2 = 0) : own_aft p2 q2 p1 q1 = 0 := by
  unfold own_aft at *
  simp only [Int32.lt_iff_toInt_lt, Int64.lt_iff_toInt_lt, ← Int32.toInt_inj] at *
  repeat' split at h
  all_goals first | exact absurd rfl h | skip
  all_goals repeat' split
  all_goals first | rfl | omega
theorem own_sub (a b : Int32) : (a.toInt64 - b.toInt64).toInt = a.toInt - b.toInt := by
  have h1 := c_lsub a.toInt64 b.toInt64
  have h2 := c_i2l a
  have h3 := c_i2l b
  have h4 := rng32 a
  have h5 := rng32 b
  have h6 := rng64 (a.toInt64 - b.toInt64)
  omega
theorem own_sub_pos (a b : Int32) : (0 : Int64) < a.toInt64 - b.toInt64 ↔ b < a := by
  rw [Int64.lt_iff_toInt_lt, Int32.lt_iff_toInt_lt, own_sub, show (0 : Int64).toInt = 0 from rfl]; omega
theorem own_sub_neg (a b : Int32) : a.toInt64 - b.toInt64 < (0 : Int64) ↔ a < b := by
  rw [Int64.lt_iff_toInt_lt, Int32.lt_iff_toInt_lt, own_sub, show (0 : Int64).toInt = 0 from rfl]; omega
theorem own_eq (a b : Int32) (h1 : ¬ b < a) (h2 : ¬ a < b) : a = b := by
  rw [Int32.lt_iff_toInt_lt] at h1 h2; exact Int32.toInt_inj.mp (by omega)
theorem own_irr (a : Int32) : ¬ a < a := by rw [Int32.lt_iff_toInt_lt]; omega
theorem own_asy (a b : Int32) (h : a < b) : ¬ b < a ∧ ¬ b = a := by
  rw [Int32.lt_iff_toInt_lt] at h ⊢; rw [← Int32.toInt_inj]; omega
def own_QI (r : Int32) (h0 : Heap) (n0 : Nat) (v : Option Value) (h : Heap) (L : List Loc) : Prop := v = some (.int r) ∧ Fr n0 L ∧ h = h0
def own_QV (h0 : Heap) (n0 : Nat) (v : Option Value) (h : Heap) (L : List Loc) : Prop := v = none ∧ Fr n0 L ∧ h = h0
def own_Qi (Z : State) (a : Addr) (p : Int32) (q : Int64) (h0 : Heap) (n0 : Nat) (v : Option Value) (h : Heap) (L : List Loc) : Prop := v = none ∧ Fr n0 L ∧ Keep h0 h [a] ∧ Exa Z h a site_52.cls ∧ Fld Z h a site_52.cls "controllerEpoch" "I" (.int p) ∧ Fld Z h a site_52.cls "version" "J" (.long q)
def own_Q0 (n0 : Nat) (v : Option Value) (h : Heap) (L : List Loc) : Prop := v = some (.int (1 : Int32)) ∧ Fr n0 L
theorem own_w0 {Z : State} {a0 : Array Value} (hw : ∀ d ∈ tables_1, d.before a0 Z = true) : Jvm.Cond.before (Jvm.Cond.classLink x.cls (7 : Nat) site_52.cls) a0 Z = true := hw _ (List.mem_of_getElem? (i := 0) rfl)
theorem own_w1 {Z : State} {a0 : Array Value} (hw : ∀ d ∈ tables_1, d.before a0 Z = true) : Jvm.Cond.before (Jvm.Cond.instantiable site_52.cls (2 : Nat)) a0 Z = true := hw _ (List.mem_of_getElem? (i := 1) rfl)
theorem own_w2 {Z : State} {a0 : Array Value} (hw : ∀ d ∈ tables_1, d.before a0 Z = true) : Jvm.Cond.before (Jvm.Cond.initialized site_52.cls) a0 Z = true := hw _ (List.mem_of_getElem? (i := 2) rfl)
theorem own_w3 {Z : State} {a0 : Array Value} (hw : ∀ d ∈ tables_1, d.before a0 Z = true) : Jvm.Cond.before (Jvm.Cond.methodLink x.cls (9 : Nat) ({ cls := site_52.cls, name := "<init>", desc := "(IJ)V" } : Jvm.MethodName)) a0 Z = true := hw _ (List.mem_of_getElem? (i := 3) rfl)
theorem own_w4 {Z : State} {a0 : Array Value} (hw : ∀ d ∈ tables_1, d.before a0 Z = true) : Jvm.Cond.before (Jvm.Cond.instanceMethod ({ cls := site_52.cls, name := "<init>", desc := "(IJ)V" } : Jvm.MethodName)) a0 Z = true := hw _ (List.mem_of_getElem? (i := 4) rfl)
theorem own_w5 {Z : State} {a0 : Array Value} (hw : ∀ d ∈ tables_1, d.before a0 Z = true) : Jvm.Cond.before (Jvm.Cond.code ({ cls := site_52.cls, name := "<init>", desc := "(IJ)V" } : Jvm.MethodName) prog_96_method_1_code (4 : Nat) (Option.none : Option Jvm.ClassFile.FieldType)) a0 Z = true := hw _ (List.mem_of_getElem? (i := 5) rfl)
theorem own_w6 {Z : State} {a0 : Array Value} (hw : ∀ d ∈ tables_1, d.before a0 Z = true) : Jvm.Cond.before (Jvm.Cond.methodLink site_52.cls (1 : Nat) ({ cls := "java/lang/Record", name := "<init>", desc := "()V" } : Jvm.MethodName)) a0 Z = true := hw _ (List.mem_of_getElem? (i := 6) rfl)
theorem own_w7 {Z : State} {a0 : Array Value} (hw : ∀ d ∈ tables_1, d.before a0 Z = true) : Jvm.Cond.before (Jvm.Cond.instanceMethod ({ cls := "java/lang/Record", name := "<init>", desc := "()V" } : Jvm.MethodName)) a0 Z = true := hw _ (List.mem_of_getElem? (i := 7) rfl)
theorem own_w9 {Z : State} {a0 : Array Value} (hw : ∀ d ∈ tables_1, d.before a0 Z = true) : Jvm.Cond.before (Jvm.Cond.initialized "java/lang/Record") a0 Z = true := hw _ (List.mem_of_getElem? (i := 9) rfl)
theorem own_w10 {Z : State} {a0 : Array Value} (hw : ∀ d ∈ tables_1, d.before a0 Z = true) : Jvm.Cond.before (Jvm.Cond.code ({ cls := "java/lang/Record", name := "<init>", desc := "()V" } : Jvm.MethodName) jdk_30_method_1_code (1 : Nat) (Option.none : Option Jvm.ClassFile.FieldType)) a0 Z = true := hw _ (List.mem_of_getElem? (i := 10) rfl)
theorem own_w11 {Z : State} {a0 : Array Value} (hw : ∀ d ∈ tables_1, d.before a0 Z = true) : Jvm.Cond.before (Jvm.Cond.methodLink "java/lang/Record" (1 : Nat) ({ cls := "java/lang/Object", name := "<init>", desc := "()V" } : Jvm.MethodName)) a0 Z = true := hw _ (List.mem_of_getElem? (i := 11) rfl)
theorem own_w12 {Z : State} {a0 : Array Value} (hw : ∀ d ∈ tables_1, d.before a0 Z = true) : Jvm.Cond.before (Jvm.Cond.instanceMethod ({ cls := "java/lang/Object", name := "<init>", desc := "()V" } : Jvm.MethodName)) a0 Z = true := hw _ (List.mem_of_getElem? (i := 12) rfl)
theorem own_w13 {Z : State} {a0 : Array Value} (hw : ∀ d ∈ tables_1, d.before a0 Z = true) : Jvm.Cond.before (Jvm.Cond.code ({ cls := "java/lang/Object", name := "<init>", desc := "()V" } : Jvm.MethodName) object_method_1_code (1 : Nat) (Option.none : Option Jvm.ClassFile.FieldType)) a0 Z = true := hw _ (List.mem_of_getElem? (i := 13) rfl)
theorem own_w14 {Z : State} {a0 : Array Value} (hw : ∀ d ∈ tables_1, d.before a0 Z = true) : Jvm.Cond.before (Jvm.Cond.fieldLink site_52.cls (7 : Nat) site_52.cls "controllerEpoch" "I") a0 Z = true := hw _ (List.mem_of_getElem? (i := 14) rfl)
theorem own_w15 {Z : State} {a0 : Array Value} (hw : ∀ d ∈ tables_1, d.before a0 Z = true) : Jvm.Cond.before (Jvm.Cond.laysFinal site_52.cls site_52.cls "controllerEpoch" "I") a0 Z = true := hw _ (List.mem_of_getElem? (i := 15) rfl)
theorem own_w16 {Z : State} {a0 : Array Value} (hw : ∀ d ∈ tables_1, d.before a0 Z = true) : Jvm.Cond.before (Jvm.Cond.fieldLink site_52.cls (13 : Nat) site_52.cls "version" "J") a0 Z = true := hw _ (List.mem_of_getElem? (i := 16) rfl)
theorem own_w17 {Z : State} {a0 : Array Value} (hw : ∀ d ∈ tables_1, d.before a0 Z = true) : Jvm.Cond.before (Jvm.Cond.laysFinal site_52.cls site_52.cls "version" "J") a0 Z = true := hw _ (List.mem_of_getElem? (i := 17) rfl)
theorem own_w18 {Z : State} {a0 : Array Value} (hw : ∀ d ∈ tables_1, d.before a0 Z = true) : Jvm.Cond.before (Jvm.Cond.methodLink x.cls (12 : Nat) ({ cls := site_52.cls, name := "isAfter", desc := site_74.desc } : Jvm.MethodName)) a0 Z = true := hw _ (List.mem_of_getElem? (i := 18) rfl)
theorem own_w19 {Z : State} {a0 : Array Value} (hw : ∀ d ∈ tables_1, d.before a0 Z = true) : Jvm.Cond.before (Jvm.Cond.declares ({ cls := site_52.cls, name := "isAfter", desc := site_74.desc } : Jvm.MethodName)) a0 Z = true := hw _ (List.mem_of_getElem? (i := 19) rfl)
theorem own_w20 {Z : State} {a0 : Array Value} (hw : ∀ d ∈ tables_1, d.before a0 Z = true) : Jvm.Cond.before (Jvm.Cond.instanceMethod ({ cls := site_52.cls, name := "isAfter", desc := site_74.desc } : Jvm.MethodName)) a0 Z = true := hw _ (List.mem_of_getElem? (i := 20) rfl)
theorem own_w21 {Z : State} {a0 : Array Value} (hw : ∀ d ∈ tables_1, d.before a0 Z = true) : Jvm.Cond.before (Jvm.Cond.selects site_52.cls ({ cls := site_52.cls, name := "isAfter", desc := site_74.desc } : Jvm.MethodName) ({ cls := site_52.cls, name := "isAfter", desc := site_74.desc } : Jvm.MethodName)) a0 Z = true := hw _ (List.mem_of_getElem? (i := 21) rfl)
theorem own_w22 {Z : State} {a0 : Array Value} (hw : ∀ d ∈ tables_1, d.before a0 Z = true) : Jvm.Cond.before (Jvm.Cond.code ({ cls := site_52.cls, name := "isAfter", desc := site_74.desc } : Jvm.MethodName) prog_96_method_2_code (2 : Nat) (Option.some Jvm.ClassFile.FieldType.boolean)) a0 Z = true := hw _ (List.mem_of_getElem? (i := 22) rfl)
theorem own_w23 {Z : State} {a0 : Array Value} (hw : ∀ d ∈ tables_1, d.before a0 Z = true) : Jvm.Cond.before (Jvm.Cond.methodLink x.cls (16 : Nat) ({ cls := x.cls, name := "expected", desc := "(IJIJ)Z" } : Jvm.MethodName)) a0 Z = true := hw _ (List.mem_of_getElem? (i := 23) rfl)
theorem own_w24 {Z : State} {a0 : Array Value} (hw : ∀ d ∈ tables_1, d.before a0 Z = true) : Jvm.Cond.before (Jvm.Cond.static ({ cls := x.cls, name := "expected", desc := "(IJIJ)Z" } : Jvm.MethodName)) a0 Z = true := hw _ (List.mem_of_getElem? (i := 24) rfl)
theorem own_w25 {Z : State} {a0 : Array Value} (hw : ∀ d ∈ tables_1, d.before a0 Z = true) : Jvm.Cond.before (Jvm.Cond.initialized x.cls) a0 Z = true := hw _ (List.mem_of_getElem? (i := 25) rfl)
theorem own_w26 {Z : State} {a0 : Array Value} (hw : ∀ d ∈ tables_1, d.before a0 Z = true) : Jvm.Cond.before (Jvm.Cond.code ({ cls := x.cls, name := "expected", desc := "(IJIJ)Z" } : Jvm.MethodName) method_2_code (8 : Nat) (Option.some Jvm.ClassFile.FieldType.boolean)) a0 Z = true := hw _ (List.mem_of_getElem? (i := 26) rfl)
theorem pd_0 : parseMethodDescriptor "()V" = some ⟨[], none⟩ := by decide +kernel
theorem pd_1 : parseMethodDescriptor "(IJ)V" = some ⟨[.int, .long], none⟩ := by decide +kernel
theorem pd_2 : parseMethodDescriptor site_74.desc = some ⟨[(.object site_52.cls)], some .boolean⟩ := by decide +kernel
theorem pd_3 : parseMethodDescriptor "(IJIJ)Z" = some ⟨[.int, .long, .int, .long], some .boolean⟩ := by decide +kernel
theorem dR_0 : decode jdk_30_method_1_code 0 = .ok (.aload_n 0, 1) := by decide +kernel
theorem dR_1 : decode jdk_30_method_1_code 1 = .ok (.invokespecial 1, 3) := by decide +kernel
theorem dR_4 : decode jdk_30_method_1_code 4 = .ok (.return_, 1) := by decide +kernel
theorem ef_R (m : MethodId) (a : Addr) : entryFrame m #[(.ref a)] 1 = mkF m 0 #[.val (.ref a)] [] := by first | (simp [entryFrame, mkF, argsToLocals, Value.category]; done) | rfl
theorem pn_R : plainName "java/lang/Record" = true := by first | decide +kernel | (simp [plainName, overriddenIn]; done)
set_option maxRecDepth 65536 in
set_option maxHeartbeats 40000000 in
theorem rmR (l : Launch) (Z : State) (a0 : Array Value) (hw : ∀ d ∈ tables_1, d.before a0 Z = true) (ws : List Jvm.Cond) (a : Addr) (h0 : Heap) (n0 : Nat) (Z0 : n0 ≤ h0.size) :
    MetFree l (⟨"java/lang/Record", "<init>", "()V"⟩ : MethodName) (head1 (Jvm.Cond.code (⟨"java/lang/Record", "<init>", "()V"⟩ : MethodName) jdk_30_method_1_code 1 none :: ws) ({ frames := 1, cells := 0, slots := 0, locals := 12 } : Room)) (fun a_ U_ => a_ = #[(.ref a)] ∧ Z.Warmed39 U_.vm ∧ U_.heap = h0) (fun _ _ _ _ _ => True) (fun _ U_ o_ W_ => ∃ v_ L_, o_ = .returned v_ ∧ own_QV h0 n0 v_ W_.heap L_ ∧ FrameEnd U_ o_ W_ L_ ({ frames := 1, cells := 0, slots := 0, locals := 12 } : Room).cells ({ frames := 1, cells := 0, slots := 0, locals := 12 } : Room).slots) := by
  refine MetFree.of_bodySF (plainFor_of_name pn_R) hisR ?_
  intro p e s m args below meth c s₁ Bd hml0 hP hK
  obtain ⟨rfl, hZ, hh⟩ := hP
  have hx := Bd.exec
  have hby := Bd.bytes
  have hml : c.maxLocals = 1 := hml0
  have hown : s.vm.findClass "java/lang/Record" = some m.cls := by have z := findClass_of_methodNamed Bd.named; exact z
  have hnm := (name_of_methodNamed Bd.named Bd.method).1
  have X0 : Stand p l e ({ frames := 1, cells := 0, slots := 0, locals := 12 } : Room) s m #[(.ref a)] below meth c s₁ [] 0 0 := Stand.of_body Bd
  have e0 : s₁.heap = h0 := by rw [← hh, Bd.state]; rfl
  have N0 := Fr.nil n0
  obtain ⟨G, hG, hst, hend⟩ := own_abs p e below s (own_QV h0 n0) ({ frames := 1, cells := 0, slots := 0, locals := 12 } : Room).cells ({ frames := 1, cells := 0, slots := 0, locals := 12 } : Room).slots
  refine hG (S := s₁.setTop (entryFrame m #[(.ref a)] 1)) (hst (fun t k => castTop (ef_R m a) k) ?_)
  show G (s₁.setTop (mkF m 0 #[.val (.ref a)] []))
  refine hst (fun _ kt => XS.aloadN X0.here hx rfl (hb hby dR_0) rfl rfl kt) ?_
  show G (s₁.setTop (mkF m 1 #[.val (.ref a)] [(.ref a)]))
  obtain ⟨T_1, X_1, e_1, st_1⟩ := initO X0 hx hZ hown (own_w11 hw) (own_w12 hw) (own_w13 hw) e0 (g := (mkF m 1 #[.val (.ref a)] [(.ref a)])) rfl (by rw [hml]; rfl) rfl (hb hby dR_1) (by decide) (W := 0) (by show 2 * 0 + _ ≤ _; exact Nat.le_of_eq rfl) (by decide)
  refine hst st_1 ?_
  show G (T_1.setTop (mkF m 4 #[.val (.ref a)] []))
  exact hend (own_goVoid X_1 hx Bd.returns (hb hby dR_4) Bd.notSynchronized (by rw [e_1]; exact ⟨rfl, N0, rfl⟩) (by decide) (by decide))
theorem d1_0 : decode prog_96_method_1_code 0 = .ok (.aload_n 0, 1) := by decide +kernel
theorem d1_1 : decode prog_96_method_1_code 1 = .ok (.invokespecial 1, 3) := by decide +kernel
theorem d1_4 : decode prog_96_method_1_code 4 = .ok (.aload_n 0, 1) := by decide +kernel
theorem d1_5 : decode prog_96_method_1_code 5 = .ok (.iload_n 1, 1) := by decide +kernel
theorem d1_6 : decode prog_96_method_1_code 6 = .ok (.putfield 7, 3) := by decide +kernel
theorem d1_9 : decode prog_96_method_1_code 9 = .ok (.aload_n 0, 1) := by decide +kernel
theorem d1_10 : decode prog_96_method_1_code 10 = .ok (.lload_n 2, 1) := by decide +kernel
theorem d1_11 : decode prog_96_method_1_code 11 = .ok (.putfield 13, 3) := by decide +kernel
theorem d1_14 : decode prog_96_method_1_code 14 = .ok (.return_, 1) := by decide +kernel
theorem ef_1 (m : MethodId) (a : Addr) (pp : Int32) (qq : Int64) : entryFrame m #[(.ref a), (.int pp), (.long qq)] 4 = mkF m 0 #[.val (.ref a), .val (.int pp), .val (.long qq), .second] [] := by first | (simp [entryFrame, mkF, argsToLocals, Value.category]; done) | rfl
theorem pn_1 : plainName site_52.cls = true := by first | decide +kernel | (simp [plainName, overriddenIn]; done)
set_option maxRecDepth 65536 in
set_option maxHeartbeats 40000000 in
theorem rm1 (l : Launch) (Z : State) (a0 : Array Value) (hw : ∀ d ∈ tables_1, d.before a0 Z = true) (ws : List Jvm.Cond) (a : Addr) (pp : Int32) (qq : Int64) (h0 : Heap) (n0 : Nat) (Z0 : n0 ≤ h0.size) (F_e_a : Fld Z h0 a site_52.cls "controllerEpoch" "I" (.int (0 : Int32))) (F_v_a : Fld Z h0 a site_52.cls "version" "J" (.long (0 : Int64))) (E_a : Exa Z h0 a site_52.cls) (le_n0_a : n0 ≤ a) :
    MetFree l (⟨site_52.cls, "<init>", "(IJ)V"⟩ : MethodName) (head1 (Jvm.Cond.code (⟨site_52.cls, "<init>", "(IJ)V"⟩ : MethodName) prog_96_method_1_code 4 none :: ws) ({ frames := 2, cells := 0, slots := 0, locals := 24 } : Room)) (fun a_ U_ => a_ = #[(.ref a), (.int pp), (.long qq)] ∧ Z.Warmed39 U_.vm ∧ U_.heap = h0) (fun _ _ _ _ _ => True) (fun _ U_ o_ W_ => ∃ v_ L_, o_ = .returned v_ ∧ own_Qi Z a pp qq h0 n0 v_ W_.heap L_ ∧ FrameEnd U_ o_ W_ L_ ({ frames := 2, cells := 0, slots := 0, locals := 24 } : Room).cells ({ frames := 2, cells := 0, slots := 0, locals := 24 } : Room).slots) := by
  refine MetFree.of_bodySF (plainFor_of_name pn_1) hisR ?_
  intro p e s m args below meth c s₁ Bd hml0 hP hK
  obtain ⟨rfl, hZ, hh⟩ := hP
  have hx := Bd.exec
  have hby := Bd.bytes
  have hml : c.maxLocals = 4 := hml0
  have hown : s.vm.findClass site_52.cls = some m.cls := by have z := findClass_of_methodNamed Bd.named; exact z
  have hnm := (name_of_methodNamed Bd.named Bd.method).1
  have X0 : Stand p l e ({ frames := 2, cells := 0, slots := 0, locals := 24 } : Room) s m #[(.ref a), (.int pp), (.long qq)] below meth c s₁ [] 0 0 := Stand.of_body Bd
  have e0 : s₁.heap = h0 := by rw [← hh, Bd.state]; rfl
  have N0 := Fr.nil n0
  obtain ⟨G, hG, hst, hend⟩ := own_abs p e below s (own_Qi Z a pp qq h0 n0) ({ frames := 2, cells := 0, slots := 0, locals := 24 } : Room).cells ({ frames := 2, cells := 0, slots := 0, locals := 24 } : Room).slots
  refine hG (S := s₁.setTop (entryFrame m #[(.ref a), (.int pp), (.long qq)] 4)) (hst (fun t k => castTop (ef_1 m a pp qq) k) ?_)
  have K0 := Keep.refl h0 [a]
  show G (s₁.setTop (mkF m 0 #[.val (.ref a), .val (.int pp), .val (.long qq), .second] []))
  refine hst (fun _ kt => XS.aloadN X0.here hx rfl (hb hby d1_0) rfl rfl kt) ?_
  show G (s₁.setTop (mkF m 1 #[.val (.ref a), .val (.int pp), .val (.long qq), .second] [(.ref a)]))
  obtain ⟨_, _, ⟨T_1, L_1, k_1, n_1⟩, -, X_1, ⟨Lc_1, hQ_1, l_1, y_1, z_1⟩, st_1⟩ := X0.specialBack hx (y := (⟨"java/lang/Record", "<init>", "()V"⟩ : MethodName)) rfl hown (mvT hZ (own_w6 hw)) (mvT hZ (own_w7 hw)) (mvT hZ (own_w10 hw)) (by decide) (backOf (W := 0) (rmR l Z a0 hw [] a  h0 n0 Z0) hZ (own_w10 hw) (own_w9 hw) (by decide) (by decide)) (g := (mkF m 1 #[.val (.ref a), .val (.int pp), .val (.long qq), .second] [(.ref a)])) rfl (by rw [hml]; rfl) (Steps.refl _) (a := a) (argsL := []) (rest := []) (lenOf pd_0 rfl) rfl (by show 2 * 0 + _ ≤ _; exact Nat.le_of_eq rfl) (hb hby d1_1) (fun _ _ => ⟨rfl, e0, (by decide : 0 + 0 ≤ _), (by decide : 0 + 0 ≤ _)⟩)
  dsimp only [Pt.U, Pt.locs, Pt.cells, Pt.slots] at X_1 l_1 y_1 z_1 st_1 hQ_1
  subst l_1 y_1 z_1
  obtain ⟨rfl, N_1q, eh_1⟩ := hQ_1
  have N_1 := Fr.app N0 N_1q
  refine hst (fun _ kt => st_1.trans kt) ?_
  show G (T_1.setTop (mkF m 4 #[.val (.ref a), .val (.int pp), .val (.long qq), .second] []))
  refine hst (fun _ kt => XS.aloadN X_1.here hx rfl (hb hby d1_4) rfl rfl kt) ?_
  show G (T_1.setTop (mkF m 5 #[.val (.ref a), .val (.int pp), .val (.long qq), .second] [(.ref a)]))
  refine hst (fun _ kt => XS.iloadN X_1.here hx rfl (hb hby d1_5) rfl kt) ?_
  show G (T_1.setTop (mkF m 6 #[.val (.ref a), .val (.int pp), .val (.long qq), .second] [(.int pp), (.ref a)]))
  obtain ⟨T_2, h_2, X_2, e_2, W_2, st_2⟩ := putF X_1 hx hZ hown (host := "") (Or.inl (own_w14 hw)) Via.refl eh_1 F_e_a E_a (Or.inr ⟨(own_w15 hw), rfl, hnm⟩) (own_w1 hw) (ty := .int) (by decide) rfl rfl (g := (mkF m 6 #[.val (.ref a), .val (.int pp), .val (.long qq), .second] [(.int pp), (.ref a)])) rfl rfl (hb hby d1_6)
  have Z0 := Nat.le_trans Z0 (Keep.of_wr W_2).1
  have F_e_a := F_e_a.same W_2
  have F_v_a := F_v_a.other W_2 (Or.inr (slot_ne (Or.inr (own_w17 hw)) (Or.inr (own_w15 hw)) (by decide) (t := .long) (t' := .int) (by decide) (by decide)))
  have E_a := E_a.wr W_2
  have K0 := K0.wr W_2 (Or.inl (List.mem_of_getElem? (i := 0) rfl))
  have N_2 := Fr.snoc X_2 N_1 le_n0_a
  refine hst st_2 ?_
  show G (T_2.setTop (mkF m 9 #[.val (.ref a), .val (.int pp), .val (.long qq), .second] []))
  refine hst (fun _ kt => XS.aloadN X_2.here hx rfl (hb hby d1_9) rfl rfl kt) ?_
  show G (T_2.setTop (mkF m 10 #[.val (.ref a), .val (.int pp), .val (.long qq), .second] [(.ref a)]))
  refine hst (fun _ kt => XS.lloadN X_2.here hx rfl (hb hby d1_10) rfl kt) ?_
  show G (T_2.setTop (mkF m 11 #[.val (.ref a), .val (.int pp), .val (.long qq), .second] [(.long qq), (.ref a)]))
  obtain ⟨T_3, h_3, X_3, e_3, W_3, st_3⟩ := putF X_2 hx hZ hown (host := "") (Or.inl (own_w16 hw)) Via.refl e_2 F_v_a E_a (Or.inr ⟨(own_w17 hw), rfl, hnm⟩) (own_w1 hw) (ty := .long) (by decide) rfl rfl (g := (mkF m 11 #[.val (.ref a), .val (.int pp), .val (.long qq), .second] [(.long qq), (.ref a)])) rfl rfl (hb hby d1_11)
  have Z0 := Nat.le_trans Z0 (Keep.of_wr W_3).1
  have F_e_a := F_e_a.other W_3 (Or.inr (slot_ne (Or.inr (own_w15 hw)) (Or.inr (own_w17 hw)) (by decide) (t := .int) (t' := .long) (by decide) (by decide)))
  have F_v_a := F_v_a.same W_3
  have E_a := E_a.wr W_3
  have K0 := K0.wr W_3 (Or.inl (List.mem_of_getElem? (i := 0) rfl))
  have N_3 := Fr.snoc X_3 N_2 le_n0_a
  refine hst st_3 ?_
  show G (T_3.setTop (mkF m 14 #[.val (.ref a), .val (.int pp), .val (.long qq), .second] []))
  exact hend (own_goVoid X_3 hx Bd.returns (hb hby d1_14) Bd.notSynchronized (by rw [e_3]; exact ⟨rfl, N_3, K0, E_a, F_e_a, F_v_a⟩) (by decide) (by decide))
theorem d2_0 : decode prog_96_method_2_code 0 = .ok (.aload_n 0, 1) := by decide +kernel
theorem d2_1 : decode prog_96_method_2_code 1 = .ok (.getfield 7, 3) := by decide +kernel
theorem d2_4 : decode prog_96_method_2_code 4 = .ok (.aload_n 1, 1) := by decide +kernel
theorem d2_5 : decode prog_96_method_2_code 5 = .ok (.getfield 7, 3) := by decide +kernel
theorem d2_8 : decode prog_96_method_2_code 8 = .ok (.if_icmp .gt 26, 3) := by decide +kernel
theorem d2_11 : decode prog_96_method_2_code 11 = .ok (.aload_n 0, 1) := by decide +kernel
theorem d2_12 : decode prog_96_method_2_code 12 = .ok (.getfield 7, 3) := by decide +kernel
theorem d2_15 : decode prog_96_method_2_code 15 = .ok (.aload_n 1, 1) := by decide +kernel
theorem d2_16 : decode prog_96_method_2_code 16 = .ok (.getfield 7, 3) := by decide +kernel
theorem d2_19 : decode prog_96_method_2_code 19 = .ok (.if_icmp .ne 19, 3) := by decide +kernel
theorem d2_22 : decode prog_96_method_2_code 22 = .ok (.aload_n 0, 1) := by decide +kernel
theorem d2_23 : decode prog_96_method_2_code 23 = .ok (.getfield 13, 3) := by decide +kernel
theorem d2_26 : decode prog_96_method_2_code 26 = .ok (.aload_n 1, 1) := by decide +kernel
theorem d2_27 : decode prog_96_method_2_code 27 = .ok (.getfield 13, 3) := by decide +kernel
theorem d2_30 : decode prog_96_method_2_code 30 = .ok (.lcmp, 1) := by decide +kernel
theorem d2_31 : decode prog_96_method_2_code 31 = .ok (.ifCond .le 7, 3) := by decide +kernel
theorem d2_34 : decode prog_96_method_2_code 34 = .ok (.iconst 1, 1) := by decide +kernel
theorem d2_35 : decode prog_96_method_2_code 35 = .ok (.goto 4, 3) := by decide +kernel
theorem d2_38 : decode prog_96_method_2_code 38 = .ok (.iconst 0, 1) := by decide +kernel
theorem d2_39 : decode prog_96_method_2_code 39 = .ok (.ireturn, 1) := by decide +kernel
theorem ef_2 (m : MethodId) (a : Addr) (b : Addr) : entryFrame m #[(.ref a), (.ref b)] 2 = mkF m 0 #[.val (.ref a), .val (.ref b)] [] := by first | (simp [entryFrame, mkF, argsToLocals, Value.category]; done) | rfl
theorem pn_2 : plainName site_52.cls = true := by first | decide +kernel | (simp [plainName, overriddenIn]; done)
set_option maxRecDepth 65536 in
set_option maxHeartbeats 40000000 in
theorem rm2 (l : Launch) (Z : State) (a0 : Array Value) (hw : ∀ d ∈ tables_1, d.before a0 Z = true) (ws : List Jvm.Cond) (a : Addr) (b : Addr) (p1 : Int32) (q1 : Int64) (p2 : Int32) (q2 : Int64) (h0 : Heap) (n0 : Nat) (Z0 : n0 ≤ h0.size) (F_e_a : Fld Z h0 a site_52.cls "controllerEpoch" "I" (.int p1)) (F_v_a : Fld Z h0 a site_52.cls "version" "J" (.long q1)) (F_e_b : Fld Z h0 b site_52.cls "controllerEpoch" "I" (.int p2)) (F_v_b : Fld Z h0 b site_52.cls "version" "J" (.long q2)) :
    MetFree l (⟨site_52.cls, "isAfter", site_74.desc⟩ : MethodName) (head1 (Jvm.Cond.code (⟨site_52.cls, "isAfter", site_74.desc⟩ : MethodName) prog_96_method_2_code 2 (some .boolean) :: ws) ({ frames := 0, cells := 0, slots := 0, locals := 0 } : Room)) (fun a_ U_ => a_ = #[(.ref a), (.ref b)] ∧ Z.Warmed39 U_.vm ∧ U_.heap = h0) (fun _ _ _ _ _ => True) (fun _ U_ o_ W_ => ∃ v_ L_, o_ = .returned v_ ∧ own_QI (own_aft p1 q1 p2 q2) h0 n0 v_ W_.heap L_ ∧ FrameEnd U_ o_ W_ L_ ({ frames := 0, cells := 0, slots := 0, locals := 0 } : Room).cells ({ frames := 0, cells := 0, slots := 0, locals := 0 } : Room).slots) := by
  refine MetFree.of_bodySF (plainFor_of_name pn_2) hisR ?_
  intro p e s m args below meth c s₁ Bd hml0 hP hK
  obtain ⟨rfl, hZ, hh⟩ := hP
  have hx := Bd.exec
  have hby := Bd.bytes
  have hml : c.maxLocals = 2 := hml0
  have hown : s.vm.findClass site_52.cls = some m.cls := by have z := findClass_of_methodNamed Bd.named; exact z
  have hnm := (name_of_methodNamed Bd.named Bd.method).1
  have X0 : Stand p l e ({ frames := 0, cells := 0, slots := 0, locals := 0 } : Room) s m #[(.ref a), (.ref b)] below meth c s₁ [] 0 0 := Stand.of_body Bd
  have e0 : s₁.heap = h0 := by rw [← hh, Bd.state]; rfl
  have N0 := Fr.nil n0
  obtain ⟨G, hG, hst, hend⟩ := own_abs p e below s (own_QI (own_aft p1 q1 p2 q2) h0 n0) ({ frames := 0, cells := 0, slots := 0, locals := 0 } : Room).cells ({ frames := 0, cells := 0, slots := 0, locals := 0 } : Room).slots
  refine hG (S := s₁.setTop (entryFrame m #[(.ref a), (.ref b)] 2)) (hst (fun t k => castTop (ef_2 m a b) k) ?_)
  show G (s₁.setTop (mkF m 0 #[.val (.ref a), .val (.ref b)] []))
  refine hst (fun _ kt => XS.aloadN X0.here hx rfl (hb hby d2_0) rfl rfl kt) ?_
  show G (s₁.setTop (mkF m 1 #[.val (.ref a), .val (.ref b)] [(.ref a)]))
  obtain ⟨T_1, X_1, e_1, st_1⟩ := getF X0 hx hZ hown (host := "") (Or.inl (own_w14 hw)) Via.refl e0 F_e_a (g := (mkF m 1 #[.val (.ref a), .val (.ref b)] [(.ref a)])) rfl rfl (hb hby d2_1)
  refine hst st_1 ?_
  show G (T_1.setTop (mkF m 4 #[.val (.ref a), .val (.ref b)] [(.int p1)]))
  refine hst (fun _ kt => XS.aloadN X_1.here hx rfl (hb hby d2_4) rfl rfl kt) ?_
  show G (T_1.setTop (mkF m 5 #[.val (.ref a), .val (.ref b)] [(.ref b), (.int p1)]))
  obtain ⟨T_2, X_2, e_2, st_2⟩ := getF X_1 hx hZ hown (host := "") (Or.inl (own_w14 hw)) Via.refl e_1 F_e_b (g := (mkF m 5 #[.val (.ref a), .val (.ref b)] [(.ref b), (.int p1)])) rfl rfl (hb hby d2_5)
  refine hst st_2 ?_
  show G (T_2.setTop (mkF m 8 #[.val (.ref a), .val (.ref b)] [(.int p2), (.int p1)]))
  by_cases hc8 : p2 < p1
  ·
    refine hst (fun _ kt => XS.icmpYes X_2.here hx rfl (pc0 := 8) (pc' := 34) rfl (hb hby d2_8) rfl (tlt hc8).2.2.1 (by decide) (by decide) kt) ?_
    show G (T_2.setTop (mkF m 34 #[.val (.ref a), .val (.ref b)] []))
    refine hst (fun _ kt => XS.iconst X_2.here hx rfl (hb hby d2_34) kt) ?_
    show G (T_2.setTop (mkF m 35 #[.val (.ref a), .val (.ref b)] [(.int (1 : Int32))]))
    refine hst (fun _ kt => XS.goto X_2.here hx rfl (pc0 := 35) (pc' := 39) rfl (hb hby d2_35) (by decide) (by decide) kt) ?_
    show G (T_2.setTop (mkF m 39 #[.val (.ref a), .val (.ref b)] [(.int (1 : Int32))]))
    exact hend (own_goRet X_2 hx Bd.returns rfl (Or.inl ⟨rfl, by simp, _, rfl⟩) (hb hby d2_39) Bd.notSynchronized (by rw [e_2]; exact ⟨by simp [own_aft, hc8], N0, rfl⟩) (by decide) (by decide))
  ·
    refine hst (fun _ kt => XS.icmpNo X_2.here hx rfl (hb hby d2_8) rfl (flt hc8).2.2.1 kt) ?_
    show G (T_2.setTop (mkF m 11 #[.val (.ref a), .val (.ref b)] []))
    refine hst (fun _ kt => XS.aloadN X_2.here hx rfl (hb hby d2_11) rfl rfl kt) ?_
    show G (T_2.setTop (mkF m 12 #[.val (.ref a), .val (.ref b)] [(.ref a)]))
    obtain ⟨T_3, X_3, e_3, st_3⟩ := getF X_2 hx hZ hown (host := "") (Or.inl (own_w14 hw)) Via.refl e_2 F_e_a (g := (mkF m 12 #[.val (.ref a), .val (.ref b)] [(.ref a)])) rfl rfl (hb hby d2_12)
    refine hst st_3 ?_
    show G (T_3.setTop (mkF m 15 #[.val (.ref a), .val (.ref b)] [(.int p1)]))
    refine hst (fun _ kt => XS.aloadN X_3.here hx rfl (hb hby d2_15) rfl rfl kt) ?_
    show G (T_3.setTop (mkF m 16 #[.val (.ref a), .val (.ref b)] [(.ref b), (.int p1)]))
    obtain ⟨T_4, X_4, e_4, st_4⟩ := getF X_3 hx hZ hown (host := "") (Or.inl (own_w14 hw)) Via.refl e_3 F_e_b (g := (mkF m 16 #[.val (.ref a), .val (.ref b)] [(.ref b), (.int p1)])) rfl rfl (hb hby d2_16)
    refine hst st_4 ?_
    show G (T_4.setTop (mkF m 19 #[.val (.ref a), .val (.ref b)] [(.int p2), (.int p1)]))
    by_cases hc19 : p1 = p2
    ·
      refine hst (fun _ kt => XS.icmpNo X_4.here hx rfl (hb hby d2_19) rfl (teq hc19).2 kt) ?_
      show G (T_4.setTop (mkF m 22 #[.val (.ref a), .val (.ref b)] []))
      refine hst (fun _ kt => XS.aloadN X_4.here hx rfl (hb hby d2_22) rfl rfl kt) ?_
      show G (T_4.setTop (mkF m 23 #[.val (.ref a), .val (.ref b)] [(.ref a)]))
      obtain ⟨T_5, X_5, e_5, st_5⟩ := getF X_4 hx hZ hown (host := "") (Or.inl (own_w16 hw)) Via.refl e_4 F_v_a (g := (mkF m 23 #[.val (.ref a), .val (.ref b)] [(.ref a)])) rfl rfl (hb hby d2_23)
      refine hst st_5 ?_
      show G (T_5.setTop (mkF m 26 #[.val (.ref a), .val (.ref b)] [(.long q1)]))
      refine hst (fun _ kt => XS.aloadN X_5.here hx rfl (hb hby d2_26) rfl rfl kt) ?_
      show G (T_5.setTop (mkF m 27 #[.val (.ref a), .val (.ref b)] [(.ref b), (.long q1)]))
      obtain ⟨T_6, X_6, e_6, st_6⟩ := getF X_5 hx hZ hown (host := "") (Or.inl (own_w16 hw)) Via.refl e_5 F_v_b (g := (mkF m 27 #[.val (.ref a), .val (.ref b)] [(.ref b), (.long q1)])) rfl rfl (hb hby d2_27)
      refine hst st_6 ?_
      show G (T_6.setTop (mkF m 30 #[.val (.ref a), .val (.ref b)] [(.long q2), (.long q1)]))
      refine hst (fun _ kt => XS.lcmp X_6.here hx rfl (hb hby d2_30) rfl kt) ?_
      show G (T_6.setTop (mkF m 31 #[.val (.ref a), .val (.ref b)] [(.int (lcmpW q1 q2))]))
      by_cases hc31 : q2 < q1
      ·
        refine hst (fun _ kt => XS.ifNo X_6.here hx rfl (hb hby d2_31) rfl ((if0 _ _).trans (tlt ((lw_gt _ _).mpr hc31)).2.2.2) kt) ?_
        show G (T_6.setTop (mkF m 34 #[.val (.ref a), .val (.ref b)] []))
        refine hst (fun _ kt => XS.iconst X_6.here hx rfl (hb hby d2_34) kt) ?_
        show G (T_6.setTop (mkF m 35 #[.val (.ref a), .val (.ref b)] [(.int (1 : Int32))]))
        refine hst (fun _ kt => XS.goto X_6.here hx rfl (pc0 := 35) (pc' := 39) rfl (hb hby d2_35) (by decide) (by decide) kt) ?_
        show G (T_6.setTop (mkF m 39 #[.val (.ref a), .val (.ref b)] [(.int (1 : Int32))]))
        exact hend (own_goRet X_6 hx Bd.returns rfl (Or.inl ⟨rfl, by simp, _, rfl⟩) (hb hby d2_39) Bd.notSynchronized (by rw [e_6]; exact ⟨by simp only [own_aft, if_neg hc8, if_pos hc19, if_pos hc31], N0, rfl⟩) (by decide) (by decide))
      ·
        refine hst (fun _ kt => XS.ifYes X_6.here hx rfl (pc0 := 31) (pc' := 38) rfl (hb hby d2_31) rfl ((if0 _ _).trans (flt (mt (lw_gt _ _).mp hc31)).2.2.2) (by decide) (by decide) kt) ?_
        show G (T_6.setTop (mkF m 38 #[.val (.ref a), .val (.ref b)] []))
        refine hst (fun _ kt => XS.iconst X_6.here hx rfl (hb hby d2_38) kt) ?_
        show G (T_6.setTop (mkF m 39 #[.val (.ref a), .val (.ref b)] [(.int (0 : Int32))]))
        exact hend (own_goRet X_6 hx Bd.returns rfl (Or.inl ⟨rfl, by simp, _, rfl⟩) (hb hby d2_39) Bd.notSynchronized (by rw [e_6]; exact ⟨by simp only [own_aft, if_neg hc8, if_pos hc19, if_neg hc31], N0, rfl⟩) (by decide) (by decide))
    ·
      refine hst (fun _ kt => XS.icmpYes X_4.here hx rfl (pc0 := 19) (pc' := 38) rfl (hb hby d2_19) rfl (feq hc19).2 (by decide) (by decide) kt) ?_
      show G (T_4.setTop (mkF m 38 #[.val (.ref a), .val (.ref b)] []))
      refine hst (fun _ kt => XS.iconst X_4.here hx rfl (hb hby d2_38) kt) ?_
      show G (T_4.setTop (mkF m 39 #[.val (.ref a), .val (.ref b)] [(.int (0 : Int32))]))
      exact hend (own_goRet X_4 hx Bd.returns rfl (Or.inl ⟨rfl, by simp, _, rfl⟩) (hb hby d2_39) Bd.notSynchronized (by rw [e_4]; exact ⟨by simp only [own_aft, if_neg hc8, if_neg hc19], N0, rfl⟩) (by decide) (by decide))
theorem d3_0 : decode method_2_code 0 = .ok (.iload_n 0, 1) := by decide +kernel
theorem d3_1 : decode method_2_code 1 = .ok (.i2l, 1) := by decide +kernel
theorem d3_2 : decode method_2_code 2 = .ok (.iload_n 3, 1) := by decide +kernel
theorem d3_3 : decode method_2_code 3 = .ok (.i2l, 1) := by decide +kernel
theorem d3_4 : decode method_2_code 4 = .ok (.lsub, 1) := by decide +kernel
theorem d3_5 : decode method_2_code 5 = .ok (.lstore 6, 2) := by decide +kernel
theorem d3_7 : decode method_2_code 7 = .ok (.lload 6, 2) := by decide +kernel
theorem d3_9 : decode method_2_code 9 = .ok (.lconst 0, 1) := by decide +kernel
theorem d3_10 : decode method_2_code 10 = .ok (.lcmp, 1) := by decide +kernel
theorem d3_11 : decode method_2_code 11 = .ok (.ifCond .le 5, 3) := by decide +kernel
theorem d3_14 : decode method_2_code 14 = .ok (.iconst 1, 1) := by decide +kernel
theorem d3_15 : decode method_2_code 15 = .ok (.ireturn, 1) := by decide +kernel
theorem d3_16 : decode method_2_code 16 = .ok (.lload 6, 2) := by decide +kernel
theorem d3_18 : decode method_2_code 18 = .ok (.lconst 0, 1) := by decide +kernel
theorem d3_19 : decode method_2_code 19 = .ok (.lcmp, 1) := by decide +kernel
theorem d3_20 : decode method_2_code 20 = .ok (.ifCond .ge 5, 3) := by decide +kernel
theorem d3_23 : decode method_2_code 23 = .ok (.iconst 0, 1) := by decide +kernel
theorem d3_24 : decode method_2_code 24 = .ok (.ireturn, 1) := by decide +kernel
theorem d3_25 : decode method_2_code 25 = .ok (.lload_n 1, 1) := by decide +kernel
theorem d3_26 : decode method_2_code 26 = .ok (.lload 4, 2) := by decide +kernel
theorem d3_28 : decode method_2_code 28 = .ok (.lcmp, 1) := by decide +kernel
theorem d3_29 : decode method_2_code 29 = .ok (.ifCond .le 5, 3) := by decide +kernel
theorem d3_32 : decode method_2_code 32 = .ok (.iconst 1, 1) := by decide +kernel
theorem d3_33 : decode method_2_code 33 = .ok (.ireturn, 1) := by decide +kernel
theorem d3_34 : decode method_2_code 34 = .ok (.iconst 0, 1) := by decide +kernel
theorem d3_35 : decode method_2_code 35 = .ok (.ireturn, 1) := by decide +kernel
theorem ef_3 (m : MethodId) (p1 : Int32) (q1 : Int64) (p2 : Int32) (q2 : Int64) : entryFrame m #[(.int p1), (.long q1), (.int p2), (.long q2)] 8 = mkF m 0 #[.val (.int p1), .val (.long q1), .second, .val (.int p2), .val (.long q2), .second, .unset, .unset] [] := by first | (simp [entryFrame, mkF, argsToLocals, Value.category]; done) | rfl
theorem pn_3 : plainName x.cls = true := by first | decide +kernel | (simp [plainName, overriddenIn]; done)
set_option maxRecDepth 65536 in
set_option maxHeartbeats 40000000 in
theorem rm3 (l : Launch) (Z : State) (a0 : Array Value) (hw : ∀ d ∈ tables_1, d.before a0 Z = true) (ws : List Jvm.Cond) (p1 : Int32) (q1 : Int64) (p2 : Int32) (q2 : Int64) (h0 : Heap) (n0 : Nat) (Z0 : n0 ≤ h0.size) :
    MetFree l (⟨x.cls, "expected", "(IJIJ)Z"⟩ : MethodName) (head1 (Jvm.Cond.code (⟨x.cls, "expected", "(IJIJ)Z"⟩ : MethodName) method_2_code 8 (some .boolean) :: ws) ({ frames := 0, cells := 0, slots := 0, locals := 0 } : Room)) (fun a_ U_ => a_ = #[(.int p1), (.long q1), (.int p2), (.long q2)] ∧ Z.Warmed39 U_.vm ∧ U_.heap = h0) (fun _ _ _ _ _ => True) (fun _ U_ o_ W_ => ∃ v_ L_, o_ = .returned v_ ∧ own_QI (own_aft p1 q1 p2 q2) h0 n0 v_ W_.heap L_ ∧ FrameEnd U_ o_ W_ L_ ({ frames := 0, cells := 0, slots := 0, locals := 0 } : Room).cells ({ frames := 0, cells := 0, slots := 0, locals := 0 } : Room).slots) := by
  refine MetFree.of_bodySF (plainFor_of_name pn_3) hisR ?_
  intro p e s m args below meth c s₁ Bd hml0 hP hK
  obtain ⟨rfl, hZ, hh⟩ := hP
  have hx := Bd.exec
  have hby := Bd.bytes
  have hml : c.maxLocals = 8 := hml0
  have hown : s.vm.findClass x.cls = some m.cls := by have z := findClass_of_methodNamed Bd.named; exact z
  have hnm := (name_of_methodNamed Bd.named Bd.method).1
  have X0 : Stand p l e ({ frames := 0, cells := 0, slots := 0, locals := 0 } : Room) s m #[(.int p1), (.long q1), (.int p2), (.long q2)] below meth c s₁ [] 0 0 := Stand.of_body Bd
  have e0 : s₁.heap = h0 := by rw [← hh, Bd.state]; rfl
  have N0 := Fr.nil n0
  obtain ⟨G, hG, hst, hend⟩ := own_abs p e below s (own_QI (own_aft p1 q1 p2 q2) h0 n0) ({ frames := 0, cells := 0, slots := 0, locals := 0 } : Room).cells ({ frames := 0, cells := 0, slots := 0, locals := 0 } : Room).slots
  refine hG (S := s₁.setTop (entryFrame m #[(.int p1), (.long q1), (.int p2), (.long q2)] 8)) (hst (fun t k => castTop (ef_3 m p1 q1 p2 q2) k) ?_)
  show G (s₁.setTop (mkF m 0 #[.val (.int p1), .val (.long q1), .second, .val (.int p2), .val (.long q2), .second, .unset, .unset] []))
  refine hst (fun _ kt => XS.iloadN X0.here hx rfl (hb hby d3_0) rfl kt) ?_
  show G (s₁.setTop (mkF m 1 #[.val (.int p1), .val (.long q1), .second, .val (.int p2), .val (.long q2), .second, .unset, .unset] [(.int p1)]))
  refine hst (fun _ kt => XS.i2l X0.here hx rfl (hb hby d3_1) rfl kt) ?_
  show G (s₁.setTop (mkF m 2 #[.val (.int p1), .val (.long q1), .second, .val (.int p2), .val (.long q2), .second, .unset, .unset] [(.long (p1.toInt64))]))
  refine hst (fun _ kt => XS.iloadN X0.here hx rfl (hb hby d3_2) rfl kt) ?_
  show G (s₁.setTop (mkF m 3 #[.val (.int p1), .val (.long q1), .second, .val (.int p2), .val (.long q2), .second, .unset, .unset] [(.int p2), (.long (p1.toInt64))]))
  refine hst (fun _ kt => XS.i2l X0.here hx rfl (hb hby d3_3) rfl kt) ?_
  show G (s₁.setTop (mkF m 4 #[.val (.int p1), .val (.long q1), .second, .val (.int p2), .val (.long q2), .second, .unset, .unset] [(.long (p2.toInt64)), (.long (p1.toInt64))]))
  refine hst (fun _ kt => XS.lsub X0.here hx rfl (hb hby d3_4) rfl kt) ?_
  show G (s₁.setTop (mkF m 5 #[.val (.int p1), .val (.long q1), .second, .val (.int p2), .val (.long q2), .second, .unset, .unset] [(.long ((p1.toInt64) - (p2.toInt64)))]))
  refine hst (fun _ kt => XS.lstore X0.here hx rfl (hb hby d3_5) rfl (l' := #[.val (.int p1), .val (.long q1), .second, .val (.int p2), .val (.long q2), .second, .val (.long ((p1.toInt64) - (p2.toInt64))), .second]) rfl kt) ?_
  show G (s₁.setTop (mkF m 7 #[.val (.int p1), .val (.long q1), .second, .val (.int p2), .val (.long q2), .second, .val (.long ((p1.toInt64) - (p2.toInt64))), .second] []))
  refine hst (fun _ kt => XS.lload X0.here hx rfl (hb hby d3_7) rfl kt) ?_
  show G (s₁.setTop (mkF m 9 #[.val (.int p1), .val (.long q1), .second, .val (.int p2), .val (.long q2), .second, .val (.long ((p1.toInt64) - (p2.toInt64))), .second] [(.long ((p1.toInt64) - (p2.toInt64)))]))
  refine hst (fun _ kt => XS.lconst X0.here hx rfl (hb hby d3_9) kt) ?_
  show G (s₁.setTop (mkF m 10 #[.val (.int p1), .val (.long q1), .second, .val (.int p2), .val (.long q2), .second, .val (.long ((p1.toInt64) - (p2.toInt64))), .second] [(.long (0 : Int64)), (.long ((p1.toInt64) - (p2.toInt64)))]))
  refine hst (fun _ kt => XS.lcmp X0.here hx rfl (hb hby d3_10) rfl kt) ?_
  show G (s₁.setTop (mkF m 11 #[.val (.int p1), .val (.long q1), .second, .val (.int p2), .val (.long q2), .second, .val (.long ((p1.toInt64) - (p2.toInt64))), .second] [(.int (lcmpW ((p1.toInt64) - (p2.toInt64)) (0 : Int64)))]))
  by_cases hc11 : (0 : Int64) < ((p1.toInt64) - (p2.toInt64))
  ·
    refine hst (fun _ kt => XS.ifNo X0.here hx rfl (hb hby d3_11) rfl ((if0 _ _).trans (tlt ((lw_gt _ _).mpr hc11)).2.2.2) kt) ?_
    show G (s₁.setTop (mkF m 14 #[.val (.int p1), .val (.long q1), .second, .val (.int p2), .val (.long q2), .second, .val (.long ((p1.toInt64) - (p2.toInt64))), .second] []))
    refine hst (fun _ kt => XS.iconst X0.here hx rfl (hb hby d3_14) kt) ?_
    show G (s₁.setTop (mkF m 15 #[.val (.int p1), .val (.long q1), .second, .val (.int p2), .val (.long q2), .second, .val (.long ((p1.toInt64) - (p2.toInt64))), .second] [(.int (1 : Int32))]))
    exact hend (own_goRet X0 hx Bd.returns rfl (Or.inl ⟨rfl, by simp, _, rfl⟩) (hb hby d3_15) Bd.notSynchronized (by rw [e0]; exact ⟨by simp only [own_aft, if_pos ((own_sub_pos _ _).mp hc11)], N0, rfl⟩) (by decide) (by decide))
  ·
    refine hst (fun _ kt => XS.ifYes X0.here hx rfl (pc0 := 11) (pc' := 16) rfl (hb hby d3_11) rfl ((if0 _ _).trans (flt (mt (lw_gt _ _).mp hc11)).2.2.2) (by decide) (by decide) kt) ?_
    show G (s₁.setTop (mkF m 16 #[.val (.int p1), .val (.long q1), .second, .val (.int p2), .val (.long q2), .second, .val (.long ((p1.toInt64) - (p2.toInt64))), .second] []))
    refine hst (fun _ kt => XS.lload X0.here hx rfl (hb hby d3_16) rfl kt) ?_
    show G (s₁.setTop (mkF m 18 #[.val (.int p1), .val (.long q1), .second, .val (.int p2), .val (.long q2), .second, .val (.long ((p1.toInt64) - (p2.toInt64))), .second] [(.long ((p1.toInt64) - (p2.toInt64)))]))
    refine hst (fun _ kt => XS.lconst X0.here hx rfl (hb hby d3_18) kt) ?_
    show G (s₁.setTop (mkF m 19 #[.val (.int p1), .val (.long q1), .second, .val (.int p2), .val (.long q2), .second, .val (.long ((p1.toInt64) - (p2.toInt64))), .second] [(.long (0 : Int64)), (.long ((p1.toInt64) - (p2.toInt64)))]))
    refine hst (fun _ kt => XS.lcmp X0.here hx rfl (hb hby d3_19) rfl kt) ?_
    show G (s₁.setTop (mkF m 20 #[.val (.int p1), .val (.long q1), .second, .val (.int p2), .val (.long q2), .second, .val (.long ((p1.toInt64) - (p2.toInt64))), .second] [(.int (lcmpW ((p1.toInt64) - (p2.toInt64)) (0 : Int64)))]))
    by_cases hc20 : ((p1.toInt64) - (p2.toInt64)) < (0 : Int64)
    ·
      refine hst (fun _ kt => XS.ifNo X0.here hx rfl (hb hby d3_20) rfl ((if0 _ _).trans (tlt ((lw_lt _ _).mpr hc20)).2.1) kt) ?_
      show G (s₁.setTop (mkF m 23 #[.val (.int p1), .val (.long q1), .second, .val (.int p2), .val (.long q2), .second, .val (.long ((p1.toInt64) - (p2.toInt64))), .second] []))
      refine hst (fun _ kt => XS.iconst X0.here hx rfl (hb hby d3_23) kt) ?_
      show G (s₁.setTop (mkF m 24 #[.val (.int p1), .val (.long q1), .second, .val (.int p2), .val (.long q2), .second, .val (.long ((p1.toInt64) - (p2.toInt64))), .second] [(.int (0 : Int32))]))
      have q5 := own_asy _ _ ((own_sub_neg _ _).mp hc20)
      exact hend (own_goRet X0 hx Bd.returns rfl (Or.inl ⟨rfl, by simp, _, rfl⟩) (hb hby d3_24) Bd.notSynchronized (by rw [e0]; exact ⟨by simp only [own_aft, if_neg q5.1, if_neg (fun z => q5.2 (Eq.symm z))], N0, rfl⟩) (by decide) (by decide))
    ·
      refine hst (fun _ kt => XS.ifYes X0.here hx rfl (pc0 := 20) (pc' := 25) rfl (hb hby d3_20) rfl ((if0 _ _).trans (flt (mt (lw_lt _ _).mp hc20)).2.1) (by decide) (by decide) kt) ?_
      show G (s₁.setTop (mkF m 25 #[.val (.int p1), .val (.long q1), .second, .val (.int p2), .val (.long q2), .second, .val (.long ((p1.toInt64) - (p2.toInt64))), .second] []))
      refine hst (fun _ kt => XS.lloadN X0.here hx rfl (hb hby d3_25) rfl kt) ?_
      show G (s₁.setTop (mkF m 26 #[.val (.int p1), .val (.long q1), .second, .val (.int p2), .val (.long q2), .second, .val (.long ((p1.toInt64) - (p2.toInt64))), .second] [(.long q1)]))
      refine hst (fun _ kt => XS.lload X0.here hx rfl (hb hby d3_26) rfl kt) ?_
      show G (s₁.setTop (mkF m 28 #[.val (.int p1), .val (.long q1), .second, .val (.int p2), .val (.long q2), .second, .val (.long ((p1.toInt64) - (p2.toInt64))), .second] [(.long q2), (.long q1)]))
      refine hst (fun _ kt => XS.lcmp X0.here hx rfl (hb hby d3_28) rfl kt) ?_
      show G (s₁.setTop (mkF m 29 #[.val (.int p1), .val (.long q1), .second, .val (.int p2), .val (.long q2), .second, .val (.long ((p1.toInt64) - (p2.toInt64))), .second] [(.int (lcmpW q1 q2))]))
      have q6 := own_eq _ _ (mt (own_sub_pos _ _).mpr hc11) (mt (own_sub_neg _ _).mpr hc20)
      have q7 := own_irr p2
      by_cases hc29 : q2 < q1
      ·
        refine hst (fun _ kt => XS.ifNo X0.here hx rfl (hb hby d3_29) rfl ((if0 _ _).trans (tlt ((lw_gt _ _).mpr hc29)).2.2.2) kt) ?_
        show G (s₁.setTop (mkF m 32 #[.val (.int p1), .val (.long q1), .second, .val (.int p2), .val (.long q2), .second, .val (.long ((p1.toInt64) - (p2.toInt64))), .second] []))
        refine hst (fun _ kt => XS.iconst X0.here hx rfl (hb hby d3_32) kt) ?_
        show G (s₁.setTop (mkF m 33 #[.val (.int p1), .val (.long q1), .second, .val (.int p2), .val (.long q2), .second, .val (.long ((p1.toInt64) - (p2.toInt64))), .second] [(.int (1 : Int32))]))
        exact hend (own_goRet X0 hx Bd.returns rfl (Or.inl ⟨rfl, by simp, _, rfl⟩) (hb hby d3_33) Bd.notSynchronized (by rw [e0]; exact ⟨by subst q6; simp only [own_aft, if_neg q7, if_true, if_pos hc29], N0, rfl⟩) (by decide) (by decide))
      ·
        refine hst (fun _ kt => XS.ifYes X0.here hx rfl (pc0 := 29) (pc' := 34) rfl (hb hby d3_29) rfl ((if0 _ _).trans (flt (mt (lw_gt _ _).mp hc29)).2.2.2) (by decide) (by decide) kt) ?_
        show G (s₁.setTop (mkF m 34 #[.val (.int p1), .val (.long q1), .second, .val (.int p2), .val (.long q2), .second, .val (.long ((p1.toInt64) - (p2.toInt64))), .second] []))
        refine hst (fun _ kt => XS.iconst X0.here hx rfl (hb hby d3_34) kt) ?_
        show G (s₁.setTop (mkF m 35 #[.val (.int p1), .val (.long q1), .second, .val (.int p2), .val (.long q2), .second, .val (.long ((p1.toInt64) - (p2.toInt64))), .second] [(.int (0 : Int32))]))
        exact hend (own_goRet X0 hx Bd.returns rfl (Or.inl ⟨rfl, by simp, _, rfl⟩) (hb hby d3_35) Bd.notSynchronized (by rw [e0]; exact ⟨by subst q6; simp only [own_aft, if_neg q7, if_true, if_neg hc29], N0, rfl⟩) (by decide) (by decide))
theorem ef_0 (m : MethodId) (e1 : Int32) (v1 : Int64) (e2 : Int32) (v2 : Int64) (fl : Int32) : entryFrame m #[(.int e1), (.long v1), (.int e2), (.long v2), (.int fl)] maxLocals = mkF m 0 #[.val (.int e1), .val (.long v1), .second, .val (.int e2), .val (.long v2), .second, .val (.int fl), .unset, .unset, .unset, .unset, .unset, .unset, .unset, .unset, .unset, .unset] [] := by first | (simp [entryFrame, mkF, argsToLocals, Value.category, maxLocals]; done) | rfl
theorem pn_0 : plainName x.cls = true := by first | decide +kernel | (simp [plainName, overriddenIn]; done)
set_option maxRecDepth 65536 in
set_option maxHeartbeats 40000000 in
theorem rm0 (l : Launch) (Z : State) (a0 : Array Value) (hw : ∀ d ∈ tables_1, d.before a0 Z = true) (ws : List Jvm.Cond) (e1 : Int32) (v1 : Int64) (e2 : Int32) (v2 : Int64) (fl : Int32) (h0 : Heap) (n0 : Nat) (Z0 : n0 ≤ h0.size) :
    MetFree l x (head1 (Jvm.Cond.code x code maxLocals ret :: ws) room_1) (fun a_ U_ => a_ = #[(.int e1), (.long v1), (.int e2), (.long v2), (.int fl)] ∧ Z.Warmed39 U_.vm ∧ U_.heap = h0) (fun _ _ _ _ _ => True) (fun _ U_ o_ W_ => ∃ v_ L_, o_ = .returned v_ ∧ own_Q0 n0 v_ W_.heap L_ ∧ FrameEnd U_ o_ W_ L_ room_1.cells room_1.slots) := by
  refine MetFree.of_bodySF (plainFor_of_name pn_0) hisR ?_
  intro p e s m args below meth c s₁ Bd hml0 hP hK
  obtain ⟨rfl, hZ, hh⟩ := hP
  have hx := Bd.exec
  have hby := Bd.bytes
  have hml : c.maxLocals = 17 := hml0
  have hown : s.vm.findClass x.cls = some m.cls := by have z := findClass_of_methodNamed Bd.named; exact z
  have hnm := (name_of_methodNamed Bd.named Bd.method).1
  have X0 : Stand p l e room_1 s m #[(.int e1), (.long v1), (.int e2), (.long v2), (.int fl)] below meth c s₁ [] 0 0 := Stand.of_body Bd
  have e0 : s₁.heap = h0 := by rw [← hh, Bd.state]; rfl
  have N0 := Fr.nil n0
  obtain ⟨G, hG, hst, hend⟩ := own_abs p e below s (own_Q0 n0) room_1.cells room_1.slots
  refine hG (S := s₁.setTop (entryFrame m #[(.int e1), (.long v1), (.int e2), (.long v2), (.int fl)] maxLocals)) (hst (fun t k => castTop (ef_0 m e1 v1 e2 v2 fl) k) ?_)
  have J46 : ∀ (eb : Int32) (vb : Int64), G (s₁.setTop (mkF m 46 #[.val (.int e1), .val (.long v1), .second, .val (.int e2), .val (.long v2), .second, .val (.int fl), .val (.int eb), .val (.long vb), .second, .unset, .unset, .unset, .unset, .unset, .unset, .unset] [])) := by
    intro eb vb
    show G (s₁.setTop (mkF m 46 #[.val (.int e1), .val (.long v1), .second, .val (.int e2), .val (.long v2), .second, .val (.int fl), .val (.int eb), .val (.long vb), .second, .unset, .unset, .unset, .unset, .unset, .unset, .unset] []))
    obtain ⟨T_1, h_1, X_1, e_1, E_1, A_1, D_1, -, st_1⟩ := newO X0 hx hZ hown (own_w0 hw) (own_w1 hw) (own_w2 hw) e0 (g := (mkF m 46 #[.val (.int e1), .val (.long v1), .second, .val (.int e2), .val (.long v2), .second, .val (.int fl), .val (.int eb), .val (.long vb), .second, .unset, .unset, .unset, .unset, .unset, .unset, .unset] [])) rfl (hb hby at_46) (by decide) (by decide)
    obtain ⟨a, g_a⟩ : ∃ z, z = h0.size := ⟨_, rfl⟩
    rw [← g_a] at A_1 D_1 st_1
    have le_n0_a : n0 ≤ a := Nat.le_trans Z0 (Nat.le_of_eq g_a.symm)
    have Z0 := Nat.le_trans Z0 E_1.1
    have E_a : Exa Z h_1 a site_52.cls := A_1
    have F_controllerEpoch_a : Fld Z h_1 a site_52.cls "controllerEpoch" "I" (.int (0 : Int32)) := D_1 (Or.inr (own_w15 hw)) (ty := .int) (by decide)
    have F_version_a : Fld Z h_1 a site_52.cls "version" "J" (.long (0 : Int64)) := D_1 (Or.inr (own_w17 hw)) (ty := .long) (by decide)
    refine hst st_1 ?_
    show G (T_1.setTop (mkF m 49 #[.val (.int e1), .val (.long v1), .second, .val (.int e2), .val (.long v2), .second, .val (.int fl), .val (.int eb), .val (.long vb), .second, .unset, .unset, .unset, .unset, .unset, .unset, .unset] [(.ref a)]))
    refine hst (fun _ kt => XS.dup X_1.here hx rfl (hb hby at_49) rfl rfl kt) ?_
    show G (T_1.setTop (mkF m 50 #[.val (.int e1), .val (.long v1), .second, .val (.int e2), .val (.long v2), .second, .val (.int fl), .val (.int eb), .val (.long vb), .second, .unset, .unset, .unset, .unset, .unset, .unset, .unset] [(.ref a), (.ref a)]))
    refine hst (fun _ kt => XS.iloadN X_1.here hx rfl (hb hby at_50) rfl kt) ?_
    show G (T_1.setTop (mkF m 51 #[.val (.int e1), .val (.long v1), .second, .val (.int e2), .val (.long v2), .second, .val (.int fl), .val (.int eb), .val (.long vb), .second, .unset, .unset, .unset, .unset, .unset, .unset, .unset] [(.int e1), (.ref a), (.ref a)]))
    refine hst (fun _ kt => XS.lloadN X_1.here hx rfl (hb hby at_51) rfl kt) ?_
    show G (T_1.setTop (mkF m 52 #[.val (.int e1), .val (.long v1), .second, .val (.int e2), .val (.long v2), .second, .val (.int fl), .val (.int eb), .val (.long vb), .second, .unset, .unset, .unset, .unset, .unset, .unset, .unset] [(.long v1), (.int e1), (.ref a), (.ref a)]))
    obtain ⟨_, _, ⟨T_2, L_2, k_2, n_2⟩, -, X_2, ⟨Lc_2, hQ_2, l_2, y_2, z_2⟩, st_2⟩ := X_1.specialBack hx (y := (⟨site_52.cls, "<init>", "(IJ)V"⟩ : MethodName)) rfl hown (mvT hZ (own_w3 hw)) (mvT hZ (own_w4 hw)) (mvT hZ (own_w5 hw)) (by decide) (backOf (W := 1) (rm1 l Z a0 hw [] a e1 v1  h_1 n0 Z0 F_controllerEpoch_a F_version_a E_a le_n0_a) hZ (own_w5 hw) (own_w2 hw) (by decide) (by decide)) (g := (mkF m 52 #[.val (.int e1), .val (.long v1), .second, .val (.int e2), .val (.long v2), .second, .val (.int fl), .val (.int eb), .val (.long vb), .second, .unset, .unset, .unset, .unset, .unset, .unset, .unset] [(.long v1), (.int e1), (.ref a), (.ref a)])) rfl (by rw [hml]; rfl) (Steps.refl _) (a := a) (argsL := [(.int e1), (.long v1)]) (rest := [(.ref a)]) (lenOf pd_1 rfl) rfl (by show 2 * 0 + _ ≤ _; exact Nat.le_of_eq rfl) (hb hby at_52) (fun _ _ => ⟨rfl, e_1, (by decide : 1 + 0 ≤ _), (by decide : 2 + 0 ≤ _)⟩)
    dsimp only [Pt.U, Pt.locs, Pt.cells, Pt.slots] at X_2 l_2 y_2 z_2 st_2 hQ_2
    subst l_2 y_2 z_2
    obtain ⟨rfl, N_2q, K_2, Ex_2, Fa_2, Fb_2⟩ := hQ_2
    have Z0 := Nat.le_trans Z0 K_2.1
    have E_a := E_a.keep K_2
    have F_e_a := Fa_2
    have F_v_a := Fb_2
    have N_2 := Fr.app N0 N_2q
    refine hst (fun _ kt => st_2.trans kt) ?_
    show G (T_2.setTop (mkF m 55 #[.val (.int e1), .val (.long v1), .second, .val (.int e2), .val (.long v2), .second, .val (.int fl), .val (.int eb), .val (.long vb), .second, .unset, .unset, .unset, .unset, .unset, .unset, .unset] [(.ref a)]))
    refine hst (fun _ kt => XS.astore X_2.here hx rfl (hb hby at_55) rfl rfl (l' := #[.val (.int e1), .val (.long v1), .second, .val (.int e2), .val (.long v2), .second, .val (.int fl), .val (.int eb), .val (.long vb), .second, .val (.ref a), .unset, .unset, .unset, .unset, .unset, .unset]) rfl kt) ?_
    show G (T_2.setTop (mkF m 57 #[.val (.int e1), .val (.long v1), .second, .val (.int e2), .val (.long v2), .second, .val (.int fl), .val (.int eb), .val (.long vb), .second, .val (.ref a), .unset, .unset, .unset, .unset, .unset, .unset] []))
    obtain ⟨T_3, h_3, X_3, e_3, E_3, A_3, D_3, -, st_3⟩ := newO X_2 hx hZ hown (own_w0 hw) (own_w1 hw) (own_w2 hw) rfl (g := (mkF m 57 #[.val (.int e1), .val (.long v1), .second, .val (.int e2), .val (.long v2), .second, .val (.int fl), .val (.int eb), .val (.long vb), .second, .val (.ref a), .unset, .unset, .unset, .unset, .unset, .unset] [])) rfl (hb hby at_57) (by decide) (by decide)
    obtain ⟨b, g_b⟩ : ∃ z, z = T_2.heap.size := ⟨_, rfl⟩
    rw [← g_b] at A_3 D_3 st_3
    have ne_a_b : a ≠ b := Nat.ne_of_lt (Nat.lt_of_lt_of_le E_a.lt (Nat.le_of_eq g_b.symm))
    have le_n0_b : n0 ≤ b := Nat.le_trans Z0 (Nat.le_of_eq g_b.symm)
    have Z0 := Nat.le_trans Z0 E_3.1
    have E_a := E_a.ext E_3
    have F_e_a := F_e_a.ext E_3
    have F_v_a := F_v_a.ext E_3
    have E_b : Exa Z h_3 b site_52.cls := A_3
    have F_controllerEpoch_b : Fld Z h_3 b site_52.cls "controllerEpoch" "I" (.int (0 : Int32)) := D_3 (Or.inr (own_w15 hw)) (ty := .int) (by decide)
    have F_version_b : Fld Z h_3 b site_52.cls "version" "J" (.long (0 : Int64)) := D_3 (Or.inr (own_w17 hw)) (ty := .long) (by decide)
    refine hst st_3 ?_
    show G (T_3.setTop (mkF m 60 #[.val (.int e1), .val (.long v1), .second, .val (.int e2), .val (.long v2), .second, .val (.int fl), .val (.int eb), .val (.long vb), .second, .val (.ref a), .unset, .unset, .unset, .unset, .unset, .unset] [(.ref b)]))
    refine hst (fun _ kt => XS.dup X_3.here hx rfl (hb hby at_60) rfl rfl kt) ?_
    show G (T_3.setTop (mkF m 61 #[.val (.int e1), .val (.long v1), .second, .val (.int e2), .val (.long v2), .second, .val (.int fl), .val (.int eb), .val (.long vb), .second, .val (.ref a), .unset, .unset, .unset, .unset, .unset, .unset] [(.ref b), (.ref b)]))
    refine hst (fun _ kt => XS.iload X_3.here hx rfl (hb hby at_61) rfl kt) ?_
    show G (T_3.setTop (mkF m 63 #[.val (.int e1), .val (.long v1), .second, .val (.int e2), .val (.long v2), .second, .val (.int fl), .val (.int eb), .val (.long vb), .second, .val (.ref a), .unset, .unset, .unset, .unset, .unset, .unset] [(.int eb), (.ref b), (.ref b)]))
    refine hst (fun _ kt => XS.lload X_3.here hx rfl (hb hby at_63) rfl kt) ?_
    show G (T_3.setTop (mkF m 65 #[.val (.int e1), .val (.long v1), .second, .val (.int e2), .val (.long v2), .second, .val (.int fl), .val (.int eb), .val (.long vb), .second, .val (.ref a), .unset, .unset, .unset, .unset, .unset, .unset] [(.long vb), (.int eb), (.ref b), (.ref b)]))
    obtain ⟨_, _, ⟨T_4, L_4, k_4, n_4⟩, -, X_4, ⟨Lc_4, hQ_4, l_4, y_4, z_4⟩, st_4⟩ := X_3.specialBack hx (y := (⟨site_52.cls, "<init>", "(IJ)V"⟩ : MethodName)) rfl hown (mvT hZ (own_w3 hw)) (mvT hZ (own_w4 hw)) (mvT hZ (own_w5 hw)) (by decide) (backOf (W := 1) (rm1 l Z a0 hw [] b eb vb  h_3 n0 Z0 F_controllerEpoch_b F_version_b E_b le_n0_b) hZ (own_w5 hw) (own_w2 hw) (by decide) (by decide)) (g := (mkF m 65 #[.val (.int e1), .val (.long v1), .second, .val (.int e2), .val (.long v2), .second, .val (.int fl), .val (.int eb), .val (.long vb), .second, .val (.ref a), .unset, .unset, .unset, .unset, .unset, .unset] [(.long vb), (.int eb), (.ref b), (.ref b)])) rfl (by rw [hml]; rfl) (Steps.refl _) (a := b) (argsL := [(.int eb), (.long vb)]) (rest := [(.ref b)]) (lenOf pd_1 rfl) rfl (by show 2 * 0 + _ ≤ _; exact Nat.le_of_eq rfl) (hb hby at_65) (fun _ _ => ⟨rfl, e_3, (by decide : 2 + 0 ≤ _), (by decide : 4 + 0 ≤ _)⟩)
    dsimp only [Pt.U, Pt.locs, Pt.cells, Pt.slots] at X_4 l_4 y_4 z_4 st_4 hQ_4
    subst l_4 y_4 z_4
    obtain ⟨rfl, N_4q, K_4, Ex_4, Fa_4, Fb_4⟩ := hQ_4
    have Z0 := Nat.le_trans Z0 K_4.1
    have E_a := E_a.keep K_4
    have F_e_a := F_e_a.keep K_4 (ninS ne_a_b nin0)
    have F_v_a := F_v_a.keep K_4 (ninS ne_a_b nin0)
    have E_b := E_b.keep K_4
    have F_e_b := Fa_4
    have F_v_b := Fb_4
    have N_4 := Fr.app N_2 N_4q
    refine hst (fun _ kt => st_4.trans kt) ?_
    show G (T_4.setTop (mkF m 68 #[.val (.int e1), .val (.long v1), .second, .val (.int e2), .val (.long v2), .second, .val (.int fl), .val (.int eb), .val (.long vb), .second, .val (.ref a), .unset, .unset, .unset, .unset, .unset, .unset] [(.ref b)]))
    refine hst (fun _ kt => XS.astore X_4.here hx rfl (hb hby at_68) rfl rfl (l' := #[.val (.int e1), .val (.long v1), .second, .val (.int e2), .val (.long v2), .second, .val (.int fl), .val (.int eb), .val (.long vb), .second, .val (.ref a), .val (.ref b), .unset, .unset, .unset, .unset, .unset]) rfl kt) ?_
    show G (T_4.setTop (mkF m 70 #[.val (.int e1), .val (.long v1), .second, .val (.int e2), .val (.long v2), .second, .val (.int fl), .val (.int eb), .val (.long vb), .second, .val (.ref a), .val (.ref b), .unset, .unset, .unset, .unset, .unset] []))
    refine hst (fun _ kt => XS.aload X_4.here hx rfl (hb hby at_70) rfl rfl kt) ?_
    show G (T_4.setTop (mkF m 72 #[.val (.int e1), .val (.long v1), .second, .val (.int e2), .val (.long v2), .second, .val (.int fl), .val (.int eb), .val (.long vb), .second, .val (.ref a), .val (.ref b), .unset, .unset, .unset, .unset, .unset] [(.ref a)]))
    refine hst (fun _ kt => XS.aload X_4.here hx rfl (hb hby at_72) rfl rfl kt) ?_
    show G (T_4.setTop (mkF m 74 #[.val (.int e1), .val (.long v1), .second, .val (.int e2), .val (.long v2), .second, .val (.int fl), .val (.int eb), .val (.long vb), .second, .val (.ref a), .val (.ref b), .unset, .unset, .unset, .unset, .unset] [(.ref b), (.ref a)]))
    obtain ⟨cq_5, kq_5, q_5a, q_5b, q_5c⟩ := isOf hZ rfl E_a
    obtain ⟨_, _, ⟨T_5, L_5, k_5, n_5⟩, -, X_5, ⟨Lc_5, hQ_5, l_5, y_5, z_5⟩, st_5⟩ := X_4.virtualBack hx (y := (⟨site_52.cls, "isAfter", site_74.desc⟩ : MethodName)) (z := (⟨site_52.cls, "isAfter", site_74.desc⟩ : MethodName)) hown (mvT hZ (own_w18 hw)) (mvT hZ (own_w19 hw)) (notFace_of_selects (args := #[]) (mvT hZ (own_w21 hw))) (mvT hZ (own_w21 hw)) (mvT hZ (own_w20 hw)) (by decide) (backOf (W := 0) (rm2 l Z a0 hw [] a b e1 v1 eb vb T_4.heap n0 Z0 F_e_a F_v_a F_e_b F_v_b) hZ (own_w22 hw) (own_w2 hw) (by decide) (by decide)) q_5a q_5c (g := (mkF m 74 #[.val (.int e1), .val (.long v1), .second, .val (.int e2), .val (.long v2), .second, .val (.int fl), .val (.int eb), .val (.long vb), .second, .val (.ref a), .val (.ref b), .unset, .unset, .unset, .unset, .unset] [(.ref b), (.ref a)])) rfl (by rw [hml]; rfl) (Steps.refl _) (argsL := [(.ref b)]) (rest := []) (lenOf pd_2 rfl) rfl (by show 2 * 0 + _ ≤ _; exact Nat.le_of_eq rfl) (hb hby at_74) (fun _ _ => ⟨rfl, rfl, (by decide : 2 + 0 ≤ _), (by decide : 4 + 0 ≤ _)⟩)
    dsimp only [Pt.U, Pt.locs, Pt.cells, Pt.slots] at X_5 l_5 y_5 z_5 st_5 hQ_5
    subst l_5 y_5 z_5
    obtain ⟨rfl, N_5q, eh_5⟩ := hQ_5
    have N_5 := Fr.app N_4 N_5q
    refine hst (fun _ kt => st_5.trans kt) ?_
    show G (T_5.setTop (mkF m 77 #[.val (.int e1), .val (.long v1), .second, .val (.int e2), .val (.long v2), .second, .val (.int fl), .val (.int eb), .val (.long vb), .second, .val (.ref a), .val (.ref b), .unset, .unset, .unset, .unset, .unset] [(.int (own_aft e1 v1 eb vb))]))
    refine hst (fun _ kt => XS.istore X_5.here hx rfl (hb hby at_77) rfl (l' := #[.val (.int e1), .val (.long v1), .second, .val (.int e2), .val (.long v2), .second, .val (.int fl), .val (.int eb), .val (.long vb), .second, .val (.ref a), .val (.ref b), .val (.int (own_aft e1 v1 eb vb)), .unset, .unset, .unset, .unset]) rfl kt) ?_
    show G (T_5.setTop (mkF m 79 #[.val (.int e1), .val (.long v1), .second, .val (.int e2), .val (.long v2), .second, .val (.int fl), .val (.int eb), .val (.long vb), .second, .val (.ref a), .val (.ref b), .val (.int (own_aft e1 v1 eb vb)), .unset, .unset, .unset, .unset] []))
    refine hst (fun _ kt => XS.aload X_5.here hx rfl (hb hby at_79) rfl rfl kt) ?_
    show G (T_5.setTop (mkF m 81 #[.val (.int e1), .val (.long v1), .second, .val (.int e2), .val (.long v2), .second, .val (.int fl), .val (.int eb), .val (.long vb), .second, .val (.ref a), .val (.ref b), .val (.int (own_aft e1 v1 eb vb)), .unset, .unset, .unset, .unset] [(.ref b)]))
    refine hst (fun _ kt => XS.aload X_5.here hx rfl (hb hby at_81) rfl rfl kt) ?_
    show G (T_5.setTop (mkF m 83 #[.val (.int e1), .val (.long v1), .second, .val (.int e2), .val (.long v2), .second, .val (.int fl), .val (.int eb), .val (.long vb), .second, .val (.ref a), .val (.ref b), .val (.int (own_aft e1 v1 eb vb)), .unset, .unset, .unset, .unset] [(.ref a), (.ref b)]))
    obtain ⟨cq_6, kq_6, q_6a, q_6b, q_6c⟩ := isOf hZ eh_5 E_b
    obtain ⟨_, _, ⟨T_6, L_6, k_6, n_6⟩, -, X_6, ⟨Lc_6, hQ_6, l_6, y_6, z_6⟩, st_6⟩ := X_5.virtualBack hx (y := (⟨site_52.cls, "isAfter", site_74.desc⟩ : MethodName)) (z := (⟨site_52.cls, "isAfter", site_74.desc⟩ : MethodName)) hown (mvT hZ (own_w18 hw)) (mvT hZ (own_w19 hw)) (notFace_of_selects (args := #[]) (mvT hZ (own_w21 hw))) (mvT hZ (own_w21 hw)) (mvT hZ (own_w20 hw)) (by decide) (backOf (W := 0) (rm2 l Z a0 hw [] b a eb vb e1 v1 T_4.heap n0 Z0 F_e_b F_v_b F_e_a F_v_a) hZ (own_w22 hw) (own_w2 hw) (by decide) (by decide)) q_6a q_6c (g := (mkF m 83 #[.val (.int e1), .val (.long v1), .second, .val (.int e2), .val (.long v2), .second, .val (.int fl), .val (.int eb), .val (.long vb), .second, .val (.ref a), .val (.ref b), .val (.int (own_aft e1 v1 eb vb)), .unset, .unset, .unset, .unset] [(.ref a), (.ref b)])) rfl (by rw [hml]; rfl) (Steps.refl _) (argsL := [(.ref a)]) (rest := []) (lenOf pd_2 rfl) rfl (by show 2 * 0 + _ ≤ _; exact Nat.le_of_eq rfl) (hb hby at_83) (fun _ _ => ⟨rfl, eh_5, (by decide : 2 + 0 ≤ _), (by decide : 4 + 0 ≤ _)⟩)
    dsimp only [Pt.U, Pt.locs, Pt.cells, Pt.slots] at X_6 l_6 y_6 z_6 st_6 hQ_6
    subst l_6 y_6 z_6
    obtain ⟨rfl, N_6q, eh_6⟩ := hQ_6
    have N_6 := Fr.app N_5 N_6q
    refine hst (fun _ kt => st_6.trans kt) ?_
    show G (T_6.setTop (mkF m 86 #[.val (.int e1), .val (.long v1), .second, .val (.int e2), .val (.long v2), .second, .val (.int fl), .val (.int eb), .val (.long vb), .second, .val (.ref a), .val (.ref b), .val (.int (own_aft e1 v1 eb vb)), .unset, .unset, .unset, .unset] [(.int (own_aft eb vb e1 v1))]))
    refine hst (fun _ kt => XS.istore X_6.here hx rfl (hb hby at_86) rfl (l' := #[.val (.int e1), .val (.long v1), .second, .val (.int e2), .val (.long v2), .second, .val (.int fl), .val (.int eb), .val (.long vb), .second, .val (.ref a), .val (.ref b), .val (.int (own_aft e1 v1 eb vb)), .val (.int (own_aft eb vb e1 v1)), .unset, .unset, .unset]) rfl kt) ?_
    show G (T_6.setTop (mkF m 88 #[.val (.int e1), .val (.long v1), .second, .val (.int e2), .val (.long v2), .second, .val (.int fl), .val (.int eb), .val (.long vb), .second, .val (.ref a), .val (.ref b), .val (.int (own_aft e1 v1 eb vb)), .val (.int (own_aft eb vb e1 v1)), .unset, .unset, .unset] []))
    refine hst (fun _ kt => XS.iload X_6.here hx rfl (hb hby at_88) rfl kt) ?_
    show G (T_6.setTop (mkF m 90 #[.val (.int e1), .val (.long v1), .second, .val (.int e2), .val (.long v2), .second, .val (.int fl), .val (.int eb), .val (.long vb), .second, .val (.ref a), .val (.ref b), .val (.int (own_aft e1 v1 eb vb)), .val (.int (own_aft eb vb e1 v1)), .unset, .unset, .unset] [(.int (own_aft e1 v1 eb vb))]))
    refine hst (fun _ kt => XS.iloadN X_6.here hx rfl (hb hby at_90) rfl kt) ?_
    show G (T_6.setTop (mkF m 91 #[.val (.int e1), .val (.long v1), .second, .val (.int e2), .val (.long v2), .second, .val (.int fl), .val (.int eb), .val (.long vb), .second, .val (.ref a), .val (.ref b), .val (.int (own_aft e1 v1 eb vb)), .val (.int (own_aft eb vb e1 v1)), .unset, .unset, .unset] [(.int e1), (.int (own_aft e1 v1 eb vb))]))
    refine hst (fun _ kt => XS.lloadN X_6.here hx rfl (hb hby at_91) rfl kt) ?_
    show G (T_6.setTop (mkF m 92 #[.val (.int e1), .val (.long v1), .second, .val (.int e2), .val (.long v2), .second, .val (.int fl), .val (.int eb), .val (.long vb), .second, .val (.ref a), .val (.ref b), .val (.int (own_aft e1 v1 eb vb)), .val (.int (own_aft eb vb e1 v1)), .unset, .unset, .unset] [(.long v1), (.int e1), (.int (own_aft e1 v1 eb vb))]))
    refine hst (fun _ kt => XS.iload X_6.here hx rfl (hb hby at_92) rfl kt) ?_
    show G (T_6.setTop (mkF m 94 #[.val (.int e1), .val (.long v1), .second, .val (.int e2), .val (.long v2), .second, .val (.int fl), .val (.int eb), .val (.long vb), .second, .val (.ref a), .val (.ref b), .val (.int (own_aft e1 v1 eb vb)), .val (.int (own_aft eb vb e1 v1)), .unset, .unset, .unset] [(.int eb), (.long v1), (.int e1), (.int (own_aft e1 v1 eb vb))]))
    refine hst (fun _ kt => XS.lload X_6.here hx rfl (hb hby at_94) rfl kt) ?_
    show G (T_6.setTop (mkF m 96 #[.val (.int e1), .val (.long v1), .second, .val (.int e2), .val (.long v2), .second, .val (.int fl), .val (.int eb), .val (.long vb), .second, .val (.ref a), .val (.ref b), .val (.int (own_aft e1 v1 eb vb)), .val (.int (own_aft eb vb e1 v1)), .unset, .unset, .unset] [(.long vb), (.int eb), (.long v1), (.int e1), (.int (own_aft e1 v1 eb vb))]))
    obtain ⟨_, _, ⟨T_7, L_7, k_7, n_7⟩, -, X_7, ⟨Lc_7, hQ_7, l_7, y_7, z_7⟩, st_7⟩ := Jvm.LawKit.callS X_6 hx (y := (⟨x.cls, "expected", "(IJIJ)Z"⟩ : MethodName)) hown (mvT hZ (own_w23 hw)) (mvT hZ (own_w24 hw)) (mvT hZ (own_w25 hw)) (mvT hZ (own_w26 hw)) (by decide) (backOf (W := 1) (rm3 l Z a0 hw [] e1 v1 eb vb  T_4.heap n0 Z0) hZ (own_w26 hw) (own_w25 hw) (by decide) (by decide)) (g := (mkF m 96 #[.val (.int e1), .val (.long v1), .second, .val (.int e2), .val (.long v2), .second, .val (.int fl), .val (.int eb), .val (.long vb), .second, .val (.ref a), .val (.ref b), .val (.int (own_aft e1 v1 eb vb)), .val (.int (own_aft eb vb e1 v1)), .unset, .unset, .unset] [(.long vb), (.int eb), (.long v1), (.int e1), (.int (own_aft e1 v1 eb vb))])) rfl (by rw [hml]; rfl) (argsL := [(.int e1), (.long v1), (.int eb), (.long vb)]) (rest := [(.int (own_aft e1 v1 eb vb))]) (lenOf pd_3 rfl) rfl (by show 2 * 0 + _ ≤ _; exact Nat.le_of_eq rfl) (hb hby at_96) (fun _ _ => ⟨rfl, eh_6, (by decide : 2 + 0 ≤ _), (by decide : 4 + 0 ≤ _)⟩)
    dsimp only [Pt.U, Pt.locs, Pt.cells, Pt.slots] at X_7 l_7 y_7 z_7 st_7 hQ_7
    subst l_7 y_7 z_7
    obtain ⟨rfl, N_7q, eh_7⟩ := hQ_7
    have N_7 := Fr.app N_6 N_7q
    refine hst (fun _ kt => st_7 _ kt) ?_
    show G (T_7.setTop (mkF m 99 #[.val (.int e1), .val (.long v1), .second, .val (.int e2), .val (.long v2), .second, .val (.int fl), .val (.int eb), .val (.long vb), .second, .val (.ref a), .val (.ref b), .val (.int (own_aft e1 v1 eb vb)), .val (.int (own_aft eb vb e1 v1)), .unset, .unset, .unset] [(.int (own_aft e1 v1 eb vb)), (.int (own_aft e1 v1 eb vb))]))
    have hc99 : (own_aft e1 v1 eb vb) = (own_aft e1 v1 eb vb) := rfl
    refine hst (fun _ kt => XS.icmpNo X_7.here hx rfl (hb hby at_99) rfl (teq hc99).2 kt) ?_
    show G (T_7.setTop (mkF m 102 #[.val (.int e1), .val (.long v1), .second, .val (.int e2), .val (.long v2), .second, .val (.int fl), .val (.int eb), .val (.long vb), .second, .val (.ref a), .val (.ref b), .val (.int (own_aft e1 v1 eb vb)), .val (.int (own_aft eb vb e1 v1)), .unset, .unset, .unset] []))
    refine hst (fun _ kt => XS.iconst X_7.here hx rfl (hb hby at_102) kt) ?_
    show G (T_7.setTop (mkF m 103 #[.val (.int e1), .val (.long v1), .second, .val (.int e2), .val (.long v2), .second, .val (.int fl), .val (.int eb), .val (.long vb), .second, .val (.ref a), .val (.ref b), .val (.int (own_aft e1 v1 eb vb)), .val (.int (own_aft eb vb e1 v1)), .unset, .unset, .unset] [(.int (1 : Int32))]))
    refine hst (fun _ kt => XS.goto X_7.here hx rfl (pc0 := 103) (pc' := 107) rfl (hb hby at_103) (by decide) (by decide) kt) ?_
    show G (T_7.setTop (mkF m 107 #[.val (.int e1), .val (.long v1), .second, .val (.int e2), .val (.long v2), .second, .val (.int fl), .val (.int eb), .val (.long vb), .second, .val (.ref a), .val (.ref b), .val (.int (own_aft e1 v1 eb vb)), .val (.int (own_aft eb vb e1 v1)), .unset, .unset, .unset] [(.int (1 : Int32))]))
    refine hst (fun _ kt => XS.istore X_7.here hx rfl (hb hby at_107) rfl (l' := #[.val (.int e1), .val (.long v1), .second, .val (.int e2), .val (.long v2), .second, .val (.int fl), .val (.int eb), .val (.long vb), .second, .val (.ref a), .val (.ref b), .val (.int (own_aft e1 v1 eb vb)), .val (.int (own_aft eb vb e1 v1)), .val (.int (1 : Int32)), .unset, .unset]) rfl kt) ?_
    show G (T_7.setTop (mkF m 109 #[.val (.int e1), .val (.long v1), .second, .val (.int e2), .val (.long v2), .second, .val (.int fl), .val (.int eb), .val (.long vb), .second, .val (.ref a), .val (.ref b), .val (.int (own_aft e1 v1 eb vb)), .val (.int (own_aft eb vb e1 v1)), .val (.int (1 : Int32)), .unset, .unset] []))
    refine hst (fun _ kt => XS.iload X_7.here hx rfl (hb hby at_109) rfl kt) ?_
    show G (T_7.setTop (mkF m 111 #[.val (.int e1), .val (.long v1), .second, .val (.int e2), .val (.long v2), .second, .val (.int fl), .val (.int eb), .val (.long vb), .second, .val (.ref a), .val (.ref b), .val (.int (own_aft e1 v1 eb vb)), .val (.int (own_aft eb vb e1 v1)), .val (.int (1 : Int32)), .unset, .unset] [(.int (own_aft eb vb e1 v1))]))
    refine hst (fun _ kt => XS.iload X_7.here hx rfl (hb hby at_111) rfl kt) ?_
    show G (T_7.setTop (mkF m 113 #[.val (.int e1), .val (.long v1), .second, .val (.int e2), .val (.long v2), .second, .val (.int fl), .val (.int eb), .val (.long vb), .second, .val (.ref a), .val (.ref b), .val (.int (own_aft e1 v1 eb vb)), .val (.int (own_aft eb vb e1 v1)), .val (.int (1 : Int32)), .unset, .unset] [(.int eb), (.int (own_aft eb vb e1 v1))]))
    refine hst (fun _ kt => XS.lload X_7.here hx rfl (hb hby at_113) rfl kt) ?_
    show G (T_7.setTop (mkF m 115 #[.val (.int e1), .val (.long v1), .second, .val (.int e2), .val (.long v2), .second, .val (.int fl), .val (.int eb), .val (.long vb), .second, .val (.ref a), .val (.ref b), .val (.int (own_aft e1 v1 eb vb)), .val (.int (own_aft eb vb e1 v1)), .val (.int (1 : Int32)), .unset, .unset] [(.long vb), (.int eb), (.int (own_aft eb vb e1 v1))]))
    refine hst (fun _ kt => XS.iloadN X_7.here hx rfl (hb hby at_115) rfl kt) ?_
    show G (T_7.setTop (mkF m 116 #[.val (.int e1), .val (.long v1), .second, .val (.int e2), .val (.long v2), .second, .val (.int fl), .val (.int eb), .val (.long vb), .second, .val (.ref a), .val (.ref b), .val (.int (own_aft e1 v1 eb vb)), .val (.int (own_aft eb vb e1 v1)), .val (.int (1 : Int32)), .unset, .unset] [(.int e1), (.long vb), (.int eb), (.int (own_aft eb vb e1 v1))]))
    refine hst (fun _ kt => XS.lloadN X_7.here hx rfl (hb hby at_116) rfl kt) ?_
    show G (T_7.setTop (mkF m 117 #[.val (.int e1), .val (.long v1), .second, .val (.int e2), .val (.long v2), .second, .val (.int fl), .val (.int eb), .val (.long vb), .second, .val (.ref a), .val (.ref b), .val (.int (own_aft e1 v1 eb vb)), .val (.int (own_aft eb vb e1 v1)), .val (.int (1 : Int32)), .unset, .unset] [(.long v1), (.int e1), (.long vb), (.int eb), (.int (own_aft eb vb e1 v1))]))
    obtain ⟨_, _, ⟨T_8, L_8, k_8, n_8⟩, -, X_8, ⟨Lc_8, hQ_8, l_8, y_8, z_8⟩, st_8⟩ := Jvm.LawKit.callS X_7 hx (y := (⟨x.cls, "expected", "(IJIJ)Z"⟩ : MethodName)) hown (mvT hZ (own_w23 hw)) (mvT hZ (own_w24 hw)) (mvT hZ (own_w25 hw)) (mvT hZ (own_w26 hw)) (by decide) (backOf (W := 1) (rm3 l Z a0 hw [] eb vb e1 v1  T_4.heap n0 Z0) hZ (own_w26 hw) (own_w25 hw) (by decide) (by decide)) (g := (mkF m 117 #[.val (.int e1), .val (.long v1), .second, .val (.int e2), .val (.long v2), .second, .val (.int fl), .val (.int eb), .val (.long vb), .second, .val (.ref a), .val (.ref b), .val (.int (own_aft e1 v1 eb vb)), .val (.int (own_aft eb vb e1 v1)), .val (.int (1 : Int32)), .unset, .unset] [(.long v1), (.int e1), (.long vb), (.int eb), (.int (own_aft eb vb e1 v1))])) rfl (by rw [hml]; rfl) (argsL := [(.int eb), (.long vb), (.int e1), (.long v1)]) (rest := [(.int (own_aft eb vb e1 v1))]) (lenOf pd_3 rfl) rfl (by show 2 * 0 + _ ≤ _; exact Nat.le_of_eq rfl) (hb hby at_117) (fun _ _ => ⟨rfl, eh_7, (by decide : 2 + 0 ≤ _), (by decide : 4 + 0 ≤ _)⟩)
    dsimp only [Pt.U, Pt.locs, Pt.cells, Pt.slots] at X_8 l_8 y_8 z_8 st_8 hQ_8
    subst l_8 y_8 z_8
    obtain ⟨rfl, N_8q, eh_8⟩ := hQ_8
    have N_8 := Fr.app N_7 N_8q
    refine hst (fun _ kt => st_8 _ kt) ?_
    show G (T_8.setTop (mkF m 120 #[.val (.int e1), .val (.long v1), .second, .val (.int e2), .val (.long v2), .second, .val (.int fl), .val (.int eb), .val (.long vb), .second, .val (.ref a), .val (.ref b), .val (.int (own_aft e1 v1 eb vb)), .val (.int (own_aft eb vb e1 v1)), .val (.int (1 : Int32)), .unset, .unset] [(.int (own_aft eb vb e1 v1)), (.int (own_aft eb vb e1 v1))]))
    have hc120 : (own_aft eb vb e1 v1) = (own_aft eb vb e1 v1) := rfl
    refine hst (fun _ kt => XS.icmpNo X_8.here hx rfl (hb hby at_120) rfl (teq hc120).2 kt) ?_
    show G (T_8.setTop (mkF m 123 #[.val (.int e1), .val (.long v1), .second, .val (.int e2), .val (.long v2), .second, .val (.int fl), .val (.int eb), .val (.long vb), .second, .val (.ref a), .val (.ref b), .val (.int (own_aft e1 v1 eb vb)), .val (.int (own_aft eb vb e1 v1)), .val (.int (1 : Int32)), .unset, .unset] []))
    refine hst (fun _ kt => XS.iconst X_8.here hx rfl (hb hby at_123) kt) ?_
    show G (T_8.setTop (mkF m 124 #[.val (.int e1), .val (.long v1), .second, .val (.int e2), .val (.long v2), .second, .val (.int fl), .val (.int eb), .val (.long vb), .second, .val (.ref a), .val (.ref b), .val (.int (own_aft e1 v1 eb vb)), .val (.int (own_aft eb vb e1 v1)), .val (.int (1 : Int32)), .unset, .unset] [(.int (1 : Int32))]))
    refine hst (fun _ kt => XS.goto X_8.here hx rfl (pc0 := 124) (pc' := 128) rfl (hb hby at_124) (by decide) (by decide) kt) ?_
    show G (T_8.setTop (mkF m 128 #[.val (.int e1), .val (.long v1), .second, .val (.int e2), .val (.long v2), .second, .val (.int fl), .val (.int eb), .val (.long vb), .second, .val (.ref a), .val (.ref b), .val (.int (own_aft e1 v1 eb vb)), .val (.int (own_aft eb vb e1 v1)), .val (.int (1 : Int32)), .unset, .unset] [(.int (1 : Int32))]))
    refine hst (fun _ kt => XS.istore X_8.here hx rfl (hb hby at_128) rfl (l' := #[.val (.int e1), .val (.long v1), .second, .val (.int e2), .val (.long v2), .second, .val (.int fl), .val (.int eb), .val (.long vb), .second, .val (.ref a), .val (.ref b), .val (.int (own_aft e1 v1 eb vb)), .val (.int (own_aft eb vb e1 v1)), .val (.int (1 : Int32)), .val (.int (1 : Int32)), .unset]) rfl kt) ?_
    show G (T_8.setTop (mkF m 130 #[.val (.int e1), .val (.long v1), .second, .val (.int e2), .val (.long v2), .second, .val (.int fl), .val (.int eb), .val (.long vb), .second, .val (.ref a), .val (.ref b), .val (.int (own_aft e1 v1 eb vb)), .val (.int (own_aft eb vb e1 v1)), .val (.int (1 : Int32)), .val (.int (1 : Int32)), .unset] []))
    refine hst (fun _ kt => XS.iload X_8.here hx rfl (hb hby at_130) rfl kt) ?_
    show G (T_8.setTop (mkF m 132 #[.val (.int e1), .val (.long v1), .second, .val (.int e2), .val (.long v2), .second, .val (.int fl), .val (.int eb), .val (.long vb), .second, .val (.ref a), .val (.ref b), .val (.int (own_aft e1 v1 eb vb)), .val (.int (own_aft eb vb e1 v1)), .val (.int (1 : Int32)), .val (.int (1 : Int32)), .unset] [(.int (own_aft e1 v1 eb vb))]))
    by_cases hc132 : (own_aft e1 v1 eb vb) = (0 : Int32)
    ·
      refine hst (fun _ kt => XS.ifYes X_8.here hx rfl (pc0 := 132) (pc' := 140) rfl (hb hby at_132) rfl ((if0 _ _).trans (teq hc132).1) (by decide) (by decide) kt) ?_
      show G (T_8.setTop (mkF m 140 #[.val (.int e1), .val (.long v1), .second, .val (.int e2), .val (.long v2), .second, .val (.int fl), .val (.int eb), .val (.long vb), .second, .val (.ref a), .val (.ref b), .val (.int (own_aft e1 v1 eb vb)), .val (.int (own_aft eb vb e1 v1)), .val (.int (1 : Int32)), .val (.int (1 : Int32)), .unset] []))
      refine hst (fun _ kt => XS.iconst X_8.here hx rfl (hb hby at_140) kt) ?_
      show G (T_8.setTop (mkF m 141 #[.val (.int e1), .val (.long v1), .second, .val (.int e2), .val (.long v2), .second, .val (.int fl), .val (.int eb), .val (.long vb), .second, .val (.ref a), .val (.ref b), .val (.int (own_aft e1 v1 eb vb)), .val (.int (own_aft eb vb e1 v1)), .val (.int (1 : Int32)), .val (.int (1 : Int32)), .unset] [(.int (1 : Int32))]))
      refine hst (fun _ kt => XS.goto X_8.here hx rfl (pc0 := 141) (pc' := 145) rfl (hb hby at_141) (by decide) (by decide) kt) ?_
      show G (T_8.setTop (mkF m 145 #[.val (.int e1), .val (.long v1), .second, .val (.int e2), .val (.long v2), .second, .val (.int fl), .val (.int eb), .val (.long vb), .second, .val (.ref a), .val (.ref b), .val (.int (own_aft e1 v1 eb vb)), .val (.int (own_aft eb vb e1 v1)), .val (.int (1 : Int32)), .val (.int (1 : Int32)), .unset] [(.int (1 : Int32))]))
      refine hst (fun _ kt => XS.istore X_8.here hx rfl (hb hby at_145) rfl (l' := #[.val (.int e1), .val (.long v1), .second, .val (.int e2), .val (.long v2), .second, .val (.int fl), .val (.int eb), .val (.long vb), .second, .val (.ref a), .val (.ref b), .val (.int (own_aft e1 v1 eb vb)), .val (.int (own_aft eb vb e1 v1)), .val (.int (1 : Int32)), .val (.int (1 : Int32)), .val (.int (1 : Int32))]) rfl kt) ?_
      show G (T_8.setTop (mkF m 147 #[.val (.int e1), .val (.long v1), .second, .val (.int e2), .val (.long v2), .second, .val (.int fl), .val (.int eb), .val (.long vb), .second, .val (.ref a), .val (.ref b), .val (.int (own_aft e1 v1 eb vb)), .val (.int (own_aft eb vb e1 v1)), .val (.int (1 : Int32)), .val (.int (1 : Int32)), .val (.int (1 : Int32))] []))
      refine hst (fun _ kt => XS.iload X_8.here hx rfl (hb hby at_147) rfl kt) ?_
      show G (T_8.setTop (mkF m 149 #[.val (.int e1), .val (.long v1), .second, .val (.int e2), .val (.long v2), .second, .val (.int fl), .val (.int eb), .val (.long vb), .second, .val (.ref a), .val (.ref b), .val (.int (own_aft e1 v1 eb vb)), .val (.int (own_aft eb vb e1 v1)), .val (.int (1 : Int32)), .val (.int (1 : Int32)), .val (.int (1 : Int32))] [(.int (1 : Int32))]))
      have hc149 : ¬ ((1 : Int32) = (0 : Int32)) := by decide
      refine hst (fun _ kt => XS.ifNo X_8.here hx rfl (hb hby at_149) rfl ((if0 _ _).trans (feq hc149).1) kt) ?_
      show G (T_8.setTop (mkF m 152 #[.val (.int e1), .val (.long v1), .second, .val (.int e2), .val (.long v2), .second, .val (.int fl), .val (.int eb), .val (.long vb), .second, .val (.ref a), .val (.ref b), .val (.int (own_aft e1 v1 eb vb)), .val (.int (own_aft eb vb e1 v1)), .val (.int (1 : Int32)), .val (.int (1 : Int32)), .val (.int (1 : Int32))] []))
      refine hst (fun _ kt => XS.iload X_8.here hx rfl (hb hby at_152) rfl kt) ?_
      show G (T_8.setTop (mkF m 154 #[.val (.int e1), .val (.long v1), .second, .val (.int e2), .val (.long v2), .second, .val (.int fl), .val (.int eb), .val (.long vb), .second, .val (.ref a), .val (.ref b), .val (.int (own_aft e1 v1 eb vb)), .val (.int (own_aft eb vb e1 v1)), .val (.int (1 : Int32)), .val (.int (1 : Int32)), .val (.int (1 : Int32))] [(.int (1 : Int32))]))
      have hc154 : ¬ ((1 : Int32) = (0 : Int32)) := by decide
      refine hst (fun _ kt => XS.ifNo X_8.here hx rfl (hb hby at_154) rfl ((if0 _ _).trans (feq hc154).1) kt) ?_
      show G (T_8.setTop (mkF m 157 #[.val (.int e1), .val (.long v1), .second, .val (.int e2), .val (.long v2), .second, .val (.int fl), .val (.int eb), .val (.long vb), .second, .val (.ref a), .val (.ref b), .val (.int (own_aft e1 v1 eb vb)), .val (.int (own_aft eb vb e1 v1)), .val (.int (1 : Int32)), .val (.int (1 : Int32)), .val (.int (1 : Int32))] []))
      refine hst (fun _ kt => XS.iload X_8.here hx rfl (hb hby at_157) rfl kt) ?_
      show G (T_8.setTop (mkF m 159 #[.val (.int e1), .val (.long v1), .second, .val (.int e2), .val (.long v2), .second, .val (.int fl), .val (.int eb), .val (.long vb), .second, .val (.ref a), .val (.ref b), .val (.int (own_aft e1 v1 eb vb)), .val (.int (own_aft eb vb e1 v1)), .val (.int (1 : Int32)), .val (.int (1 : Int32)), .val (.int (1 : Int32))] [(.int (1 : Int32))]))
      have hc159 : ¬ ((1 : Int32) = (0 : Int32)) := by decide
      refine hst (fun _ kt => XS.ifNo X_8.here hx rfl (hb hby at_159) rfl ((if0 _ _).trans (feq hc159).1) kt) ?_
      show G (T_8.setTop (mkF m 162 #[.val (.int e1), .val (.long v1), .second, .val (.int e2), .val (.long v2), .second, .val (.int fl), .val (.int eb), .val (.long vb), .second, .val (.ref a), .val (.ref b), .val (.int (own_aft e1 v1 eb vb)), .val (.int (own_aft eb vb e1 v1)), .val (.int (1 : Int32)), .val (.int (1 : Int32)), .val (.int (1 : Int32))] []))
      refine hst (fun _ kt => XS.iconst X_8.here hx rfl (hb hby at_162) kt) ?_
      show G (T_8.setTop (mkF m 163 #[.val (.int e1), .val (.long v1), .second, .val (.int e2), .val (.long v2), .second, .val (.int fl), .val (.int eb), .val (.long vb), .second, .val (.ref a), .val (.ref b), .val (.int (own_aft e1 v1 eb vb)), .val (.int (own_aft eb vb e1 v1)), .val (.int (1 : Int32)), .val (.int (1 : Int32)), .val (.int (1 : Int32))] [(.int (1 : Int32))]))
      refine hst (fun _ kt => XS.goto X_8.here hx rfl (pc0 := 163) (pc' := 167) rfl (hb hby at_163) (by decide) (by decide) kt) ?_
      show G (T_8.setTop (mkF m 167 #[.val (.int e1), .val (.long v1), .second, .val (.int e2), .val (.long v2), .second, .val (.int fl), .val (.int eb), .val (.long vb), .second, .val (.ref a), .val (.ref b), .val (.int (own_aft e1 v1 eb vb)), .val (.int (own_aft eb vb e1 v1)), .val (.int (1 : Int32)), .val (.int (1 : Int32)), .val (.int (1 : Int32))] [(.int (1 : Int32))]))
      exact hend (own_goRet X_8 hx Bd.returns rfl (Or.inl ⟨rfl, by simp, _, rfl⟩) (hb hby at_167) Bd.notSynchronized (by rw [eh_8]; exact ⟨rfl, N_8⟩) (by decide) (by decide))
    ·
      refine hst (fun _ kt => XS.ifNo X_8.here hx rfl (hb hby at_132) rfl ((if0 _ _).trans (feq hc132).1) kt) ?_
      show G (T_8.setTop (mkF m 135 #[.val (.int e1), .val (.long v1), .second, .val (.int e2), .val (.long v2), .second, .val (.int fl), .val (.int eb), .val (.long vb), .second, .val (.ref a), .val (.ref b), .val (.int (own_aft e1 v1 eb vb)), .val (.int (own_aft eb vb e1 v1)), .val (.int (1 : Int32)), .val (.int (1 : Int32)), .unset] []))
      refine hst (fun _ kt => XS.iload X_8.here hx rfl (hb hby at_135) rfl kt) ?_
      show G (T_8.setTop (mkF m 137 #[.val (.int e1), .val (.long v1), .second, .val (.int e2), .val (.long v2), .second, .val (.int fl), .val (.int eb), .val (.long vb), .second, .val (.ref a), .val (.ref b), .val (.int (own_aft e1 v1 eb vb)), .val (.int (own_aft eb vb e1 v1)), .val (.int (1 : Int32)), .val (.int (1 : Int32)), .unset] [(.int (own_aft eb vb e1 v1))]))
      have hc137 : (own_aft eb vb e1 v1) = (0 : Int32) := own_aft_asym _ _ _ _ hc132
      refine hst (fun _ kt => XS.ifNo X_8.here hx rfl (hb hby at_137) rfl ((if0 _ _).trans (teq hc137).2) kt) ?_
      show G (T_8.setTop (mkF m 140 #[.val (.int e1), .val (.long v1), .second, .val (.int e2), .val (.long v2), .second, .val (.int fl), .val (.int eb), .val (.long vb), .second, .val (.ref a), .val (.ref b), .val (.int (own_aft e1 v1 eb vb)), .val (.int (own_aft eb vb e1 v1)), .val (.int (1 : Int32)), .val (.int (1 : Int32)), .unset] []))
      refine hst (fun _ kt => XS.iconst X_8.here hx rfl (hb hby at_140) kt) ?_
      show G (T_8.setTop (mkF m 141 #[.val (.int e1), .val (.long v1), .second, .val (.int e2), .val (.long v2), .second, .val (.int fl), .val (.int eb), .val (.long vb), .second, .val (.ref a), .val (.ref b), .val (.int (own_aft e1 v1 eb vb)), .val (.int (own_aft eb vb e1 v1)), .val (.int (1 : Int32)), .val (.int (1 : Int32)), .unset] [(.int (1 : Int32))]))
      refine hst (fun _ kt => XS.goto X_8.here hx rfl (pc0 := 141) (pc' := 145) rfl (hb hby at_141) (by decide) (by decide) kt) ?_
      show G (T_8.setTop (mkF m 145 #[.val (.int e1), .val (.long v1), .second, .val (.int e2), .val (.long v2), .second, .val (.int fl), .val (.int eb), .val (.long vb), .second, .val (.ref a), .val (.ref b), .val (.int (own_aft e1 v1 eb vb)), .val (.int (own_aft eb vb e1 v1)), .val (.int (1 : Int32)), .val (.int (1 : Int32)), .unset] [(.int (1 : Int32))]))
      refine hst (fun _ kt => XS.istore X_8.here hx rfl (hb hby at_145) rfl (l' := #[.val (.int e1), .val (.long v1), .second, .val (.int e2), .val (.long v2), .second, .val (.int fl), .val (.int eb), .val (.long vb), .second, .val (.ref a), .val (.ref b), .val (.int (own_aft e1 v1 eb vb)), .val (.int (own_aft eb vb e1 v1)), .val (.int (1 : Int32)), .val (.int (1 : Int32)), .val (.int (1 : Int32))]) rfl kt) ?_
      show G (T_8.setTop (mkF m 147 #[.val (.int e1), .val (.long v1), .second, .val (.int e2), .val (.long v2), .second, .val (.int fl), .val (.int eb), .val (.long vb), .second, .val (.ref a), .val (.ref b), .val (.int (own_aft e1 v1 eb vb)), .val (.int (own_aft eb vb e1 v1)), .val (.int (1 : Int32)), .val (.int (1 : Int32)), .val (.int (1 : Int32))] []))
      refine hst (fun _ kt => XS.iload X_8.here hx rfl (hb hby at_147) rfl kt) ?_
      show G (T_8.setTop (mkF m 149 #[.val (.int e1), .val (.long v1), .second, .val (.int e2), .val (.long v2), .second, .val (.int fl), .val (.int eb), .val (.long vb), .second, .val (.ref a), .val (.ref b), .val (.int (own_aft e1 v1 eb vb)), .val (.int (own_aft eb vb e1 v1)), .val (.int (1 : Int32)), .val (.int (1 : Int32)), .val (.int (1 : Int32))] [(.int (1 : Int32))]))
      have hc149 : ¬ ((1 : Int32) = (0 : Int32)) := by decide
      refine hst (fun _ kt => XS.ifNo X_8.here hx rfl (hb hby at_149) rfl ((if0 _ _).trans (feq hc149).1) kt) ?_
      show G (T_8.setTop (mkF m 152 #[.val (.int e1), .val (.long v1), .second, .val (.int e2), .val (.long v2), .second, .val (.int fl), .val (.int eb), .val (.long vb), .second, .val (.ref a), .val (.ref b), .val (.int (own_aft e1 v1 eb vb)), .val (.int (own_aft eb vb e1 v1)), .val (.int (1 : Int32)), .val (.int (1 : Int32)), .val (.int (1 : Int32))] []))
      refine hst (fun _ kt => XS.iload X_8.here hx rfl (hb hby at_152) rfl kt) ?_
      show G (T_8.setTop (mkF m 154 #[.val (.int e1), .val (.long v1), .second, .val (.int e2), .val (.long v2), .second, .val (.int fl), .val (.int eb), .val (.long vb), .second, .val (.ref a), .val (.ref b), .val (.int (own_aft e1 v1 eb vb)), .val (.int (own_aft eb vb e1 v1)), .val (.int (1 : Int32)), .val (.int (1 : Int32)), .val (.int (1 : Int32))] [(.int (1 : Int32))]))
      have hc154 : ¬ ((1 : Int32) = (0 : Int32)) := by decide
      refine hst (fun _ kt => XS.ifNo X_8.here hx rfl (hb hby at_154) rfl ((if0 _ _).trans (feq hc154).1) kt) ?_
      show G (T_8.setTop (mkF m 157 #[.val (.int e1), .val (.long v1), .second, .val (.int e2), .val (.long v2), .second, .val (.int fl), .val (.int eb), .val (.long vb), .second, .val (.ref a), .val (.ref b), .val (.int (own_aft e1 v1 eb vb)), .val (.int (own_aft eb vb e1 v1)), .val (.int (1 : Int32)), .val (.int (1 : Int32)), .val (.int (1 : Int32))] []))
      refine hst (fun _ kt => XS.iload X_8.here hx rfl (hb hby at_157) rfl kt) ?_
      show G (T_8.setTop (mkF m 159 #[.val (.int e1), .val (.long v1), .second, .val (.int e2), .val (.long v2), .second, .val (.int fl), .val (.int eb), .val (.long vb), .second, .val (.ref a), .val (.ref b), .val (.int (own_aft e1 v1 eb vb)), .val (.int (own_aft eb vb e1 v1)), .val (.int (1 : Int32)), .val (.int (1 : Int32)), .val (.int (1 : Int32))] [(.int (1 : Int32))]))
      have hc159 : ¬ ((1 : Int32) = (0 : Int32)) := by decide
      refine hst (fun _ kt => XS.ifNo X_8.here hx rfl (hb hby at_159) rfl ((if0 _ _).trans (feq hc159).1) kt) ?_
      show G (T_8.setTop (mkF m 162 #[.val (.int e1), .val (.long v1), .second, .val (.int e2), .val (.long v2), .second, .val (.int fl), .val (.int eb), .val (.long vb), .second, .val (.ref a), .val (.ref b), .val (.int (own_aft e1 v1 eb vb)), .val (.int (own_aft eb vb e1 v1)), .val (.int (1 : Int32)), .val (.int (1 : Int32)), .val (.int (1 : Int32))] []))
      refine hst (fun _ kt => XS.iconst X_8.here hx rfl (hb hby at_162) kt) ?_
      show G (T_8.setTop (mkF m 163 #[.val (.int e1), .val (.long v1), .second, .val (.int e2), .val (.long v2), .second, .val (.int fl), .val (.int eb), .val (.long vb), .second, .val (.ref a), .val (.ref b), .val (.int (own_aft e1 v1 eb vb)), .val (.int (own_aft eb vb e1 v1)), .val (.int (1 : Int32)), .val (.int (1 : Int32)), .val (.int (1 : Int32))] [(.int (1 : Int32))]))
      refine hst (fun _ kt => XS.goto X_8.here hx rfl (pc0 := 163) (pc' := 167) rfl (hb hby at_163) (by decide) (by decide) kt) ?_
      show G (T_8.setTop (mkF m 167 #[.val (.int e1), .val (.long v1), .second, .val (.int e2), .val (.long v2), .second, .val (.int fl), .val (.int eb), .val (.long vb), .second, .val (.ref a), .val (.ref b), .val (.int (own_aft e1 v1 eb vb)), .val (.int (own_aft eb vb e1 v1)), .val (.int (1 : Int32)), .val (.int (1 : Int32)), .val (.int (1 : Int32))] [(.int (1 : Int32))]))
      exact hend (own_goRet X_8 hx Bd.returns rfl (Or.inl ⟨rfl, by simp, _, rfl⟩) (hb hby at_167) Bd.notSynchronized (by rw [eh_8]; exact ⟨rfl, N_8⟩) (by decide) (by decide))
  have J26 : ∀ (eb : Int32), G (s₁.setTop (mkF m 26 #[.val (.int e1), .val (.long v1), .second, .val (.int e2), .val (.long v2), .second, .val (.int fl), .val (.int eb), .val (.long v2), .second, .unset, .unset, .unset, .unset, .unset, .unset, .unset] [])) := by
    intro eb
    show G (s₁.setTop (mkF m 26 #[.val (.int e1), .val (.long v1), .second, .val (.int e2), .val (.long v2), .second, .val (.int fl), .val (.int eb), .val (.long v2), .second, .unset, .unset, .unset, .unset, .unset, .unset, .unset] []))
    refine hst (fun _ kt => XS.iload X0.here hx rfl (hb hby at_26) rfl kt) ?_
    show G (s₁.setTop (mkF m 28 #[.val (.int e1), .val (.long v1), .second, .val (.int e2), .val (.long v2), .second, .val (.int fl), .val (.int eb), .val (.long v2), .second, .unset, .unset, .unset, .unset, .unset, .unset, .unset] [(.int fl)]))
    refine hst (fun _ kt => XS.iconst X0.here hx rfl (hb hby at_28) kt) ?_
    show G (s₁.setTop (mkF m 29 #[.val (.int e1), .val (.long v1), .second, .val (.int e2), .val (.long v2), .second, .val (.int fl), .val (.int eb), .val (.long v2), .second, .unset, .unset, .unset, .unset, .unset, .unset, .unset] [(.int (2 : Int32)), (.int fl)]))
    refine hst (fun _ kt => XS.iand X0.here hx rfl (hb hby at_29) rfl kt) ?_
    show G (s₁.setTop (mkF m 30 #[.val (.int e1), .val (.long v1), .second, .val (.int e2), .val (.long v2), .second, .val (.int fl), .val (.int eb), .val (.long v2), .second, .unset, .unset, .unset, .unset, .unset, .unset, .unset] [(.int (fl &&& (2 : Int32)))]))
    by_cases hc30 : (fl &&& (2 : Int32)) = (0 : Int32)
    ·
      refine hst (fun _ kt => XS.ifYes X0.here hx rfl (pc0 := 30) (pc' := 46) rfl (hb hby at_30) rfl ((if0 _ _).trans (teq hc30).1) (by decide) (by decide) kt) ?_
      show G (s₁.setTop (mkF m 46 #[.val (.int e1), .val (.long v1), .second, .val (.int e2), .val (.long v2), .second, .val (.int fl), .val (.int eb), .val (.long v2), .second, .unset, .unset, .unset, .unset, .unset, .unset, .unset] []))
      exact J46 _ _
    ·
      refine hst (fun _ kt => XS.ifNo X0.here hx rfl (hb hby at_30) rfl ((if0 _ _).trans (feq hc30).1) kt) ?_
      show G (s₁.setTop (mkF m 33 #[.val (.int e1), .val (.long v1), .second, .val (.int e2), .val (.long v2), .second, .val (.int fl), .val (.int eb), .val (.long v2), .second, .unset, .unset, .unset, .unset, .unset, .unset, .unset] []))
      refine hst (fun _ kt => XS.lloadN X0.here hx rfl (hb hby at_33) rfl kt) ?_
      show G (s₁.setTop (mkF m 34 #[.val (.int e1), .val (.long v1), .second, .val (.int e2), .val (.long v2), .second, .val (.int fl), .val (.int eb), .val (.long v2), .second, .unset, .unset, .unset, .unset, .unset, .unset, .unset] [(.long v1)]))
      refine hst (fun _ kt => XS.iload X0.here hx rfl (hb hby at_34) rfl kt) ?_
      show G (s₁.setTop (mkF m 36 #[.val (.int e1), .val (.long v1), .second, .val (.int e2), .val (.long v2), .second, .val (.int fl), .val (.int eb), .val (.long v2), .second, .unset, .unset, .unset, .unset, .unset, .unset, .unset] [(.int fl), (.long v1)]))
      refine hst (fun _ kt => XS.iconst X0.here hx rfl (hb hby at_36) kt) ?_
      show G (s₁.setTop (mkF m 37 #[.val (.int e1), .val (.long v1), .second, .val (.int e2), .val (.long v2), .second, .val (.int fl), .val (.int eb), .val (.long v2), .second, .unset, .unset, .unset, .unset, .unset, .unset, .unset] [(.int (4 : Int32)), (.int fl), (.long v1)]))
      refine hst (fun _ kt => XS.ishr X0.here hx rfl (hb hby at_37) rfl kt) ?_
      show G (s₁.setTop (mkF m 38 #[.val (.int e1), .val (.long v1), .second, .val (.int e2), .val (.long v2), .second, .val (.int fl), .val (.int eb), .val (.long v2), .second, .unset, .unset, .unset, .unset, .unset, .unset, .unset] [(.int (fl >>> ((4 : Int32) &&& 31))), (.long v1)]))
      refine hst (fun _ kt => XS.iconst X0.here hx rfl (hb hby at_38) kt) ?_
      show G (s₁.setTop (mkF m 39 #[.val (.int e1), .val (.long v1), .second, .val (.int e2), .val (.long v2), .second, .val (.int fl), .val (.int eb), .val (.long v2), .second, .unset, .unset, .unset, .unset, .unset, .unset, .unset] [(.int (3 : Int32)), (.int (fl >>> ((4 : Int32) &&& 31))), (.long v1)]))
      refine hst (fun _ kt => XS.iand X0.here hx rfl (hb hby at_39) rfl kt) ?_
      show G (s₁.setTop (mkF m 40 #[.val (.int e1), .val (.long v1), .second, .val (.int e2), .val (.long v2), .second, .val (.int fl), .val (.int eb), .val (.long v2), .second, .unset, .unset, .unset, .unset, .unset, .unset, .unset] [(.int ((fl >>> ((4 : Int32) &&& 31)) &&& (3 : Int32))), (.long v1)]))
      refine hst (fun _ kt => XS.iconst X0.here hx rfl (hb hby at_40) kt) ?_
      show G (s₁.setTop (mkF m 41 #[.val (.int e1), .val (.long v1), .second, .val (.int e2), .val (.long v2), .second, .val (.int fl), .val (.int eb), .val (.long v2), .second, .unset, .unset, .unset, .unset, .unset, .unset, .unset] [(.int (1 : Int32)), (.int ((fl >>> ((4 : Int32) &&& 31)) &&& (3 : Int32))), (.long v1)]))
      refine hst (fun _ kt => XS.isub X0.here hx rfl (hb hby at_41) rfl kt) ?_
      show G (s₁.setTop (mkF m 42 #[.val (.int e1), .val (.long v1), .second, .val (.int e2), .val (.long v2), .second, .val (.int fl), .val (.int eb), .val (.long v2), .second, .unset, .unset, .unset, .unset, .unset, .unset, .unset] [(.int (((fl >>> ((4 : Int32) &&& 31)) &&& (3 : Int32)) - (1 : Int32))), (.long v1)]))
      refine hst (fun _ kt => XS.i2l X0.here hx rfl (hb hby at_42) rfl kt) ?_
      show G (s₁.setTop (mkF m 43 #[.val (.int e1), .val (.long v1), .second, .val (.int e2), .val (.long v2), .second, .val (.int fl), .val (.int eb), .val (.long v2), .second, .unset, .unset, .unset, .unset, .unset, .unset, .unset] [(.long ((((fl >>> ((4 : Int32) &&& 31)) &&& (3 : Int32)) - (1 : Int32)).toInt64)), (.long v1)]))
      refine hst (fun _ kt => XS.ladd X0.here hx rfl (hb hby at_43) rfl kt) ?_
      show G (s₁.setTop (mkF m 44 #[.val (.int e1), .val (.long v1), .second, .val (.int e2), .val (.long v2), .second, .val (.int fl), .val (.int eb), .val (.long v2), .second, .unset, .unset, .unset, .unset, .unset, .unset, .unset] [(.long (v1 + ((((fl >>> ((4 : Int32) &&& 31)) &&& (3 : Int32)) - (1 : Int32)).toInt64)))]))
      refine hst (fun _ kt => XS.lstore X0.here hx rfl (hb hby at_44) rfl (l' := #[.val (.int e1), .val (.long v1), .second, .val (.int e2), .val (.long v2), .second, .val (.int fl), .val (.int eb), .val (.long (v1 + ((((fl >>> ((4 : Int32) &&& 31)) &&& (3 : Int32)) - (1 : Int32)).toInt64))), .second, .unset, .unset, .unset, .unset, .unset, .unset, .unset]) rfl kt) ?_
      show G (s₁.setTop (mkF m 46 #[.val (.int e1), .val (.long v1), .second, .val (.int e2), .val (.long v2), .second, .val (.int fl), .val (.int eb), .val (.long (v1 + ((((fl >>> ((4 : Int32) &&& 31)) &&& (3 : Int32)) - (1 : Int32)).toInt64))), .second, .unset, .unset, .unset, .unset, .unset, .unset, .unset] []))
      exact J46 _ _
  show G (s₁.setTop (mkF m 0 #[.val (.int e1), .val (.long v1), .second, .val (.int e2), .val (.long v2), .second, .val (.int fl), .unset, .unset, .unset, .unset, .unset, .unset, .unset, .unset, .unset, .unset] []))
  refine hst (fun _ kt => XS.iloadN X0.here hx rfl (hb hby at_0) rfl kt) ?_
  show G (s₁.setTop (mkF m 1 #[.val (.int e1), .val (.long v1), .second, .val (.int e2), .val (.long v2), .second, .val (.int fl), .unset, .unset, .unset, .unset, .unset, .unset, .unset, .unset, .unset, .unset] [(.int e2)]))
  refine hst (fun _ kt => XS.istore X0.here hx rfl (hb hby at_1) rfl (l' := #[.val (.int e1), .val (.long v1), .second, .val (.int e2), .val (.long v2), .second, .val (.int fl), .val (.int e2), .unset, .unset, .unset, .unset, .unset, .unset, .unset, .unset, .unset]) rfl kt) ?_
  show G (s₁.setTop (mkF m 3 #[.val (.int e1), .val (.long v1), .second, .val (.int e2), .val (.long v2), .second, .val (.int fl), .val (.int e2), .unset, .unset, .unset, .unset, .unset, .unset, .unset, .unset, .unset] []))
  refine hst (fun _ kt => XS.lload X0.here hx rfl (hb hby at_3) rfl kt) ?_
  show G (s₁.setTop (mkF m 5 #[.val (.int e1), .val (.long v1), .second, .val (.int e2), .val (.long v2), .second, .val (.int fl), .val (.int e2), .unset, .unset, .unset, .unset, .unset, .unset, .unset, .unset, .unset] [(.long v2)]))
  refine hst (fun _ kt => XS.lstore X0.here hx rfl (hb hby at_5) rfl (l' := #[.val (.int e1), .val (.long v1), .second, .val (.int e2), .val (.long v2), .second, .val (.int fl), .val (.int e2), .val (.long v2), .second, .unset, .unset, .unset, .unset, .unset, .unset, .unset]) rfl kt) ?_
  show G (s₁.setTop (mkF m 7 #[.val (.int e1), .val (.long v1), .second, .val (.int e2), .val (.long v2), .second, .val (.int fl), .val (.int e2), .val (.long v2), .second, .unset, .unset, .unset, .unset, .unset, .unset, .unset] []))
  refine hst (fun _ kt => XS.iload X0.here hx rfl (hb hby at_7) rfl kt) ?_
  show G (s₁.setTop (mkF m 9 #[.val (.int e1), .val (.long v1), .second, .val (.int e2), .val (.long v2), .second, .val (.int fl), .val (.int e2), .val (.long v2), .second, .unset, .unset, .unset, .unset, .unset, .unset, .unset] [(.int fl)]))
  refine hst (fun _ kt => XS.iconst X0.here hx rfl (hb hby at_9) kt) ?_
  show G (s₁.setTop (mkF m 10 #[.val (.int e1), .val (.long v1), .second, .val (.int e2), .val (.long v2), .second, .val (.int fl), .val (.int e2), .val (.long v2), .second, .unset, .unset, .unset, .unset, .unset, .unset, .unset] [(.int (1 : Int32)), (.int fl)]))
  refine hst (fun _ kt => XS.iand X0.here hx rfl (hb hby at_10) rfl kt) ?_
  show G (s₁.setTop (mkF m 11 #[.val (.int e1), .val (.long v1), .second, .val (.int e2), .val (.long v2), .second, .val (.int fl), .val (.int e2), .val (.long v2), .second, .unset, .unset, .unset, .unset, .unset, .unset, .unset] [(.int (fl &&& (1 : Int32)))]))
  by_cases hc11 : (fl &&& (1 : Int32)) = (0 : Int32)
  ·
    refine hst (fun _ kt => XS.ifYes X0.here hx rfl (pc0 := 11) (pc' := 26) rfl (hb hby at_11) rfl ((if0 _ _).trans (teq hc11).1) (by decide) (by decide) kt) ?_
    show G (s₁.setTop (mkF m 26 #[.val (.int e1), .val (.long v1), .second, .val (.int e2), .val (.long v2), .second, .val (.int fl), .val (.int e2), .val (.long v2), .second, .unset, .unset, .unset, .unset, .unset, .unset, .unset] []))
    exact J26 _
  ·
    refine hst (fun _ kt => XS.ifNo X0.here hx rfl (hb hby at_11) rfl ((if0 _ _).trans (feq hc11).1) kt) ?_
    show G (s₁.setTop (mkF m 14 #[.val (.int e1), .val (.long v1), .second, .val (.int e2), .val (.long v2), .second, .val (.int fl), .val (.int e2), .val (.long v2), .second, .unset, .unset, .unset, .unset, .unset, .unset, .unset] []))
    refine hst (fun _ kt => XS.iloadN X0.here hx rfl (hb hby at_14) rfl kt) ?_
    show G (s₁.setTop (mkF m 15 #[.val (.int e1), .val (.long v1), .second, .val (.int e2), .val (.long v2), .second, .val (.int fl), .val (.int e2), .val (.long v2), .second, .unset, .unset, .unset, .unset, .unset, .unset, .unset] [(.int e1)]))
    refine hst (fun _ kt => XS.iload X0.here hx rfl (hb hby at_15) rfl kt) ?_
    show G (s₁.setTop (mkF m 17 #[.val (.int e1), .val (.long v1), .second, .val (.int e2), .val (.long v2), .second, .val (.int fl), .val (.int e2), .val (.long v2), .second, .unset, .unset, .unset, .unset, .unset, .unset, .unset] [(.int fl), (.int e1)]))
    refine hst (fun _ kt => XS.iconst X0.here hx rfl (hb hby at_17) kt) ?_
    show G (s₁.setTop (mkF m 18 #[.val (.int e1), .val (.long v1), .second, .val (.int e2), .val (.long v2), .second, .val (.int fl), .val (.int e2), .val (.long v2), .second, .unset, .unset, .unset, .unset, .unset, .unset, .unset] [(.int (2 : Int32)), (.int fl), (.int e1)]))
    refine hst (fun _ kt => XS.ishr X0.here hx rfl (hb hby at_18) rfl kt) ?_
    show G (s₁.setTop (mkF m 19 #[.val (.int e1), .val (.long v1), .second, .val (.int e2), .val (.long v2), .second, .val (.int fl), .val (.int e2), .val (.long v2), .second, .unset, .unset, .unset, .unset, .unset, .unset, .unset] [(.int (fl >>> ((2 : Int32) &&& 31))), (.int e1)]))
    refine hst (fun _ kt => XS.iconst X0.here hx rfl (hb hby at_19) kt) ?_
    show G (s₁.setTop (mkF m 20 #[.val (.int e1), .val (.long v1), .second, .val (.int e2), .val (.long v2), .second, .val (.int fl), .val (.int e2), .val (.long v2), .second, .unset, .unset, .unset, .unset, .unset, .unset, .unset] [(.int (3 : Int32)), (.int (fl >>> ((2 : Int32) &&& 31))), (.int e1)]))
    refine hst (fun _ kt => XS.iand X0.here hx rfl (hb hby at_20) rfl kt) ?_
    show G (s₁.setTop (mkF m 21 #[.val (.int e1), .val (.long v1), .second, .val (.int e2), .val (.long v2), .second, .val (.int fl), .val (.int e2), .val (.long v2), .second, .unset, .unset, .unset, .unset, .unset, .unset, .unset] [(.int ((fl >>> ((2 : Int32) &&& 31)) &&& (3 : Int32))), (.int e1)]))
    refine hst (fun _ kt => XS.iconst X0.here hx rfl (hb hby at_21) kt) ?_
    show G (s₁.setTop (mkF m 22 #[.val (.int e1), .val (.long v1), .second, .val (.int e2), .val (.long v2), .second, .val (.int fl), .val (.int e2), .val (.long v2), .second, .unset, .unset, .unset, .unset, .unset, .unset, .unset] [(.int (1 : Int32)), (.int ((fl >>> ((2 : Int32) &&& 31)) &&& (3 : Int32))), (.int e1)]))
    refine hst (fun _ kt => XS.isub X0.here hx rfl (hb hby at_22) rfl kt) ?_
    show G (s₁.setTop (mkF m 23 #[.val (.int e1), .val (.long v1), .second, .val (.int e2), .val (.long v2), .second, .val (.int fl), .val (.int e2), .val (.long v2), .second, .unset, .unset, .unset, .unset, .unset, .unset, .unset] [(.int (((fl >>> ((2 : Int32) &&& 31)) &&& (3 : Int32)) - (1 : Int32))), (.int e1)]))
    refine hst (fun _ kt => XS.iadd X0.here hx rfl (hb hby at_23) rfl kt) ?_
    show G (s₁.setTop (mkF m 24 #[.val (.int e1), .val (.long v1), .second, .val (.int e2), .val (.long v2), .second, .val (.int fl), .val (.int e2), .val (.long v2), .second, .unset, .unset, .unset, .unset, .unset, .unset, .unset] [(.int (e1 + (((fl >>> ((2 : Int32) &&& 31)) &&& (3 : Int32)) - (1 : Int32))))]))
    refine hst (fun _ kt => XS.istore X0.here hx rfl (hb hby at_24) rfl (l' := #[.val (.int e1), .val (.long v1), .second, .val (.int e2), .val (.long v2), .second, .val (.int fl), .val (.int (e1 + (((fl >>> ((2 : Int32) &&& 31)) &&& (3 : Int32)) - (1 : Int32)))), .val (.long v2), .second, .unset, .unset, .unset, .unset, .unset, .unset, .unset]) rfl kt) ?_
    show G (s₁.setTop (mkF m 26 #[.val (.int e1), .val (.long v1), .second, .val (.int e2), .val (.long v2), .second, .val (.int fl), .val (.int (e1 + (((fl >>> ((2 : Int32) &&& 31)) &&& (3 : Int32)) - (1 : Int32)))), .val (.long v2), .second, .unset, .unset, .unset, .unset, .unset, .unset, .unset] []))
    exact J26 _
set_option maxRecDepth 65536 in
set_option maxHeartbeats 40000000 in
theorem comes_1 {Post : Tables → Env → Array Value → State → Outcome → State → Prop} (hpost : ∀ tb e args s v u, (limb_1_1.after args s (.returned v) u = true ∧ limb_1_2.after args s (.returned v) u = true ∧ True) → FrameEnd s (.returned v) u (Jvm.fieldLocs frame_1_writes args s ++ Jvm.arrayLocs frame_1_arrays args s ++ Jvm.staticLocs frame_1_statics s) 16 128 → Post tb e args s (.returned v) u) :
    ArmFor flags0 classFile x code maxLocals ret World_1 tables_1 room_1 Calls_1 rest_1 Pre_1 Post := by
  intro l hfl _ _ p e ha hc hk s m args below hf hA hF happ hP
  obtain ⟨hcalls, hrest, hpre⟩ := hP
  obtain ⟨-, -, -, hnamed, -, -, -, hat⟩ := (Spec.applies_iff hf).mp happ
  obtain ⟨hg, hn⟩ := and_e (Cond.before_iff.mp (show (Jvm.Cond.and given_1 narrow_1).before args s = true from hpre))
  obtain ⟨gc, g0⟩ := and_e hg
  obtain ⟨ga0, g1⟩ := and_e g0
  obtain ⟨ga1, g2⟩ := and_e g1
  obtain ⟨ga2, g3⟩ := and_e g2
  obtain ⟨ga3, g4⟩ := and_e g3
  obtain ⟨w0, w1, w2, w3, w4, rfl⟩ : ∃ w0 w1 w2 w3 w4 : Value, args = #[w0, w1, w2, w3, w4] := by
    have hs : args.size = 5 := by simpa [Cond.value, given_1] using gc
    obtain ⟨L⟩ := args
    match L, hs with
    | [w0, w1, w2, w3, w4], _ => exact ⟨w0, w1, w2, w3, w4, rfl⟩
  have hw := fun d (hd : d ∈ tables_1) => atoms_spec (ws := Jvm.Cond.code x code maxLocals ret :: tables_1) hat d (List.mem_cons_of_mem _ hd)
  have hfit : Fit s := fun {y c} hc i hi => by
    obtain ⟨ha, rfl⟩ := Array.getElem?_eq_some_iff.mp hc
    have q := List.all_eq_true.mp ((Array.all_eq_true_iff_forall_mem.mp hF) _ (Array.getElem_mem ha)) i (List.mem_range.mpr hi)
    simpa [Array.getElem?_eq_getElem hi] using q
  obtain ⟨i0, ei0⟩ := is_v ga0
  obtain rfl : w0 = (.int i0) := Option.some.inj ei0
  obtain ⟨i1, ei1⟩ := isL_v ga1
  obtain rfl : w1 = (.long i1) := Option.some.inj ei1
  obtain ⟨i2, ei2⟩ := is_v ga2
  obtain rfl : w2 = (.int i2) := Option.some.inj ei2
  obtain ⟨i3, ei3⟩ := isL_v ga3
  obtain rfl : w3 = (.long i3) := Option.some.inj ei3
  obtain ⟨i4, ei4⟩ := is_v g4
  obtain rfl : w4 = (.int i4) := Option.some.inj ei4
  obtain ⟨n, o, h1, h2, h3, _, L, rfl, ⟨rfl, N⟩, hq⟩ := rm0 l s _ hw tables_1 i0 i1 i2 i3 i4  s.heap s.heap.size (Nat.le_refl _)  p e ha hc hk s m _ below hf ((Spec.applies_iff_loose hf).mp happ).1 ⟨rfl, State.Warmed39.refl s, rfl⟩ trivial
  refine ⟨n, _, h1, h2, h3, hpost _ _ _ _ _ _ ⟨Cond.after_iff.mpr rfl, Cond.after_iff.mpr (eq_i res_at (Term.int_eval (1)) rfl), trivial⟩ ⟨hq.1, hq.2.1, (hq.2.2.sift fun y hy => Or.inr (N y hy)).mono (by decide) (by decide)⟩⟩
theorem main_1_1 : Claimed_1_1 := comes_1 fun _ _ _ _ _ _ h hF => ⟨h.1, hF⟩
theorem main_1_2 : Claimed_1_2 := comes_1 fun _ _ _ _ _ _ h hF => ⟨h.2.1, hF⟩
end Jvm.Pilot.@@N@@
namespace Jvm.Pilot.@@N@@
open Jvm Jvm.ClassFile Sem Op Lib Jvm.Free Jvm.Stand Jvm.Pilot.@@N@@.Jvm.D
/-! MADE BY PROGRAM (witnessworld.py) out of the Statement's table words and the real class files: 10 classes; the members and pool entries that the words name. The judged class is class 1, her method 2. -/
namespace start1
open Jvm.ClassFile
def u (s : String) : CpInfo := .utf8 (stringToUtf16 s)
/-- a pool by its gaps: so many unusable entries, then the entry; so many at the end -/
def gap : Nat → List CpInfo → List CpInfo
  | 0, r => r
  | n + 1, r => .unusable :: gap n r
def poolList (es : List (Nat × CpInfo)) (last : Nat) : List CpInfo := es.foldr (fun e r => gap e.1 (e.2 :: r)) (gap last [])
def pool (es : List (Nat × CpInfo)) (last : Nat) : Array CpInfo := ⟨poolList es last⟩
def fileOf (pool : Array CpInfo) (this : Nat) (attrs : Array Attribute := #[]) (ms : Array MethodInfo := #[]) (fl : Nat := 33) (sup : Nat := 0) (ifs : Array Nat := #[]) (fds : Array FieldInfo := #[]) : ClassFile where
  minorVersion := 0
  majorVersion := 65
  constantPool := pool
  accessFlags := fl
  thisClass := this
  superClass := sup
  interfaces := ifs
  fields := fds
  methods := ms
  attributes := attrs
def plain (name : String) (sup : Option ClassId) : Class where
  name := name
  kind := .ordinary
  loader := none
  accessFlags := 33
  super := sup
  interfaces := #[]
  cf := none
  fields := #[]
  methods := #[]
  instanceTypes := #[]
  staticTypes := #[]
  resolved := #[]
  callSites := []
  init := .initialized
  statics := none
  mirror := none

def pool0 : Array CpInfo := pool [(5, u "<init>"), (0, u "()V"), (1, .class_ 10), (1, u "java/lang/Object")] 113

def k0c0 : Code := { maxStack := 0, maxLocals := 1, code := object_method_1_code, exceptionTable := #[], attributes := #[] }
def k0m0 : Method := { name := "<init>", desc := "()V", sig := { parameters := [], returnType := none }, accessFlags := 1, code := some k0c0 }
/-- java/lang/Object -/
def k0 : Class := { plain "java/lang/Object" none with
  accessFlags := 33
  interfaces := #[]
  cf := some (fileOf pool0 8 #[] #[{ accessFlags := 1, nameIndex := 5, descriptorIndex := 6, attributes := #[] }] 33 0 #[] #[])
  fields := #[]
  methods := #[k0m0]
  instanceTypes := #[]
  staticTypes := #[]
  resolved := Array.replicate 124 none
  statics := none }

def pool1 : Array CpInfo := pool [(2, .class_ 4), (1, u "java/lang/Object"), (0, u "<init>"), (0, u "()V"), (0, .class_ 8), (0, u site_52.cls), (0, .methodref 7 10), (0, .nameAndType 5 11), (0, u "(IJ)V"), (0, .methodref 7 13), (0, .nameAndType 14 15), (0, u "isAfter"), (0, u ("(L" ++ site_52.cls ++ ";)Z")), (0, .methodref 17 18), (0, .class_ 19), (0, .nameAndType 20 21), (0, u x.cls), (0, u "expected"), (0, u "(IJIJ)Z"), (3, u "law"), (0, u "(IJIJI)Z")] 6

def k1m0 : Method := { name := "<init>", desc := "()V", sig := { parameters := [], returnType := none }, accessFlags := 1, code := none }
def k1c1 : Code := { maxStack := 4, maxLocals := 8, code := method_2_code, exceptionTable := #[], attributes := #[] }
def k1m1 : Method := { name := "expected", desc := "(IJIJ)Z", sig := { parameters := [.int, .long, .int, .long], returnType := some .boolean }, accessFlags := 10, code := some k1c1 }
def k1c2 : Code := { maxStack := 7, maxLocals := 17, code := code, exceptionTable := #[], attributes := #[] }
def k1m2 : Method := { name := "law", desc := "(IJIJI)Z", sig := { parameters := [.int, .long, .int, .long, .int], returnType := some .boolean }, accessFlags := 9, code := some k1c2 }
def k1 : Class := { plain x.cls (some 0) with
  accessFlags := 49
  interfaces := #[]
  cf := some (fileOf pool1 17 #[] #[{ accessFlags := 1, nameIndex := 5, descriptorIndex := 6, attributes := #[] }, { accessFlags := 10, nameIndex := 20, descriptorIndex := 21, attributes := #[] }, { accessFlags := 9, nameIndex := 25, descriptorIndex := 26, attributes := #[] }] 49 2 #[] #[])
  fields := #[]
  methods := #[k1m0, k1m1, k1m2]
  instanceTypes := #[]
  staticTypes := #[]
  resolved := Array.replicate 33 none
  statics := none }

def pool2 : Array CpInfo := pool [(1, .methodref 2 3), (0, .class_ 4), (0, .nameAndType 5 6), (0, u "java/lang/Object"), (0, u "<init>"), (0, u "()V"), (0, .class_ 8), (0, u "java/lang/Record")] 13

def k2c0 : Code := { maxStack := 1, maxLocals := 1, code := jdk_30_method_1_code, exceptionTable := #[], attributes := #[] }
def k2m0 : Method := { name := "<init>", desc := "()V", sig := { parameters := [], returnType := none }, accessFlags := 4, code := some k2c0 }
/-- java/lang/Record -/
def k2 : Class := { plain "java/lang/Record" (some 0) with
  accessFlags := 1057
  interfaces := #[]
  cf := some (fileOf pool2 7 #[] #[{ accessFlags := 4, nameIndex := 5, descriptorIndex := 6, attributes := #[] }] 1057 2 #[] #[])
  fields := #[]
  methods := #[k2m0]
  instanceTypes := #[]
  staticTypes := #[]
  resolved := Array.replicate 22 none
  statics := none }

def pool3 : Array CpInfo := pool [(1, .methodref 2 3), (0, .class_ 4), (0, .nameAndType 5 6), (0, u "java/lang/Record"), (0, u "<init>"), (0, u "()V"), (0, .fieldref 8 9), (0, .class_ 10), (0, .nameAndType 11 12), (0, u site_52.cls), (0, u "controllerEpoch"), (0, u "I"), (0, .fieldref 8 14), (0, .nameAndType 15 16), (0, u "version"), (0, u "J"), (14, u "(IJ)V"), (2, u "AT_CREATION"), (0, u ("L" ++ site_52.cls ++ ";")), (3, u "isAfter"), (0, u ("(L" ++ site_52.cls ++ ";)Z")), (9, .class_ 51), (0, u (String.ofList (site_52.cls.toList.take 46)))] 20

def k3c0 : Code := { maxStack := 3, maxLocals := 4, code := prog_96_method_1_code, exceptionTable := #[], attributes := #[] }
def k3m0 : Method := { name := "<init>", desc := "(IJ)V", sig := { parameters := [.int, .long], returnType := none }, accessFlags := 1, code := some k3c0 }
def k3c1 : Code := { maxStack := 4, maxLocals := 2, code := prog_96_method_2_code, exceptionTable := #[], attributes := #[] }
def k3m1 : Method := { name := "isAfter", desc := ("(L" ++ site_52.cls ++ ";)Z"), sig := { parameters := [(.object site_52.cls)], returnType := some .boolean }, accessFlags := 1, code := some k3c1 }
def k3 : Class := { plain site_52.cls (some 2) with
  accessFlags := 49
  interfaces := #[]
  cf := some (fileOf pool3 8 #[.nestHost 50] #[{ accessFlags := 1, nameIndex := 5, descriptorIndex := 31, attributes := #[] }, { accessFlags := 1, nameIndex := 39, descriptorIndex := 40, attributes := #[] }] 49 2 #[] #[{ accessFlags := 18, nameIndex := 11, descriptorIndex := 12, attributes := #[] }, { accessFlags := 18, nameIndex := 15, descriptorIndex := 16, attributes := #[] }, { accessFlags := 25, nameIndex := 34, descriptorIndex := 35, attributes := #[] }])
  fields := #[{ name := "controllerEpoch", type := .int, accessFlags := 18, slot := 0, constantValue := 0 }, { name := "version", type := .long, accessFlags := 18, slot := 1, constantValue := 0 }, { name := "AT_CREATION", type := (.object site_52.cls), accessFlags := 25, slot := 0, constantValue := 0 }]
  methods := #[k3m0, k3m1]
  instanceTypes := #[.int, .long]
  staticTypes := #[(.object site_52.cls)]
  resolved := Array.replicate 72 none
  statics := none }

def pool4 : Array CpInfo := pool [(1, u "java/lang/Cloneable"), (0, .class_ 1), (0, u "java/lang/Object"), (0, .class_ 3)] 3

/-- java/lang/Cloneable -/
def k4 : Class := { plain "java/lang/Cloneable" (some 0) with
  accessFlags := 1537
  interfaces := #[]
  cf := some (fileOf pool4 2 #[] #[] 1537 4 #[] #[])
  fields := #[]
  methods := #[]
  instanceTypes := #[]
  staticTypes := #[]
  resolved := Array.replicate 8 none
  statics := none }

def pool5 : Array CpInfo := pool [(1, u "java/io/Serializable"), (0, .class_ 1), (0, u "java/lang/Object"), (0, .class_ 3)] 3

/-- java/io/Serializable -/
def k5 : Class := { plain "java/io/Serializable" (some 0) with
  accessFlags := 1537
  interfaces := #[]
  cf := some (fileOf pool5 2 #[] #[] 1537 4 #[] #[])
  fields := #[]
  methods := #[]
  instanceTypes := #[]
  staticTypes := #[]
  resolved := Array.replicate 8 none
  statics := none }

/-- the primitive byte -/
def k6 : Class := { plain "byte" none with kind := .primitive 'B', accessFlags := 0x411 }
/-- [B -/
def k7 : Class := { plain "[B" (some 0) with kind := .array 6 .byte, interfaces := #[4, 5], accessFlags := 1041 }

/-- the primitive int -/
def k8 : Class := { plain "int" none with kind := .primitive 'I', accessFlags := 0x411 }
/-- [I -/
def k9 : Class := { plain "[I" (some 0) with kind := .array 8 .int, interfaces := #[4, 5], accessFlags := 1041 }

def heap : Heap := #[]
def classes : Array Class := #[k0, k1, k2, k3, k4, k5, k6, k7, k8, k9]
def interned : List (Array UInt16 × Addr) := []
def slotsUsed : Nat := 0
def theMethod : MethodId := ⟨1, 2⟩
def args0 : Array Value := #[.int 5, .long 7, .int 4, .long 3, .int 9]
def aboutOver (below : List Frame) : State where
  vm := { classes := classes, interned := interned.toArray }
  heap := heap
  slotsUsed := slotsUsed
  threads := #[{ frames := .invoking theMethod args0 :: below }]
def below0 : List Frame := [.native { method := ⟨0, 0⟩, args := #[] }]
def about1 : State := aboutOver below0
def p0 : Program := .bare "" "" ""
def e0 : Env := launch0.env 0 0 0
theorem w_frames : about1.frames = Frame.invoking theMethod args0 :: below0 := rfl
set_option maxRecDepth 65536 in
theorem w_args : argsFit about1.vm theMethod args0 = true := by decide +kernel
set_option maxRecDepth 65536 in
theorem w_heap : heapFits about1 = true := by decide +kernel
set_option maxRecDepth 65536 in
theorem w_runnable : about1.curStatus? = some .runnable := by decide +kernel
set_option maxRecDepth 65536 in
theorem w_alone : about1.alone = true := by decide +kernel
set_option maxRecDepth 65536 in
theorem w_named : about1.methodNamed? x = some theMethod := by decide +kernel
set_option maxRecDepth 65536 in
theorem w_hears : about1.hears theMethod below0 = true := by decide +kernel
set_option maxRecDepth 65536 in
theorem w_ripe : about1.ripe theMethod args0 below0 = true := by decide +kernel
theorem w_running : about1.status = .running := rfl
set_option maxRecDepth 65536 in
theorem w_room : about1.hasRoom e0.platform room_1 = true :=
  launch0.hasRoom_least _ room_1 (by decide +kernel) (by decide +kernel) (by decide +kernel) (by decide +kernel) (by decide +kernel) (by decide +kernel)
theorem allAtoms_all (ts : List Jvm.Cond) (a : Array Jvm.Value) (st : Jvm.State) : (allAtoms ts).before a st = ts.all (fun c => c.before a st) := by
  induction ts with
  | nil => rfl
  | cons c t ih =>
    show (Jvm.Cond.and c (allAtoms t)).before a st = _
    rw [Jvm.Cond.before_and, ih, List.all_cons]
def words1 : List Jvm.Cond := Jvm.Cond.code x code maxLocals ret :: tables_1
/-- a 'code' word, met by the world's own term for the bytes: nothing is compared byte by byte -/
theorem code_word {y : MethodName} {bytes : ByteArray} {mx : Nat} {rt : Option FieldType} {a : Array Value} {s : State} {m : MethodId} {meth : Method} {c : Code} (h1 : s.methodNamed? y = some m) (h2 : s.vm.method? m = some meth) (h3 : meth.code = some c) (h4 : c.code = bytes)
    (h5 : (c.maxLocals == mx && c.exceptionTable.isEmpty && decide (c.maxStack ≤ mostOperands) && decide (meth.sig.returnType = rt) && !meth.locks && decide (parseMethodDescriptor y.desc = some meth.sig)) = true) : (Jvm.Cond.code y bytes mx rt).before a s = true := by
  simp only [Bool.and_eq_true, beq_iff_eq, Bool.not_eq_true', decide_eq_true_eq] at h5
  obtain ⟨⟨⟨⟨⟨g1, g2⟩, g3⟩, g4⟩, g5⟩, g6⟩ := h5
  simp [Cond.before, Cond.holds, Cond.value, h1, h2, h3, h4, g1, g2, g3, g4, g5, g6]
def isCode : Jvm.Cond → Bool
  | .code _ _ _ _ => true
  | _ => false
theorem all_split {L : List Jvm.Cond} {P : Jvm.Cond → Bool} (h1 : L.all (fun c => isCode c || P c) = true) (h2 : ∀ c ∈ L.filter isCode, P c = true) : L.all P = true := by
  refine List.all_eq_true.mpr fun c hc => ?_
  have h := List.all_eq_true.mp h1 c hc
  rcases Bool.eq_false_or_eq_true (isCode c) with hi | hi
  · exact h2 c (List.mem_filter.mpr ⟨hc, hi⟩)
  · simpa [hi] using h
set_option maxRecDepth 65536 in
theorem w_c0 : (Jvm.Cond.code x code maxLocals ret).before args0 about1 = true := code_word (m := ⟨1, 2⟩) (meth := k1m2) (c := k1c2) (by decide +kernel) rfl rfl rfl (by decide +kernel)
set_option maxRecDepth 65536 in
theorem w_c1 : (Jvm.Cond.code ({ cls := site_52.cls, name := "<init>", desc := "(IJ)V" } : Jvm.MethodName) prog_96_method_1_code (4 : Nat) (Option.none : Option Jvm.ClassFile.FieldType)).before args0 about1 = true := code_word (m := ⟨3, 0⟩) (meth := k3m0) (c := k3c0) (by decide +kernel) rfl rfl rfl (by decide +kernel)
set_option maxRecDepth 65536 in
theorem w_c2 : (Jvm.Cond.code ({ cls := "java/lang/Record", name := "<init>", desc := "()V" } : Jvm.MethodName) jdk_30_method_1_code (1 : Nat) (Option.none : Option Jvm.ClassFile.FieldType)).before args0 about1 = true := code_word (m := ⟨2, 0⟩) (meth := k2m0) (c := k2c0) (by decide +kernel) rfl rfl rfl (by decide +kernel)
set_option maxRecDepth 65536 in
theorem w_c3 : (Jvm.Cond.code ({ cls := "java/lang/Object", name := "<init>", desc := "()V" } : Jvm.MethodName) object_method_1_code (1 : Nat) (Option.none : Option Jvm.ClassFile.FieldType)).before args0 about1 = true := code_word (m := ⟨0, 0⟩) (meth := k0m0) (c := k0c0) (by decide +kernel) rfl rfl rfl (by decide +kernel)
set_option maxRecDepth 65536 in
theorem w_c4 : (Jvm.Cond.code ({ cls := site_52.cls, name := "isAfter", desc := ("(L" ++ site_52.cls ++ ";)Z") } : Jvm.MethodName) prog_96_method_2_code (2 : Nat) (Option.some Jvm.ClassFile.FieldType.boolean)).before args0 about1 = true := code_word (m := ⟨3, 1⟩) (meth := k3m1) (c := k3c1) (by decide +kernel) rfl rfl rfl (by decide +kernel)
set_option maxRecDepth 65536 in
theorem w_c5 : (Jvm.Cond.code ({ cls := x.cls, name := "expected", desc := "(IJIJ)Z" } : Jvm.MethodName) method_2_code (8 : Nat) (Option.some Jvm.ClassFile.FieldType.boolean)).before args0 about1 = true := code_word (m := ⟨1, 1⟩) (meth := k1m1) (c := k1c1) (by decide +kernel) rfl rfl rfl (by decide +kernel)
def codes1 : List Jvm.Cond := [Jvm.Cond.code x code maxLocals ret, Jvm.Cond.code ({ cls := site_52.cls, name := "<init>", desc := "(IJ)V" } : Jvm.MethodName) prog_96_method_1_code (4 : Nat) (Option.none : Option Jvm.ClassFile.FieldType), Jvm.Cond.code ({ cls := "java/lang/Record", name := "<init>", desc := "()V" } : Jvm.MethodName) jdk_30_method_1_code (1 : Nat) (Option.none : Option Jvm.ClassFile.FieldType), Jvm.Cond.code ({ cls := "java/lang/Object", name := "<init>", desc := "()V" } : Jvm.MethodName) object_method_1_code (1 : Nat) (Option.none : Option Jvm.ClassFile.FieldType), Jvm.Cond.code ({ cls := site_52.cls, name := "isAfter", desc := ("(L" ++ site_52.cls ++ ";)Z") } : Jvm.MethodName) prog_96_method_2_code (2 : Nat) (Option.some Jvm.ClassFile.FieldType.boolean), Jvm.Cond.code ({ cls := x.cls, name := "expected", desc := "(IJIJ)Z" } : Jvm.MethodName) method_2_code (8 : Nat) (Option.some Jvm.ClassFile.FieldType.boolean)]
set_option maxRecDepth 65536 in
theorem codes_eq : words1.filter isCode = codes1 := rfl
theorem w_codes : ∀ c ∈ words1.filter isCode, c.before args0 about1 = true := by
  rw [codes_eq]
  intro c hc
  simp only [codes1, List.mem_cons, List.not_mem_nil, or_false] at hc
  rcases hc with rfl | rfl | rfl | rfl | rfl | rfl
  · exact w_c0
  · exact w_c1
  · exact w_c2
  · exact w_c3
  · exact w_c4
  · exact w_c5
set_option maxRecDepth 65536 in
theorem w_t1 : (words1.take 24).all (fun c => isCode c || c.before args0 about1) = true := by decide +kernel
set_option maxRecDepth 65536 in
theorem w_t2 : (words1.drop 24).all (fun c => isCode c || c.before args0 about1) = true := by decide +kernel
theorem w_tables : (allAtoms (Jvm.Cond.code x code maxLocals ret :: tables_1)).before args0 about1 = true := by
  rw [allAtoms_all]
  show words1.all (fun c => c.before args0 about1) = true
  refine all_split ?_ w_codes
  rw [← List.take_append_drop 24 words1, List.all_append, w_t1, w_t2]
  rfl
set_option maxRecDepth 65536 in
theorem w_case : (Jvm.Cond.and given_1 narrow_1).before args0 about1 = true := by decide +kernel
theorem w_applies : (headSpec (Jvm.Cond.code x code maxLocals ret :: tables_1) room_1).applies x e0.platform about1 = true :=
  (Spec.applies_iff w_frames).mpr ⟨w_running, w_runnable, w_alone, w_named, w_hears, w_ripe, w_room, w_tables⟩
theorem atStart : AtStart classFile x code maxLocals ret World_1 tables_1 room_1 Calls_1 rest_1 Pre_1 launch0 p0 e0 about1 theMethod args0 below0 :=
  ⟨lists_1, trivial, launch0.admits_env _ _ _, launch0.least_env, fairChoices_fair.cas, fairChoices_fair.clock, w_frames, w_args, w_heap, w_applies, trivial, trivial, w_case⟩
end start1
theorem witness_1 : WitnessClaimed_1 := ⟨start1.p0, start1.e0, start1.about1, start1.theMethod, start1.args0, start1.below0, start1.atStart⟩
end Jvm.Pilot.@@N@@
