import JvmDerived
import JvmDerived.Pilot.@@N@@Statement
import JvmDerived.Pilot.@@N@@Code
set_option linter.unusedVariables false
set_option linter.unusedSimpArgs false
namespace Jvm.Pilot.@@N@@
open Jvm Jvm.ClassFile Sem Op Lib Jvm.Free Jvm.Stand Jvm.LawKit Jvm.RoadKit Bundle Jvm.Pilot.@@N@@.Jvm.D
/-- from S on the run ends as Q says -/
def own_Go (p : Program) (e : Env) (below : List Frame) (s : State) (Q : Option Value → Heap → List Loc → Prop) (k n : Nat) (S : State) : Prop :=
  ∃ s₂ o, Steps p.tables e below S s₂ ∧ s₂.status = .running ∧ Ended s₂ below o ∧ ∃ v L, o = .returned v ∧ Q v s₂.heap L ∧ FrameEnd s o s₂ L k n
/-- the goal, as a predicate that is closed under steps -/
theorem own_abs (p : Program) (e : Env) (below : List Frame) (s : State) (Q : Option Value → Heap → List Loc → Prop) (k n : Nat) :
    ∃ G : State → Prop, (∀ {S : State}, G S → own_Go p e below s Q k n S) ∧ (∀ {S S' : State}, (∀ t, Steps p.tables e below S' t → Steps p.tables e below S t) → G S' → G S) ∧ (∀ {S : State}, own_Go p e below s Q k n S → G S) :=
  ⟨own_Go p e below s Q k n, fun h => h, fun h g => by obtain ⟨s2, o, h1, r⟩ := g; exact ⟨s2, o, h _ h1, r⟩, fun h => h⟩
section OwnEnd
variable {p : Program} {l : Launch} {e : Env} {R : Room} {s : State} {m : MethodId} {args : Array Value} {below : List Frame} {meth : Method} {c : Code} {T : State} {locs : List Loc} {cells slots : Nat} {Q : Option Value → Heap → List Loc → Prop} {k n : Nat}
theorem own_goRet (X : Stand p l e R s m args below meth c T locs cells slots) (hx : p.tables.exec = Jvm.exec) {pc : Nat} {Ls : Array Slot} {w : Value} {t : FieldType} {i : Instr} {rest : List Value} (hret : meth.sig.returnType = some t) (hn : narrow t w = w)
    (hi : (i = .ireturn ∧ (t = .int ∨ t = .boolean ∨ t = .byte ∨ t = .char ∨ t = .short) ∧ ∃ z, w = .int z) ∨ (i = .lreturn ∧ t = .long ∧ ∃ z, w = .long z) ∨ (i = .dreturn ∧ t = .double ∧ ∃ z, w = .double z) ∨ (i = .freturn ∧ t = .float ∧ ∃ z, w = .float z) ∨ (i = .areturn ∧ t.isReference = true ∧ w.isRef = true))
    (hd : decode c.code pc = .ok (i, 1)) (hlk : meth.locks = false) (hQ : Q (some w) T.heap locs) (hk : cells ≤ k) (hn' : slots ≤ n) : own_Go p e below s Q k n (T.setTop (mkF m pc Ls (w :: rest))) := by
  obtain ⟨fs, hr, hrun, hended, hW, hsame⟩ := X.leave (v := some w) (fun h => by rw [hret] at h; cases h) hlk
  exact ⟨_, _, retOut X hx hret hn hi hd hr, hrun, hended, _, _, rfl, hQ, ⟨_, rfl⟩, hW, hsame.mono hk hn'⟩
theorem own_goVoid (X : Stand p l e R s m args below meth c T locs cells slots) (hx : p.tables.exec = Jvm.exec) {pc : Nat} {Ls : Array Slot} (hret : meth.sig.returnType = none)
    (hd : decode c.code pc = .ok (.return_, 1)) (hlk : meth.locks = false) (hQ : Q none T.heap locs) (hk : cells ≤ k) (hn' : slots ≤ n) : own_Go p e below s Q k n (T.setTop (mkF m pc Ls [])) := by
  obtain ⟨fs, hr, hrun, hended, hW, hsame⟩ := X.leave (v := none) (fun _ => rfl) hlk
  exact ⟨_, _, X.returnOut hx hret hd hr, hrun, hended, _, _, rfl, hQ, ⟨_, rfl⟩, hW, hsame.mono hk hn'⟩
end OwnEnd
abbrev own_B : String := "com/example/breachd/breachd/hash/BlacklistHashForm"
abbrev own_B1 : String := "com/example/breachd/breachd/hash/BlacklistHashForm$1"
abbrev own_B2 : String := "com/example/breachd/breachd/hash/BlacklistHashForm$2"
abbrev own_AB : String := "[Lcom/example/breachd/breachd/hash/BlacklistHashForm;"
abbrev own_DB : String := "Lcom/example/breachd/breachd/hash/BlacklistHashForm;"
section OwnPure
variable {Z : State} {h h' : Heap} {C n d : String} {v : Value} {args : Array Value} {t u w i : Term} {a : Addr}
theorem own_Sta_keep (F : Sta Z h C n d v) (K : Keep h h' []) : Sta Z h' C n d v := by
  obtain ⟨cf, i, k, f, st, cell, h1, h2, h3, h4, h5, r⟩ := F
  exact ⟨cf, i, k, f, st, cell, h1, h2, h3, h4, K.2.1 _ _ h5 nin0, r⟩
theorem own_arh {k : ClassId} {ty : FieldType} {z : Int32} {vs : List Value} {dv : Value} (F : Arv Z h a k ty z vs dv) : Arh Z h a k ty z [] vs dv := F
theorem own_fldI {z : Int32} (hq : (Jvm.Cond.eq (Term.field t C n d) (Term.int z)).value args Z none Z [] = some true) (ev : t.eval args Z none [] Z = some (.ref a)) : Fld Z Z.heap a C n d (.int z) := by
  obtain ⟨x, y, hx, hy, -⟩ := cmp_v (Or.inl hq)
  cases Option.some.inj ((Term.int_eval z).symm.trans hy)
  have e : x = .int z := by
    simp only [Cond.value, hx, hy] at hq
    cases x <;> simp at hq
    rw [hq]
  subst e
  rw [fld_at ev] at hx
  exact Fld.start hx
theorem own_fldN (hq : (Jvm.Cond.eq (Term.field t C n d) Term.null).value args Z none Z [] = some true) (ev : t.eval args Z none [] Z = some (.ref a)) : Fld Z Z.heap a C n d .null := by
  have hx := null_v hq
  rw [fld_at ev] at hx
  exact Fld.start hx
theorem own_vals {b a1 a2 : Addr} (hf : Fit Z) (ev : t.eval args Z none [] Z = some (.ref b)) (n5 : (Jvm.Cond.arrayOf t (.object own_B)).value args Z none Z [] = some true) (n7 : (Jvm.Cond.eq (Term.length t) (Term.int (2 : Int32))).value args Z none Z [] = some true)
    (n8 : (Jvm.Cond.eq (Term.elem t (Term.int (0 : Int32))) u).value args Z none Z [] = some true) (n9 : (Jvm.Cond.eq (Term.elem t (Term.int (1 : Int32))) w).value args Z none Z [] = some true)
    (e1 : u.eval args Z none [] Z = some (.ref a1)) (e2 : w.eval args Z none [] Z = some (.ref a2)) : ∃ k, Arv Z Z.heap b k (.object own_B) (2 : Int32) [(.ref a1), (.ref a2)] .null := by
  obtain ⟨c, A⟩ := Arr.start ev n5
  obtain ⟨x, y, hx, hy, -⟩ := cmp_v (Or.inl n7)
  have hA := A.fin (Vm.Alike.refl _)
  have hlen : c.slots.size < 2 ^ 31 ∧ c.slots.size.toInt32 = 2 := by
    cases Option.some.inj ((Term.int_eval (2 : Int32)).symm.trans hy)
    simp only [Term.eval, ev, Option.bind_eq_bind, hA, Option.bind_some, Option.pure_def] at hx
    by_cases q : c.slots.size < 2 ^ 31
    · refine ⟨q, ?_⟩
      rw [if_pos q] at hx
      cases hx
      simp only [Cond.value, Term.eval, ev, Option.bind_eq_bind, hA, Option.bind_some, Option.pure_def, if_pos q] at n7
      simpa using n7
    · rw [if_neg q] at hx; cases hx
  have el : ∀ {j : Int32} {r : Term} {y1 : Addr}, (Jvm.Cond.eq (Term.elem t (Term.int j)) r).value args Z none Z [] = some true → r.eval args Z none [] Z = some (.ref y1) → c.slots[j.toNatClampNeg]? = some (.ref y1) := by
    intro j r y1 hq hr
    obtain ⟨x, y, hx, hy, -⟩ := cmp_v (Or.inl hq)
    cases Option.some.inj (hr.symm.trans hy)
    have q2 := (elem_in hx ev (Term.int_eval j) A.1).2
    simp only [Cond.value, hx, hy] at hq
    cases x <;> simp at hq
    rw [q2, hq]
  exact ⟨c.cls, Arv.start hf A hlen.1 hlen.2 (by decide) rfl ⟨el n8 e1, el n9 e2, trivial⟩⟩
end OwnPure
def own_r (u : Int32) (a1 a2 : Addr) : Value := if (64 : Int32) = u then .ref a1 else if (40 : Int32) = u then .ref a2 else .null
def own_QI (r : Int32) (h0 : Heap) (n0 : Nat) (v : Option Value) (h : Heap) (L : List Loc) : Prop := v = some (.int r) ∧ Fr n0 L ∧ h = h0
def own_QR (r : Addr) (h0 : Heap) (n0 : Nat) (v : Option Value) (h : Heap) (L : List Loc) : Prop := v = some (.ref r) ∧ Fr n0 L ∧ h = h0
def own_QN (h0 : Heap) (n0 : Nat) (v : Option Value) (h : Heap) (L : List Loc) : Prop := v = some .null ∧ Fr n0 L ∧ h = h0
def own_Qv (Z : State) (kv : ClassId) (a1 a2 : Addr) (h0 : Heap) (n0 : Nat) (v : Option Value) (h : Heap) (L : List Loc) : Prop := ∃ b, v = some (.ref b) ∧ Fr n0 L ∧ Keep h0 h [] ∧ h0.size ≤ b ∧ Exa Z h b own_AB ∧ Arv Z h b kv (.object own_B) (2 : Int32) [(.ref a1), (.ref a2)] .null
def own_Qo (Z : State) (a y : Addr) (h0 : Heap) (n0 : Nat) (v : Option Value) (h : Heap) (L : List Loc) : Prop := v = none ∧ Fr n0 L ∧ Keep h0 h [a] ∧ Exa Z h a "java/util/Optional" ∧ Fld Z h a "java/util/Optional" "value" "Ljava/lang/Object;" (.ref y)
def own_Qs (Z : State) (r : Value) (h0 : Heap) (n0 : Nat) (v : Option Value) (h : Heap) (L : List Loc) : Prop := ∃ o, v = some (.ref o) ∧ Fr n0 L ∧ Keep h0 h [] ∧ Exa Z h o "java/util/Optional" ∧ Fld Z h o "java/util/Optional" "value" "Ljava/lang/Object;" r
def own_Q0 (n0 : Nat) (v : Option Value) (h : Heap) (L : List Loc) : Prop := v = some (.int (1 : Int32)) ∧ Fr n0 L
theorem own_w0 {Z : State} {a0 : Array Value} (hw : ∀ d ∈ tables_1, d.before a0 Z = true) : Jvm.Cond.before (Jvm.Cond.fieldLink x.cls (7 : Nat) own_B "SHA256" own_DB) a0 Z = true := hw _ (List.mem_of_getElem? (i := 0) rfl)
theorem own_w1 {Z : State} {a0 : Array Value} (hw : ∀ d ∈ tables_1, d.before a0 Z = true) : Jvm.Cond.before (Jvm.Cond.initialized own_B) a0 Z = true := hw _ (List.mem_of_getElem? (i := 1) rfl)
theorem own_w2 {Z : State} {a0 : Array Value} (hw : ∀ d ∈ tables_1, d.before a0 Z = true) : Jvm.Cond.before (Jvm.Cond.laysStatic own_B "SHA256" own_DB) a0 Z = true := hw _ (List.mem_of_getElem? (i := 2) rfl)
theorem own_w3 {Z : State} {a0 : Array Value} (hw : ∀ d ∈ tables_1, d.before a0 Z = true) : Jvm.Cond.before (Jvm.Cond.methodLink x.cls (13 : Nat) ({ cls := own_B, name := "hexLength", desc := "()I" } : Jvm.MethodName)) a0 Z = true := hw _ (List.mem_of_getElem? (i := 3) rfl)
theorem own_w4 {Z : State} {a0 : Array Value} (hw : ∀ d ∈ tables_1, d.before a0 Z = true) : Jvm.Cond.before (Jvm.Cond.declares ({ cls := own_B, name := "hexLength", desc := "()I" } : Jvm.MethodName)) a0 Z = true := hw _ (List.mem_of_getElem? (i := 4) rfl)
theorem own_w5 {Z : State} {a0 : Array Value} (hw : ∀ d ∈ tables_1, d.before a0 Z = true) : Jvm.Cond.before (Jvm.Cond.instanceMethod ({ cls := own_B, name := "hexLength", desc := "()I" } : Jvm.MethodName)) a0 Z = true := hw _ (List.mem_of_getElem? (i := 5) rfl)
theorem own_w6 {Z : State} {a0 : Array Value} (hw : ∀ d ∈ tables_1, d.before a0 Z = true) : Jvm.Cond.before (Jvm.Cond.selects own_B1 ({ cls := own_B, name := "hexLength", desc := "()I" } : Jvm.MethodName) ({ cls := own_B, name := "hexLength", desc := "()I" } : Jvm.MethodName)) a0 Z = true := hw _ (List.mem_of_getElem? (i := 6) rfl)
theorem own_w7 {Z : State} {a0 : Array Value} (hw : ∀ d ∈ tables_1, d.before a0 Z = true) : Jvm.Cond.before (Jvm.Cond.code ({ cls := own_B, name := "hexLength", desc := "()I" } : Jvm.MethodName) prog_1_method_7_code (1 : Nat) (Option.some Jvm.ClassFile.FieldType.int)) a0 Z = true := hw _ (List.mem_of_getElem? (i := 7) rfl)
theorem own_w8 {Z : State} {a0 : Array Value} (hw : ∀ d ∈ tables_1, d.before a0 Z = true) : Jvm.Cond.before (Jvm.Cond.fieldLink own_B (33 : Nat) own_B "hexLength" "I") a0 Z = true := hw _ (List.mem_of_getElem? (i := 8) rfl)
theorem own_w10 {Z : State} {a0 : Array Value} (hw : ∀ d ∈ tables_1, d.before a0 Z = true) : Jvm.Cond.before (Jvm.Cond.fieldLink x.cls (17 : Nat) own_B "PBKDF2" own_DB) a0 Z = true := hw _ (List.mem_of_getElem? (i := 10) rfl)
theorem own_w11 {Z : State} {a0 : Array Value} (hw : ∀ d ∈ tables_1, d.before a0 Z = true) : Jvm.Cond.before (Jvm.Cond.laysStatic own_B "PBKDF2" own_DB) a0 Z = true := hw _ (List.mem_of_getElem? (i := 11) rfl)
theorem own_w12 {Z : State} {a0 : Array Value} (hw : ∀ d ∈ tables_1, d.before a0 Z = true) : Jvm.Cond.before (Jvm.Cond.selects own_B2 ({ cls := own_B, name := "hexLength", desc := "()I" } : Jvm.MethodName) ({ cls := own_B, name := "hexLength", desc := "()I" } : Jvm.MethodName)) a0 Z = true := hw _ (List.mem_of_getElem? (i := 12) rfl)
theorem own_w14 {Z : State} {a0 : Array Value} (hw : ∀ d ∈ tables_1, d.before a0 Z = true) : Jvm.Cond.before (Jvm.Cond.methodLink x.cls (20 : Nat) ({ cls := own_B, name := "forHexLength", desc := "(I)Ljava/util/Optional;" } : Jvm.MethodName)) a0 Z = true := hw _ (List.mem_of_getElem? (i := 14) rfl)
theorem own_w15 {Z : State} {a0 : Array Value} (hw : ∀ d ∈ tables_1, d.before a0 Z = true) : Jvm.Cond.before (Jvm.Cond.static ({ cls := own_B, name := "forHexLength", desc := "(I)Ljava/util/Optional;" } : Jvm.MethodName)) a0 Z = true := hw _ (List.mem_of_getElem? (i := 15) rfl)
theorem own_w16 {Z : State} {a0 : Array Value} (hw : ∀ d ∈ tables_1, d.before a0 Z = true) : Jvm.Cond.before (Jvm.Cond.code ({ cls := own_B, name := "forHexLength", desc := "(I)Ljava/util/Optional;" } : Jvm.MethodName) prog_1_method_12_code (5 : Nat) (Option.some (Jvm.ClassFile.FieldType.object "java/util/Optional"))) a0 Z = true := hw _ (List.mem_of_getElem? (i := 16) rfl)
theorem own_w17 {Z : State} {a0 : Array Value} (hw : ∀ d ∈ tables_1, d.before a0 Z = true) : Jvm.Cond.before (Jvm.Cond.methodLink own_B (79 : Nat) ({ cls := own_B, name := "values", desc := "()[Lcom/example/breachd/breachd/hash/BlacklistHashForm;" } : Jvm.MethodName)) a0 Z = true := hw _ (List.mem_of_getElem? (i := 17) rfl)
theorem own_w18 {Z : State} {a0 : Array Value} (hw : ∀ d ∈ tables_1, d.before a0 Z = true) : Jvm.Cond.before (Jvm.Cond.static ({ cls := own_B, name := "values", desc := "()[Lcom/example/breachd/breachd/hash/BlacklistHashForm;" } : Jvm.MethodName)) a0 Z = true := hw _ (List.mem_of_getElem? (i := 18) rfl)
theorem own_w19 {Z : State} {a0 : Array Value} (hw : ∀ d ∈ tables_1, d.before a0 Z = true) : Jvm.Cond.before (Jvm.Cond.code ({ cls := own_B, name := "values", desc := "()[Lcom/example/breachd/breachd/hash/BlacklistHashForm;" } : Jvm.MethodName) prog_1_method_1_code (0 : Nat) (Option.some (Jvm.ClassFile.FieldType.array (Jvm.ClassFile.FieldType.object own_B)))) a0 Z = true := hw _ (List.mem_of_getElem? (i := 19) rfl)
theorem own_w20 {Z : State} {a0 : Array Value} (hw : ∀ d ∈ tables_1, d.before a0 Z = true) : Jvm.Cond.before (Jvm.Cond.fieldLink own_B (10 : Nat) own_B "$VALUES" own_AB) a0 Z = true := hw _ (List.mem_of_getElem? (i := 20) rfl)
theorem own_w21 {Z : State} {a0 : Array Value} (hw : ∀ d ∈ tables_1, d.before a0 Z = true) : Jvm.Cond.before (Jvm.Cond.laysStatic own_B "$VALUES" own_AB) a0 Z = true := hw _ (List.mem_of_getElem? (i := 21) rfl)
theorem own_w22 {Z : State} {a0 : Array Value} (hw : ∀ d ∈ tables_1, d.before a0 Z = true) : Jvm.Cond.before (Jvm.Cond.methodLink own_B (14 : Nat) ({ cls := own_AB, name := "clone", desc := "()Ljava/lang/Object;" } : Jvm.MethodName)) a0 Z = true := hw _ (List.mem_of_getElem? (i := 22) rfl)
theorem own_w23 {Z : State} {a0 : Array Value} (hw : ∀ d ∈ tables_1, d.before a0 Z = true) : Jvm.Cond.before (Jvm.Cond.sameMethod own_AB "java/lang/Object" "clone" "()Ljava/lang/Object;") a0 Z = true := hw _ (List.mem_of_getElem? (i := 23) rfl)
theorem own_w25 {Z : State} {a0 : Array Value} (hw : ∀ d ∈ tables_1, d.before a0 Z = true) : Jvm.Cond.before (Jvm.Cond.instanceMethod ({ cls := "java/lang/Object", name := "clone", desc := "()Ljava/lang/Object;" } : Jvm.MethodName)) a0 Z = true := hw _ (List.mem_of_getElem? (i := 25) rfl)
theorem own_w26 {Z : State} {a0 : Array Value} (hw : ∀ d ∈ tables_1, d.before a0 Z = true) : Jvm.Cond.before (Jvm.Cond.selects own_AB ({ cls := own_AB, name := "clone", desc := "()Ljava/lang/Object;" } : Jvm.MethodName) ({ cls := "java/lang/Object", name := "clone", desc := "()Ljava/lang/Object;" } : Jvm.MethodName)) a0 Z = true := hw _ (List.mem_of_getElem? (i := 26) rfl)
theorem own_w27 {Z : State} {a0 : Array Value} (hw : ∀ d ∈ tables_1, d.before a0 Z = true) : Jvm.Cond.before (Jvm.Cond.native ({ cls := "java/lang/Object", name := "clone", desc := "()Ljava/lang/Object;" } : Jvm.MethodName)) a0 Z = true := hw _ (List.mem_of_getElem? (i := 27) rfl)
theorem own_w28 {Z : State} {a0 : Array Value} (hw : ∀ d ∈ tables_1, d.before a0 Z = true) : Jvm.Cond.before (Jvm.Cond.castable own_AB "java/lang/Cloneable") a0 Z = true := hw _ (List.mem_of_getElem? (i := 28) rfl)
theorem own_w30 {Z : State} {a0 : Array Value} (hw : ∀ d ∈ tables_1, d.before a0 Z = true) : Jvm.Cond.before (Jvm.Cond.classLink own_B (15 : Nat) own_AB) a0 Z = true := hw _ (List.mem_of_getElem? (i := 30) rfl)
theorem own_w32 {Z : State} {a0 : Array Value} (hw : ∀ d ∈ tables_1, d.before a0 Z = true) : Jvm.Cond.before (Jvm.Cond.methodLink own_B (87 : Nat) ({ cls := "java/util/Optional", name := "of", desc := "(Ljava/lang/Object;)Ljava/util/Optional;" } : Jvm.MethodName)) a0 Z = true := hw _ (List.mem_of_getElem? (i := 32) rfl)
theorem own_w33 {Z : State} {a0 : Array Value} (hw : ∀ d ∈ tables_1, d.before a0 Z = true) : Jvm.Cond.before (Jvm.Cond.static ({ cls := "java/util/Optional", name := "of", desc := "(Ljava/lang/Object;)Ljava/util/Optional;" } : Jvm.MethodName)) a0 Z = true := hw _ (List.mem_of_getElem? (i := 33) rfl)
theorem own_w34 {Z : State} {a0 : Array Value} (hw : ∀ d ∈ tables_1, d.before a0 Z = true) : Jvm.Cond.before (Jvm.Cond.initialized "java/util/Optional") a0 Z = true := hw _ (List.mem_of_getElem? (i := 34) rfl)
theorem own_w35 {Z : State} {a0 : Array Value} (hw : ∀ d ∈ tables_1, d.before a0 Z = true) : Jvm.Cond.before (Jvm.Cond.code ({ cls := "java/util/Optional", name := "of", desc := "(Ljava/lang/Object;)Ljava/util/Optional;" } : Jvm.MethodName) jdk_32_method_3_code (1 : Nat) (Option.some (Jvm.ClassFile.FieldType.object "java/util/Optional"))) a0 Z = true := hw _ (List.mem_of_getElem? (i := 35) rfl)
theorem own_w36 {Z : State} {a0 : Array Value} (hw : ∀ d ∈ tables_1, d.before a0 Z = true) : Jvm.Cond.before (Jvm.Cond.classLink "java/util/Optional" (2 : Nat) "java/util/Optional") a0 Z = true := hw _ (List.mem_of_getElem? (i := 36) rfl)
theorem own_w37 {Z : State} {a0 : Array Value} (hw : ∀ d ∈ tables_1, d.before a0 Z = true) : Jvm.Cond.before (Jvm.Cond.instantiable "java/util/Optional" (1 : Nat)) a0 Z = true := hw _ (List.mem_of_getElem? (i := 37) rfl)
theorem own_w38 {Z : State} {a0 : Array Value} (hw : ∀ d ∈ tables_1, d.before a0 Z = true) : Jvm.Cond.before (Jvm.Cond.methodLink "java/util/Optional" (17 : Nat) ({ cls := "java/util/Objects", name := "requireNonNull", desc := "(Ljava/lang/Object;)Ljava/lang/Object;" } : Jvm.MethodName)) a0 Z = true := hw _ (List.mem_of_getElem? (i := 38) rfl)
theorem own_w39 {Z : State} {a0 : Array Value} (hw : ∀ d ∈ tables_1, d.before a0 Z = true) : Jvm.Cond.before (Jvm.Cond.static ({ cls := "java/util/Objects", name := "requireNonNull", desc := "(Ljava/lang/Object;)Ljava/lang/Object;" } : Jvm.MethodName)) a0 Z = true := hw _ (List.mem_of_getElem? (i := 39) rfl)
theorem own_w40 {Z : State} {a0 : Array Value} (hw : ∀ d ∈ tables_1, d.before a0 Z = true) : Jvm.Cond.before (Jvm.Cond.initialized "java/util/Objects") a0 Z = true := hw _ (List.mem_of_getElem? (i := 40) rfl)
theorem own_w41 {Z : State} {a0 : Array Value} (hw : ∀ d ∈ tables_1, d.before a0 Z = true) : Jvm.Cond.before (Jvm.Cond.code ({ cls := "java/util/Objects", name := "requireNonNull", desc := "(Ljava/lang/Object;)Ljava/lang/Object;" } : Jvm.MethodName) jdk_31_method_10_code (1 : Nat) (Option.some (Jvm.ClassFile.FieldType.object "java/lang/Object"))) a0 Z = true := hw _ (List.mem_of_getElem? (i := 41) rfl)
theorem own_w42 {Z : State} {a0 : Array Value} (hw : ∀ d ∈ tables_1, d.before a0 Z = true) : Jvm.Cond.before (Jvm.Cond.methodLink "java/util/Optional" (23 : Nat) ({ cls := "java/util/Optional", name := "<init>", desc := "(Ljava/lang/Object;)V" } : Jvm.MethodName)) a0 Z = true := hw _ (List.mem_of_getElem? (i := 42) rfl)
theorem own_w43 {Z : State} {a0 : Array Value} (hw : ∀ d ∈ tables_1, d.before a0 Z = true) : Jvm.Cond.before (Jvm.Cond.instanceMethod ({ cls := "java/util/Optional", name := "<init>", desc := "(Ljava/lang/Object;)V" } : Jvm.MethodName)) a0 Z = true := hw _ (List.mem_of_getElem? (i := 43) rfl)
theorem own_w45 {Z : State} {a0 : Array Value} (hw : ∀ d ∈ tables_1, d.before a0 Z = true) : Jvm.Cond.before (Jvm.Cond.code ({ cls := "java/util/Optional", name := "<init>", desc := "(Ljava/lang/Object;)V" } : Jvm.MethodName) jdk_32_method_2_code (2 : Nat) (Option.none : Option Jvm.ClassFile.FieldType)) a0 Z = true := hw _ (List.mem_of_getElem? (i := 45) rfl)
theorem own_w46 {Z : State} {a0 : Array Value} (hw : ∀ d ∈ tables_1, d.before a0 Z = true) : Jvm.Cond.before (Jvm.Cond.methodLink "java/util/Optional" (7 : Nat) ({ cls := "java/lang/Object", name := "<init>", desc := "()V" } : Jvm.MethodName)) a0 Z = true := hw _ (List.mem_of_getElem? (i := 46) rfl)
theorem own_w47 {Z : State} {a0 : Array Value} (hw : ∀ d ∈ tables_1, d.before a0 Z = true) : Jvm.Cond.before (Jvm.Cond.instanceMethod ({ cls := "java/lang/Object", name := "<init>", desc := "()V" } : Jvm.MethodName)) a0 Z = true := hw _ (List.mem_of_getElem? (i := 47) rfl)
theorem own_w48 {Z : State} {a0 : Array Value} (hw : ∀ d ∈ tables_1, d.before a0 Z = true) : Jvm.Cond.before (Jvm.Cond.code ({ cls := "java/lang/Object", name := "<init>", desc := "()V" } : Jvm.MethodName) object_method_1_code (1 : Nat) (Option.none : Option Jvm.ClassFile.FieldType)) a0 Z = true := hw _ (List.mem_of_getElem? (i := 48) rfl)
theorem own_w49 {Z : State} {a0 : Array Value} (hw : ∀ d ∈ tables_1, d.before a0 Z = true) : Jvm.Cond.before (Jvm.Cond.fieldLink "java/util/Optional" (13 : Nat) "java/util/Optional" "value" "Ljava/lang/Object;") a0 Z = true := hw _ (List.mem_of_getElem? (i := 49) rfl)
theorem own_w50 {Z : State} {a0 : Array Value} (hw : ∀ d ∈ tables_1, d.before a0 Z = true) : Jvm.Cond.before (Jvm.Cond.laysFinal "java/util/Optional" "java/util/Optional" "value" "Ljava/lang/Object;") a0 Z = true := hw _ (List.mem_of_getElem? (i := 50) rfl)
theorem own_w51 {Z : State} {a0 : Array Value} (hw : ∀ d ∈ tables_1, d.before a0 Z = true) : Jvm.Cond.before (Jvm.Cond.methodLink x.cls (24 : Nat) ({ cls := "java/util/Optional", name := "orElse", desc := "(Ljava/lang/Object;)Ljava/lang/Object;" } : Jvm.MethodName)) a0 Z = true := hw _ (List.mem_of_getElem? (i := 51) rfl)
theorem own_w52 {Z : State} {a0 : Array Value} (hw : ∀ d ∈ tables_1, d.before a0 Z = true) : Jvm.Cond.before (Jvm.Cond.declares ({ cls := "java/util/Optional", name := "orElse", desc := "(Ljava/lang/Object;)Ljava/lang/Object;" } : Jvm.MethodName)) a0 Z = true := hw _ (List.mem_of_getElem? (i := 52) rfl)
theorem own_w53 {Z : State} {a0 : Array Value} (hw : ∀ d ∈ tables_1, d.before a0 Z = true) : Jvm.Cond.before (Jvm.Cond.instanceMethod ({ cls := "java/util/Optional", name := "orElse", desc := "(Ljava/lang/Object;)Ljava/lang/Object;" } : Jvm.MethodName)) a0 Z = true := hw _ (List.mem_of_getElem? (i := 53) rfl)
theorem own_w54 {Z : State} {a0 : Array Value} (hw : ∀ d ∈ tables_1, d.before a0 Z = true) : Jvm.Cond.before (Jvm.Cond.selects "java/util/Optional" ({ cls := "java/util/Optional", name := "orElse", desc := "(Ljava/lang/Object;)Ljava/lang/Object;" } : Jvm.MethodName) ({ cls := "java/util/Optional", name := "orElse", desc := "(Ljava/lang/Object;)Ljava/lang/Object;" } : Jvm.MethodName)) a0 Z = true := hw _ (List.mem_of_getElem? (i := 54) rfl)
theorem own_w55 {Z : State} {a0 : Array Value} (hw : ∀ d ∈ tables_1, d.before a0 Z = true) : Jvm.Cond.before (Jvm.Cond.code ({ cls := "java/util/Optional", name := "orElse", desc := "(Ljava/lang/Object;)Ljava/lang/Object;" } : Jvm.MethodName) jdk_32_method_15_code (2 : Nat) (Option.some (Jvm.ClassFile.FieldType.object "java/lang/Object"))) a0 Z = true := hw _ (List.mem_of_getElem? (i := 55) rfl)
theorem own_w56 {Z : State} {a0 : Array Value} (hw : ∀ d ∈ tables_1, d.before a0 Z = true) : Jvm.Cond.before (Jvm.Cond.classLink x.cls (8 : Nat) own_B) a0 Z = true := hw _ (List.mem_of_getElem? (i := 56) rfl)
theorem own_w57 {Z : State} {a0 : Array Value} (hw : ∀ d ∈ tables_1, d.before a0 Z = true) : Jvm.Cond.before (Jvm.Cond.castable own_B1 own_B) a0 Z = true := hw _ (List.mem_of_getElem? (i := 57) rfl)
theorem own_w58 {Z : State} {a0 : Array Value} (hw : ∀ d ∈ tables_1, d.before a0 Z = true) : Jvm.Cond.before (Jvm.Cond.methodLink own_B (92 : Nat) ({ cls := "java/util/Optional", name := "empty", desc := "()Ljava/util/Optional;" } : Jvm.MethodName)) a0 Z = true := hw _ (List.mem_of_getElem? (i := 58) rfl)
theorem own_w59 {Z : State} {a0 : Array Value} (hw : ∀ d ∈ tables_1, d.before a0 Z = true) : Jvm.Cond.before (Jvm.Cond.static ({ cls := "java/util/Optional", name := "empty", desc := "()Ljava/util/Optional;" } : Jvm.MethodName)) a0 Z = true := hw _ (List.mem_of_getElem? (i := 59) rfl)
theorem own_w60 {Z : State} {a0 : Array Value} (hw : ∀ d ∈ tables_1, d.before a0 Z = true) : Jvm.Cond.before (Jvm.Cond.code ({ cls := "java/util/Optional", name := "empty", desc := "()Ljava/util/Optional;" } : Jvm.MethodName) jdk_32_method_1_code (1 : Nat) (Option.some (Jvm.ClassFile.FieldType.object "java/util/Optional"))) a0 Z = true := hw _ (List.mem_of_getElem? (i := 60) rfl)
theorem own_w61 {Z : State} {a0 : Array Value} (hw : ∀ d ∈ tables_1, d.before a0 Z = true) : Jvm.Cond.before (Jvm.Cond.fieldLink "java/util/Optional" (1 : Nat) "java/util/Optional" "EMPTY" "Ljava/util/Optional;") a0 Z = true := hw _ (List.mem_of_getElem? (i := 61) rfl)
theorem own_w62 {Z : State} {a0 : Array Value} (hw : ∀ d ∈ tables_1, d.before a0 Z = true) : Jvm.Cond.before (Jvm.Cond.castable own_B2 own_B) a0 Z = true := hw _ (List.mem_of_getElem? (i := 62) rfl)
theorem pd_0 : parseMethodDescriptor "(Ljava/lang/Object;)Ljava/lang/Object;" = some ⟨[(.object "java/lang/Object")], some (.object "java/lang/Object")⟩ := by decide +kernel
theorem pd_1 : parseMethodDescriptor "(Ljava/lang/Object;)V" = some ⟨[(.object "java/lang/Object")], none⟩ := by decide +kernel
theorem pd_2 : parseMethodDescriptor "()[Lcom/example/breachd/breachd/hash/BlacklistHashForm;" = some ⟨[], some (.array (.object own_B))⟩ := by decide +kernel
theorem pd_3 : parseMethodDescriptor "(Ljava/lang/Object;)Ljava/util/Optional;" = some ⟨[(.object "java/lang/Object")], some (.object "java/util/Optional")⟩ := by decide +kernel
theorem pd_4 : parseMethodDescriptor "()Ljava/util/Optional;" = some ⟨[], some (.object "java/util/Optional")⟩ := by decide +kernel
theorem pd_5 : parseMethodDescriptor "()I" = some ⟨[], some .int⟩ := by decide +kernel
theorem pd_6 : parseMethodDescriptor "(I)Ljava/util/Optional;" = some ⟨[.int], some (.object "java/util/Optional")⟩ := by decide +kernel
theorem d1_0 : decode prog_1_method_7_code 0 = .ok (.aload_n 0, 1) := by decide +kernel
theorem d1_1 : decode prog_1_method_7_code 1 = .ok (.getfield 33, 3) := by decide +kernel
theorem d1_4 : decode prog_1_method_7_code 4 = .ok (.ireturn, 1) := by decide +kernel
theorem ef_1 (m : MethodId) (a : Addr) : entryFrame m #[(.ref a)] 1 = mkF m 0 #[.val (.ref a)] [] := by first | (simp [entryFrame, mkF, argsToLocals, Value.category]; done) | rfl
theorem pn_1 : plainName own_B = true := by first | decide +kernel | (simp [plainName, overriddenIn]; done)
set_option maxRecDepth 65536 in
set_option maxHeartbeats 40000000 in
theorem rm1 (l : Launch) (Z : State) (a0 : Array Value) (hw : ∀ d ∈ tables_1, d.before a0 Z = true) (ws : List Jvm.Cond) (a : Addr) (u : Int32) (h0 : Heap) (n0 : Nat) (Z0 : n0 ≤ h0.size) (F_hl_a : Fld Z h0 a own_B "hexLength" "I" (.int u)) :
    MetFree l (⟨own_B, "hexLength", "()I"⟩ : MethodName) (head1 (Jvm.Cond.code (⟨own_B, "hexLength", "()I"⟩ : MethodName) prog_1_method_7_code 1 (some .int) :: ws) ({ frames := 0, cells := 0, slots := 0, locals := 0 } : Room)) (fun a_ U_ => a_ = #[(.ref a)] ∧ Z.Warmed39 U_.vm ∧ U_.heap = h0) (fun _ _ _ _ _ => True) (fun _ U_ o_ W_ => ∃ v_ L_, o_ = .returned v_ ∧ own_QI u h0 n0 v_ W_.heap L_ ∧ FrameEnd U_ o_ W_ L_ ({ frames := 0, cells := 0, slots := 0, locals := 0 } : Room).cells ({ frames := 0, cells := 0, slots := 0, locals := 0 } : Room).slots) := by
  refine MetFree.of_bodySF (plainFor_of_name pn_1) hisR ?_
  intro p e s m args below meth c s₁ Bd hml0 hP hK
  obtain ⟨rfl, hZ, hh⟩ := hP
  have hx := Bd.exec
  have hby := Bd.bytes
  have hml : c.maxLocals = 1 := hml0
  have hown : s.vm.findClass own_B = some m.cls := by have z := findClass_of_methodNamed Bd.named; exact z
  have hnm := (name_of_methodNamed Bd.named Bd.method).1
  have X0 : Stand p l e ({ frames := 0, cells := 0, slots := 0, locals := 0 } : Room) s m #[(.ref a)] below meth c s₁ [] 0 0 := Stand.of_body Bd
  have e0 : s₁.heap = h0 := by rw [← hh, Bd.state]; rfl
  have N0 := Fr.nil n0
  obtain ⟨G, hG, hst, hend⟩ := own_abs p e below s (own_QI u h0 n0) ({ frames := 0, cells := 0, slots := 0, locals := 0 } : Room).cells ({ frames := 0, cells := 0, slots := 0, locals := 0 } : Room).slots
  refine hG (S := s₁.setTop (entryFrame m #[(.ref a)] 1)) (hst (fun t k => castTop (ef_1 m a) k) ?_)
  show G (s₁.setTop (mkF m 0 #[.val (.ref a)] []))
  refine hst (fun _ kt => XS.aloadN X0.here hx rfl (hb hby d1_0) rfl rfl kt) ?_
  show G (s₁.setTop (mkF m 1 #[.val (.ref a)] [(.ref a)]))
  obtain ⟨T_1, X_1, e_1, st_1⟩ := getF X0 hx hZ hown (host := "") (Or.inl (own_w8 hw)) Via.refl e0 F_hl_a (g := (mkF m 1 #[.val (.ref a)] [(.ref a)])) rfl rfl (hb hby d1_1)
  refine hst st_1 ?_
  show G (T_1.setTop (mkF m 4 #[.val (.ref a)] [(.int u)]))
  exact hend (own_goRet X_1 hx Bd.returns rfl (Or.inl ⟨rfl, by simp, _, rfl⟩) (hb hby d1_4) Bd.notSynchronized (by rw [e_1]; exact ⟨rfl, N0, rfl⟩) (by decide) (by decide))
theorem d2_0 : decode prog_1_method_1_code 0 = .ok (.getstatic 10, 3) := by decide +kernel
theorem d2_3 : decode prog_1_method_1_code 3 = .ok (.invokevirtual 14, 3) := by decide +kernel
theorem d2_6 : decode prog_1_method_1_code 6 = .ok (.checkcast 15, 3) := by decide +kernel
theorem d2_9 : decode prog_1_method_1_code 9 = .ok (.areturn, 1) := by decide +kernel
theorem ef_2 (m : MethodId)  : entryFrame m #[] 0 = mkF m 0 #[] [] := by first | (simp [entryFrame, mkF, argsToLocals, Value.category]; done) | rfl
theorem pn_2 : plainName own_B = true := by first | decide +kernel | (simp [plainName, overriddenIn]; done)
set_option maxRecDepth 65536 in
set_option maxHeartbeats 40000000 in
theorem rm2 (l : Launch) (Z : State) (a0 : Array Value) (hw : ∀ d ∈ tables_1, d.before a0 Z = true) (ws : List Jvm.Cond) (bv : Addr) (kv : ClassId) (a1 : Addr) (a2 : Addr) (h0 : Heap) (n0 : Nat) (Z0 : n0 ≤ h0.size) (S_v : Sta Z h0 own_B "$VALUES" own_AB (.ref bv)) (E_bv : Exa Z h0 bv own_AB) (V_bv : Arv Z h0 bv kv (.object own_B) (2 : Int32) [(.ref a1), (.ref a2)] .null) :
    MetFree l (⟨own_B, "values", "()[Lcom/example/breachd/breachd/hash/BlacklistHashForm;"⟩ : MethodName) (head1 (Jvm.Cond.code (⟨own_B, "values", "()[Lcom/example/breachd/breachd/hash/BlacklistHashForm;"⟩ : MethodName) prog_1_method_1_code 0 (some (.array (.object own_B))) :: ws) ({ frames := 1, cells := 1, slots := 2, locals := 14 } : Room)) (fun a_ U_ => a_ = #[] ∧ Z.Warmed39 U_.vm ∧ U_.heap = h0) (fun _ _ _ _ _ => True) (fun _ U_ o_ W_ => ∃ v_ L_, o_ = .returned v_ ∧ own_Qv Z kv a1 a2 h0 n0 v_ W_.heap L_ ∧ FrameEnd U_ o_ W_ L_ ({ frames := 1, cells := 1, slots := 2, locals := 14 } : Room).cells ({ frames := 1, cells := 1, slots := 2, locals := 14 } : Room).slots) := by
  refine MetFree.of_bodySF (plainFor_of_name pn_2) hisR ?_
  intro p e s m args below meth c s₁ Bd hml0 hP hK
  obtain ⟨rfl, hZ, hh⟩ := hP
  have hx := Bd.exec
  have hby := Bd.bytes
  have hml : c.maxLocals = 0 := hml0
  have hown : s.vm.findClass own_B = some m.cls := by have z := findClass_of_methodNamed Bd.named; exact z
  have hnm := (name_of_methodNamed Bd.named Bd.method).1
  have X0 : Stand p l e ({ frames := 1, cells := 1, slots := 2, locals := 14 } : Room) s m #[] below meth c s₁ [] 0 0 := Stand.of_body Bd
  have e0 : s₁.heap = h0 := by rw [← hh, Bd.state]; rfl
  have N0 := Fr.nil n0
  obtain ⟨G, hG, hst, hend⟩ := own_abs p e below s (own_Qv Z kv a1 a2 h0 n0) ({ frames := 1, cells := 1, slots := 2, locals := 14 } : Room).cells ({ frames := 1, cells := 1, slots := 2, locals := 14 } : Room).slots
  refine hG (S := s₁.setTop (entryFrame m #[] 0)) (hst (fun t k => castTop (ef_2 m ) k) ?_)
  have Z1 := Nat.le_refl h0.size
  have K0 := Keep.refl h0 []
  show G (s₁.setTop (mkF m 0 #[] []))
  obtain ⟨T_1, X_1, e_1, st_1⟩ := getS2 X0 hx hZ hown (host := "") (Or.inl (own_w20 hw)) Via.refl e0 S_v (g := (mkF m 0 #[] [])) rfl (hb hby d2_0)
  refine hst st_1 ?_
  show G (T_1.setTop (mkF m 3 #[] [(.ref bv)]))
  obtain ⟨T_2, h_2, X_2, e_2, E_2, V_2, A_2, st_2⟩ := cloneH X_1 hx hZ hown (ad := own_AB) (own_w22 hw) (own_w23 hw) (own_w27 hw) (own_w25 hw) (own_w26 hw) (own_w28 hw) e_1 (own_arh V_bv) E_bv (g := (mkF m 3 #[] [(.ref bv)])) rfl (by rw [hml]; rfl) rfl (hb hby d2_3) (by decide) (W := 0) (cap := 2) (by show 2 * 0 + _ ≤ _; exact Nat.le_of_eq rfl) (by decide) (by decide) (by decide) (by decide)
  obtain ⟨b, g_b⟩ : ∃ z, z = h0.size := ⟨_, rfl⟩
  rw [← g_b] at V_2 A_2 st_2
  have ne_bv_b : bv ≠ b := Nat.ne_of_lt (Nat.lt_of_lt_of_le E_bv.lt (Nat.le_of_eq g_b.symm))
  have le_n0_b : n0 ≤ b := Nat.le_trans Z0 (Nat.le_of_eq g_b.symm)
  have le_hh_b : h0.size ≤ b := Nat.le_trans Z1 (Nat.le_of_eq g_b.symm)
  have Z0 := Nat.le_trans Z0 E_2.1
  have Z1 := Nat.le_trans Z1 E_2.1
  have S_v := S_v.ext E_2
  have E_bv := E_bv.ext E_2
  have V_bv := V_bv.ext E_2
  have K0 := K0.ext E_2
  have V_b : Arv Z h_2 b kv (.object own_B) (2 : Int32) [(.ref a1), (.ref a2)] .null := V_2
  have E_b : Exa Z h_2 b own_AB := A_2
  refine hst st_2 ?_
  show G (T_2.setTop (mkF m 6 #[] [(.ref b)]))
  obtain ⟨T_3, X_3, e_3, st_3⟩ := castY X_2 hx hZ hown (own_w30 hw) e_2 (Ins.self E_b) (g := (mkF m 6 #[] [(.ref b)])) rfl rfl (hb hby d2_6)
  refine hst st_3 ?_
  show G (T_3.setTop (mkF m 9 #[] [(.ref b)]))
  exact hend (own_goRet X_3 hx Bd.returns rfl (Or.inr (Or.inr (Or.inr (Or.inr ⟨rfl, rfl, rfl⟩)))) (hb hby d2_9) Bd.notSynchronized (by rw [e_3]; exact ⟨b, rfl, N0, K0, le_hh_b, E_b, V_b⟩) (by decide) (by decide))
theorem d3_0 : decode jdk_31_method_10_code 0 = .ok (.aload_n 0, 1) := by decide +kernel
theorem d3_1 : decode jdk_31_method_10_code 1 = .ok (.ifnonnull 11, 3) := by decide +kernel
theorem d3_12 : decode jdk_31_method_10_code 12 = .ok (.aload_n 0, 1) := by decide +kernel
theorem d3_13 : decode jdk_31_method_10_code 13 = .ok (.areturn, 1) := by decide +kernel
theorem ef_3 (m : MethodId) (a : Addr) : entryFrame m #[(.ref a)] 1 = mkF m 0 #[.val (.ref a)] [] := by first | (simp [entryFrame, mkF, argsToLocals, Value.category]; done) | rfl
theorem pn_3 : plainName "java/util/Objects" = true := by first | decide +kernel | (simp [plainName, overriddenIn]; done)
set_option maxRecDepth 65536 in
set_option maxHeartbeats 40000000 in
theorem rm3 (l : Launch) (Z : State) (a0 : Array Value) (hw : ∀ d ∈ tables_1, d.before a0 Z = true) (ws : List Jvm.Cond) (a : Addr) (h0 : Heap) (n0 : Nat) (Z0 : n0 ≤ h0.size) :
    MetFree l (⟨"java/util/Objects", "requireNonNull", "(Ljava/lang/Object;)Ljava/lang/Object;"⟩ : MethodName) (head1 (Jvm.Cond.code (⟨"java/util/Objects", "requireNonNull", "(Ljava/lang/Object;)Ljava/lang/Object;"⟩ : MethodName) jdk_31_method_10_code 1 (some (.object "java/lang/Object")) :: ws) ({ frames := 0, cells := 0, slots := 0, locals := 0 } : Room)) (fun a_ U_ => a_ = #[(.ref a)] ∧ Z.Warmed39 U_.vm ∧ U_.heap = h0) (fun _ _ _ _ _ => True) (fun _ U_ o_ W_ => ∃ v_ L_, o_ = .returned v_ ∧ own_QR a h0 n0 v_ W_.heap L_ ∧ FrameEnd U_ o_ W_ L_ ({ frames := 0, cells := 0, slots := 0, locals := 0 } : Room).cells ({ frames := 0, cells := 0, slots := 0, locals := 0 } : Room).slots) := by
  refine MetFree.of_bodySF (plainFor_of_name pn_3) hisR ?_
  intro p e s m args below meth c s₁ Bd hml0 hP hK
  obtain ⟨rfl, hZ, hh⟩ := hP
  have hx := Bd.exec
  have hby := Bd.bytes
  have hml : c.maxLocals = 1 := hml0
  have hown : s.vm.findClass "java/util/Objects" = some m.cls := by have z := findClass_of_methodNamed Bd.named; exact z
  have hnm := (name_of_methodNamed Bd.named Bd.method).1
  have X0 : Stand p l e ({ frames := 0, cells := 0, slots := 0, locals := 0 } : Room) s m #[(.ref a)] below meth c s₁ [] 0 0 := Stand.of_body Bd
  have e0 : s₁.heap = h0 := by rw [← hh, Bd.state]; rfl
  have N0 := Fr.nil n0
  obtain ⟨G, hG, hst, hend⟩ := own_abs p e below s (own_QR a h0 n0) ({ frames := 0, cells := 0, slots := 0, locals := 0 } : Room).cells ({ frames := 0, cells := 0, slots := 0, locals := 0 } : Room).slots
  refine hG (S := s₁.setTop (entryFrame m #[(.ref a)] 1)) (hst (fun t k => castTop (ef_3 m a) k) ?_)
  show G (s₁.setTop (mkF m 0 #[.val (.ref a)] []))
  refine hst (fun _ kt => XS.aloadN X0.here hx rfl (hb hby d3_0) rfl rfl kt) ?_
  show G (s₁.setTop (mkF m 1 #[.val (.ref a)] [(.ref a)]))
  refine hst (fun _ kt => XS.ifnonnullYes X0.here hx rfl (pc0 := 1) (pc' := 12) rfl (hb hby d3_1) rfl (by decide) (by decide) kt) ?_
  show G (s₁.setTop (mkF m 12 #[.val (.ref a)] []))
  refine hst (fun _ kt => XS.aloadN X0.here hx rfl (hb hby d3_12) rfl rfl kt) ?_
  show G (s₁.setTop (mkF m 13 #[.val (.ref a)] [(.ref a)]))
  exact hend (own_goRet X0 hx Bd.returns rfl (Or.inr (Or.inr (Or.inr (Or.inr ⟨rfl, rfl, rfl⟩)))) (hb hby d3_13) Bd.notSynchronized (by rw [e0]; exact ⟨rfl, N0, rfl⟩) (by decide) (by decide))
theorem d4_0 : decode jdk_32_method_2_code 0 = .ok (.aload_n 0, 1) := by decide +kernel
theorem d4_1 : decode jdk_32_method_2_code 1 = .ok (.invokespecial 7, 3) := by decide +kernel
theorem d4_4 : decode jdk_32_method_2_code 4 = .ok (.aload_n 0, 1) := by decide +kernel
theorem d4_5 : decode jdk_32_method_2_code 5 = .ok (.aload_n 1, 1) := by decide +kernel
theorem d4_6 : decode jdk_32_method_2_code 6 = .ok (.putfield 13, 3) := by decide +kernel
theorem d4_9 : decode jdk_32_method_2_code 9 = .ok (.return_, 1) := by decide +kernel
theorem ef_4 (m : MethodId) (a : Addr) (y : Addr) : entryFrame m #[(.ref a), (.ref y)] 2 = mkF m 0 #[.val (.ref a), .val (.ref y)] [] := by first | (simp [entryFrame, mkF, argsToLocals, Value.category]; done) | rfl
theorem pn_4 : plainName "java/util/Optional" = true := by first | decide +kernel | (simp [plainName, overriddenIn]; done)
set_option maxRecDepth 65536 in
set_option maxHeartbeats 40000000 in
theorem rm4 (l : Launch) (Z : State) (a0 : Array Value) (hw : ∀ d ∈ tables_1, d.before a0 Z = true) (ws : List Jvm.Cond) (a : Addr) (y : Addr) (h0 : Heap) (n0 : Nat) (Z0 : n0 ≤ h0.size) (F_value_a : Fld Z h0 a "java/util/Optional" "value" "Ljava/lang/Object;" .null) (E_a : Exa Z h0 a "java/util/Optional") (le_n0_a : n0 ≤ a) :
    MetFree l (⟨"java/util/Optional", "<init>", "(Ljava/lang/Object;)V"⟩ : MethodName) (head1 (Jvm.Cond.code (⟨"java/util/Optional", "<init>", "(Ljava/lang/Object;)V"⟩ : MethodName) jdk_32_method_2_code 2 none :: ws) ({ frames := 1, cells := 0, slots := 0, locals := 12 } : Room)) (fun a_ U_ => a_ = #[(.ref a), (.ref y)] ∧ Z.Warmed39 U_.vm ∧ U_.heap = h0) (fun _ _ _ _ _ => True) (fun _ U_ o_ W_ => ∃ v_ L_, o_ = .returned v_ ∧ own_Qo Z a y h0 n0 v_ W_.heap L_ ∧ FrameEnd U_ o_ W_ L_ ({ frames := 1, cells := 0, slots := 0, locals := 12 } : Room).cells ({ frames := 1, cells := 0, slots := 0, locals := 12 } : Room).slots) := by
  refine MetFree.of_bodySF (plainFor_of_name pn_4) hisR ?_
  intro p e s m args below meth c s₁ Bd hml0 hP hK
  obtain ⟨rfl, hZ, hh⟩ := hP
  have hx := Bd.exec
  have hby := Bd.bytes
  have hml : c.maxLocals = 2 := hml0
  have hown : s.vm.findClass "java/util/Optional" = some m.cls := by have z := findClass_of_methodNamed Bd.named; exact z
  have hnm := (name_of_methodNamed Bd.named Bd.method).1
  have X0 : Stand p l e ({ frames := 1, cells := 0, slots := 0, locals := 12 } : Room) s m #[(.ref a), (.ref y)] below meth c s₁ [] 0 0 := Stand.of_body Bd
  have e0 : s₁.heap = h0 := by rw [← hh, Bd.state]; rfl
  have N0 := Fr.nil n0
  obtain ⟨G, hG, hst, hend⟩ := own_abs p e below s (own_Qo Z a y h0 n0) ({ frames := 1, cells := 0, slots := 0, locals := 12 } : Room).cells ({ frames := 1, cells := 0, slots := 0, locals := 12 } : Room).slots
  refine hG (S := s₁.setTop (entryFrame m #[(.ref a), (.ref y)] 2)) (hst (fun t k => castTop (ef_4 m a y) k) ?_)
  have Z1 := Nat.le_refl h0.size
  have K0 := Keep.refl h0 [a]
  show G (s₁.setTop (mkF m 0 #[.val (.ref a), .val (.ref y)] []))
  refine hst (fun _ kt => XS.aloadN X0.here hx rfl (hb hby d4_0) rfl rfl kt) ?_
  show G (s₁.setTop (mkF m 1 #[.val (.ref a), .val (.ref y)] [(.ref a)]))
  obtain ⟨T_1, X_1, e_1, st_1⟩ := initO X0 hx hZ hown (own_w46 hw) (own_w47 hw) (own_w48 hw) e0 (g := (mkF m 1 #[.val (.ref a), .val (.ref y)] [(.ref a)])) rfl (by rw [hml]; rfl) rfl (hb hby d4_1) (by decide) (W := 0) (by show 2 * 0 + _ ≤ _; exact Nat.le_of_eq rfl) (by decide)
  refine hst st_1 ?_
  show G (T_1.setTop (mkF m 4 #[.val (.ref a), .val (.ref y)] []))
  refine hst (fun _ kt => XS.aloadN X_1.here hx rfl (hb hby d4_4) rfl rfl kt) ?_
  show G (T_1.setTop (mkF m 5 #[.val (.ref a), .val (.ref y)] [(.ref a)]))
  refine hst (fun _ kt => XS.aloadN X_1.here hx rfl (hb hby d4_5) rfl rfl kt) ?_
  show G (T_1.setTop (mkF m 6 #[.val (.ref a), .val (.ref y)] [(.ref y), (.ref a)]))
  obtain ⟨T_2, h_2, X_2, e_2, W_2, st_2⟩ := putF X_1 hx hZ hown (host := "") (Or.inl (own_w49 hw)) Via.refl e_1 F_value_a E_a (Or.inr ⟨(own_w50 hw), rfl, hnm⟩) (own_w37 hw) (ty := (.object "java/lang/Object")) (by decide) rfl rfl (g := (mkF m 6 #[.val (.ref a), .val (.ref y)] [(.ref y), (.ref a)])) rfl rfl (hb hby d4_6)
  have Z0 := Nat.le_trans Z0 (Keep.of_wr W_2).1
  have Z1 := Nat.le_trans Z1 (Keep.of_wr W_2).1
  have F_value_a := F_value_a.same W_2
  have E_a := E_a.wr W_2
  have K0 := K0.wr W_2 (Or.inl (List.mem_of_getElem? (i := 0) rfl))
  have N_2 := Fr.snoc X_2 N0 le_n0_a
  refine hst st_2 ?_
  show G (T_2.setTop (mkF m 9 #[.val (.ref a), .val (.ref y)] []))
  exact hend (own_goVoid X_2 hx Bd.returns (hb hby d4_9) Bd.notSynchronized (by rw [e_2]; exact ⟨rfl, N_2, K0, E_a, F_value_a⟩) (by decide) (by decide))
theorem d5_0 : decode jdk_32_method_3_code 0 = .ok (.new 2, 3) := by decide +kernel
theorem d5_3 : decode jdk_32_method_3_code 3 = .ok (.dup, 1) := by decide +kernel
theorem d5_4 : decode jdk_32_method_3_code 4 = .ok (.aload_n 0, 1) := by decide +kernel
theorem d5_5 : decode jdk_32_method_3_code 5 = .ok (.invokestatic 17, 3) := by decide +kernel
theorem d5_8 : decode jdk_32_method_3_code 8 = .ok (.invokespecial 23, 3) := by decide +kernel
theorem d5_11 : decode jdk_32_method_3_code 11 = .ok (.areturn, 1) := by decide +kernel
theorem ef_5 (m : MethodId) (y : Addr) : entryFrame m #[(.ref y)] 1 = mkF m 0 #[.val (.ref y)] [] := by first | (simp [entryFrame, mkF, argsToLocals, Value.category]; done) | rfl
theorem pn_5 : plainName "java/util/Optional" = true := by first | decide +kernel | (simp [plainName, overriddenIn]; done)
set_option maxRecDepth 65536 in
set_option maxHeartbeats 40000000 in
theorem rm5 (l : Launch) (Z : State) (a0 : Array Value) (hw : ∀ d ∈ tables_1, d.before a0 Z = true) (ws : List Jvm.Cond) (y : Addr) (h0 : Heap) (n0 : Nat) (Z0 : n0 ≤ h0.size) :
    MetFree l (⟨"java/util/Optional", "of", "(Ljava/lang/Object;)Ljava/util/Optional;"⟩ : MethodName) (head1 (Jvm.Cond.code (⟨"java/util/Optional", "of", "(Ljava/lang/Object;)Ljava/util/Optional;"⟩ : MethodName) jdk_32_method_3_code 1 (some (.object "java/util/Optional")) :: ws) ({ frames := 2, cells := 1, slots := 1, locals := 26 } : Room)) (fun a_ U_ => a_ = #[(.ref y)] ∧ Z.Warmed39 U_.vm ∧ U_.heap = h0) (fun _ _ _ _ _ => True) (fun _ U_ o_ W_ => ∃ v_ L_, o_ = .returned v_ ∧ own_Qs Z (.ref y) h0 n0 v_ W_.heap L_ ∧ FrameEnd U_ o_ W_ L_ ({ frames := 2, cells := 1, slots := 1, locals := 26 } : Room).cells ({ frames := 2, cells := 1, slots := 1, locals := 26 } : Room).slots) := by
  refine MetFree.of_bodySF (plainFor_of_name pn_5) hisR ?_
  intro p e s m args below meth c s₁ Bd hml0 hP hK
  obtain ⟨rfl, hZ, hh⟩ := hP
  have hx := Bd.exec
  have hby := Bd.bytes
  have hml : c.maxLocals = 1 := hml0
  have hown : s.vm.findClass "java/util/Optional" = some m.cls := by have z := findClass_of_methodNamed Bd.named; exact z
  have hnm := (name_of_methodNamed Bd.named Bd.method).1
  have X0 : Stand p l e ({ frames := 2, cells := 1, slots := 1, locals := 26 } : Room) s m #[(.ref y)] below meth c s₁ [] 0 0 := Stand.of_body Bd
  have e0 : s₁.heap = h0 := by rw [← hh, Bd.state]; rfl
  have N0 := Fr.nil n0
  obtain ⟨G, hG, hst, hend⟩ := own_abs p e below s (own_Qs Z (.ref y) h0 n0) ({ frames := 2, cells := 1, slots := 1, locals := 26 } : Room).cells ({ frames := 2, cells := 1, slots := 1, locals := 26 } : Room).slots
  refine hG (S := s₁.setTop (entryFrame m #[(.ref y)] 1)) (hst (fun t k => castTop (ef_5 m y) k) ?_)
  have Z1 := Nat.le_refl h0.size
  have K0 := Keep.refl h0 []
  show G (s₁.setTop (mkF m 0 #[.val (.ref y)] []))
  obtain ⟨T_1, h_1, X_1, e_1, E_1, A_1, D_1, -, st_1⟩ := newO X0 hx hZ hown (own_w36 hw) (own_w37 hw) (own_w34 hw) e0 (g := (mkF m 0 #[.val (.ref y)] [])) rfl (hb hby d5_0) (by decide) (by decide)
  obtain ⟨o, g_o⟩ : ∃ z, z = h0.size := ⟨_, rfl⟩
  rw [← g_o] at A_1 D_1 st_1
  have le_n0_o : n0 ≤ o := Nat.le_trans Z0 (Nat.le_of_eq g_o.symm)
  have le_hh_o : h0.size ≤ o := Nat.le_trans Z1 (Nat.le_of_eq g_o.symm)
  have Z0 := Nat.le_trans Z0 E_1.1
  have Z1 := Nat.le_trans Z1 E_1.1
  have K0 := K0.ext E_1
  have E_o : Exa Z h_1 o "java/util/Optional" := A_1
  have F_value_o : Fld Z h_1 o "java/util/Optional" "value" "Ljava/lang/Object;" .null := D_1 (Or.inr (own_w50 hw)) (ty := (.object "java/lang/Object")) (by decide)
  refine hst st_1 ?_
  show G (T_1.setTop (mkF m 3 #[.val (.ref y)] [(.ref o)]))
  refine hst (fun _ kt => XS.dup X_1.here hx rfl (hb hby d5_3) rfl rfl kt) ?_
  show G (T_1.setTop (mkF m 4 #[.val (.ref y)] [(.ref o), (.ref o)]))
  refine hst (fun _ kt => XS.aloadN X_1.here hx rfl (hb hby d5_4) rfl rfl kt) ?_
  show G (T_1.setTop (mkF m 5 #[.val (.ref y)] [(.ref y), (.ref o), (.ref o)]))
  obtain ⟨_, _, ⟨T_2, L_2, k_2, n_2⟩, -, X_2, ⟨Lc_2, hQ_2, l_2, y_2, z_2⟩, st_2⟩ := Jvm.LawKit.callS X_1 hx (y := (⟨"java/util/Objects", "requireNonNull", "(Ljava/lang/Object;)Ljava/lang/Object;"⟩ : MethodName)) hown (mvT hZ (own_w38 hw)) (mvT hZ (own_w39 hw)) (mvT hZ (own_w40 hw)) (mvT hZ (own_w41 hw)) (by decide) (backOf (W := 2) (rm3 l Z a0 hw [] y  h_1 n0 Z0) hZ (own_w41 hw) (own_w40 hw) (by decide) (by decide)) (g := (mkF m 5 #[.val (.ref y)] [(.ref y), (.ref o), (.ref o)])) rfl (by rw [hml]; rfl) (argsL := [(.ref y)]) (rest := [(.ref o), (.ref o)]) (lenOf pd_0 rfl) rfl (by show 2 * 0 + _ ≤ _; exact Nat.le_of_eq rfl) (hb hby d5_5) (fun _ _ => ⟨rfl, e_1, (by decide : 1 + 0 ≤ _), (by decide : 1 + 0 ≤ _)⟩)
  dsimp only [Pt.U, Pt.locs, Pt.cells, Pt.slots] at X_2 l_2 y_2 z_2 st_2 hQ_2
  subst l_2 y_2 z_2
  obtain ⟨rfl, N_2q, eh_2⟩ := hQ_2
  have N_2 := Fr.app N0 N_2q
  refine hst (fun _ kt => st_2 _ kt) ?_
  show G (T_2.setTop (mkF m 8 #[.val (.ref y)] [(.ref y), (.ref o), (.ref o)]))
  obtain ⟨_, _, ⟨T_3, L_3, k_3, n_3⟩, -, X_3, ⟨Lc_3, hQ_3, l_3, y_3, z_3⟩, st_3⟩ := X_2.specialBack hx (y := (⟨"java/util/Optional", "<init>", "(Ljava/lang/Object;)V"⟩ : MethodName)) rfl hown (mvT hZ (own_w42 hw)) (mvT hZ (own_w43 hw)) (mvT hZ (own_w45 hw)) (by decide) (backOf (W := 1) (rm4 l Z a0 hw [] o y  h_1 n0 Z0 F_value_o E_o le_n0_o) hZ (own_w45 hw) (own_w34 hw) (by decide) (by decide)) (g := (mkF m 8 #[.val (.ref y)] [(.ref y), (.ref o), (.ref o)])) rfl (by rw [hml]; rfl) (Steps.refl _) (a := o) (argsL := [(.ref y)]) (rest := [(.ref o)]) (lenOf pd_1 rfl) rfl (by show 2 * 0 + _ ≤ _; exact Nat.le_of_eq rfl) (hb hby d5_8) (fun _ _ => ⟨rfl, eh_2, (by decide : 1 + 0 ≤ _), (by decide : 1 + 0 ≤ _)⟩)
  dsimp only [Pt.U, Pt.locs, Pt.cells, Pt.slots] at X_3 l_3 y_3 z_3 st_3 hQ_3
  subst l_3 y_3 z_3
  obtain ⟨rfl, N_3q, K_3, Ex_3, Fv_3⟩ := hQ_3
  have Z0 := Nat.le_trans Z0 K_3.1
  have Z1 := Nat.le_trans Z1 K_3.1
  have K0 := K0.trans K_3 (allS (Or.inr le_hh_o) all0)
  have E_o := E_o.keep K_3
  have F_value_o := Fv_3
  have N_3 := Fr.app N_2 N_3q
  refine hst (fun _ kt => st_3.trans kt) ?_
  show G (T_3.setTop (mkF m 11 #[.val (.ref y)] [(.ref o)]))
  exact hend (own_goRet X_3 hx Bd.returns rfl (Or.inr (Or.inr (Or.inr (Or.inr ⟨rfl, rfl, rfl⟩)))) (hb hby d5_11) Bd.notSynchronized (by exact ⟨o, rfl, N_3, K0, E_o, F_value_o⟩) (by decide) (by decide))
theorem d6_0 : decode jdk_32_method_1_code 0 = .ok (.getstatic 1, 3) := by decide +kernel
theorem d6_3 : decode jdk_32_method_1_code 3 = .ok (.astore_n 0, 1) := by decide +kernel
theorem d6_4 : decode jdk_32_method_1_code 4 = .ok (.aload_n 0, 1) := by decide +kernel
theorem d6_5 : decode jdk_32_method_1_code 5 = .ok (.areturn, 1) := by decide +kernel
theorem ef_6 (m : MethodId)  : entryFrame m #[] 1 = mkF m 0 #[.unset] [] := by first | (simp [entryFrame, mkF, argsToLocals, Value.category]; done) | rfl
theorem pn_6 : plainName "java/util/Optional" = true := by first | decide +kernel | (simp [plainName, overriddenIn]; done)
set_option maxRecDepth 65536 in
set_option maxHeartbeats 40000000 in
theorem rm6 (l : Launch) (Z : State) (a0 : Array Value) (hw : ∀ d ∈ tables_1, d.before a0 Z = true) (ws : List Jvm.Cond) (oe : Addr) (h0 : Heap) (n0 : Nat) (Z0 : n0 ≤ h0.size) (S_e : Sta Z h0 "java/util/Optional" "EMPTY" "Ljava/util/Optional;" (.ref oe)) :
    MetFree l (⟨"java/util/Optional", "empty", "()Ljava/util/Optional;"⟩ : MethodName) (head1 (Jvm.Cond.code (⟨"java/util/Optional", "empty", "()Ljava/util/Optional;"⟩ : MethodName) jdk_32_method_1_code 1 (some (.object "java/util/Optional")) :: ws) ({ frames := 0, cells := 0, slots := 0, locals := 0 } : Room)) (fun a_ U_ => a_ = #[] ∧ Z.Warmed39 U_.vm ∧ U_.heap = h0) (fun _ _ _ _ _ => True) (fun _ U_ o_ W_ => ∃ v_ L_, o_ = .returned v_ ∧ own_QR oe h0 n0 v_ W_.heap L_ ∧ FrameEnd U_ o_ W_ L_ ({ frames := 0, cells := 0, slots := 0, locals := 0 } : Room).cells ({ frames := 0, cells := 0, slots := 0, locals := 0 } : Room).slots) := by
  refine MetFree.of_bodySF (plainFor_of_name pn_6) hisR ?_
  intro p e s m args below meth c s₁ Bd hml0 hP hK
  obtain ⟨rfl, hZ, hh⟩ := hP
  have hx := Bd.exec
  have hby := Bd.bytes
  have hml : c.maxLocals = 1 := hml0
  have hown : s.vm.findClass "java/util/Optional" = some m.cls := by have z := findClass_of_methodNamed Bd.named; exact z
  have hnm := (name_of_methodNamed Bd.named Bd.method).1
  have X0 : Stand p l e ({ frames := 0, cells := 0, slots := 0, locals := 0 } : Room) s m #[] below meth c s₁ [] 0 0 := Stand.of_body Bd
  have e0 : s₁.heap = h0 := by rw [← hh, Bd.state]; rfl
  have N0 := Fr.nil n0
  obtain ⟨G, hG, hst, hend⟩ := own_abs p e below s (own_QR oe h0 n0) ({ frames := 0, cells := 0, slots := 0, locals := 0 } : Room).cells ({ frames := 0, cells := 0, slots := 0, locals := 0 } : Room).slots
  refine hG (S := s₁.setTop (entryFrame m #[] 1)) (hst (fun t k => castTop (ef_6 m ) k) ?_)
  show G (s₁.setTop (mkF m 0 #[.unset] []))
  obtain ⟨T_1, X_1, e_1, st_1⟩ := getS2 X0 hx hZ hown (host := "") (Or.inl (own_w61 hw)) Via.refl e0 S_e (g := (mkF m 0 #[.unset] [])) rfl (hb hby d6_0)
  refine hst st_1 ?_
  show G (T_1.setTop (mkF m 3 #[.unset] [(.ref oe)]))
  refine hst (fun _ kt => XS.astoreN X_1.here hx rfl (hb hby d6_3) rfl rfl (l' := #[.val (.ref oe)]) rfl kt) ?_
  show G (T_1.setTop (mkF m 4 #[.val (.ref oe)] []))
  refine hst (fun _ kt => XS.aloadN X_1.here hx rfl (hb hby d6_4) rfl rfl kt) ?_
  show G (T_1.setTop (mkF m 5 #[.val (.ref oe)] [(.ref oe)]))
  exact hend (own_goRet X_1 hx Bd.returns rfl (Or.inr (Or.inr (Or.inr (Or.inr ⟨rfl, rfl, rfl⟩)))) (hb hby d6_5) Bd.notSynchronized (by rw [e_1]; exact ⟨rfl, N0, rfl⟩) (by decide) (by decide))
theorem d7_0 : decode prog_1_method_12_code 0 = .ok (.invokestatic 79, 3) := by decide +kernel
theorem d7_3 : decode prog_1_method_12_code 3 = .ok (.astore_n 1, 1) := by decide +kernel
theorem d7_4 : decode prog_1_method_12_code 4 = .ok (.aload_n 1, 1) := by decide +kernel
theorem d7_5 : decode prog_1_method_12_code 5 = .ok (.arraylength, 1) := by decide +kernel
theorem d7_6 : decode prog_1_method_12_code 6 = .ok (.istore_n 2, 1) := by decide +kernel
theorem d7_7 : decode prog_1_method_12_code 7 = .ok (.iconst 0, 1) := by decide +kernel
theorem d7_8 : decode prog_1_method_12_code 8 = .ok (.istore_n 3, 1) := by decide +kernel
theorem d7_9 : decode prog_1_method_12_code 9 = .ok (.iload_n 3, 1) := by decide +kernel
theorem d7_10 : decode prog_1_method_12_code 10 = .ok (.iload_n 2, 1) := by decide +kernel
theorem d7_11 : decode prog_1_method_12_code 11 = .ok (.if_icmp .ge 29, 3) := by decide +kernel
theorem d7_14 : decode prog_1_method_12_code 14 = .ok (.aload_n 1, 1) := by decide +kernel
theorem d7_15 : decode prog_1_method_12_code 15 = .ok (.iload_n 3, 1) := by decide +kernel
theorem d7_16 : decode prog_1_method_12_code 16 = .ok (.aaload, 1) := by decide +kernel
theorem d7_17 : decode prog_1_method_12_code 17 = .ok (.astore 4, 2) := by decide +kernel
theorem d7_19 : decode prog_1_method_12_code 19 = .ok (.aload 4, 2) := by decide +kernel
theorem d7_21 : decode prog_1_method_12_code 21 = .ok (.getfield 33, 3) := by decide +kernel
theorem d7_24 : decode prog_1_method_12_code 24 = .ok (.iload_n 0, 1) := by decide +kernel
theorem d7_25 : decode prog_1_method_12_code 25 = .ok (.if_icmp .ne 9, 3) := by decide +kernel
theorem d7_28 : decode prog_1_method_12_code 28 = .ok (.aload 4, 2) := by decide +kernel
theorem d7_30 : decode prog_1_method_12_code 30 = .ok (.invokestatic 87, 3) := by decide +kernel
theorem d7_33 : decode prog_1_method_12_code 33 = .ok (.areturn, 1) := by decide +kernel
theorem d7_34 : decode prog_1_method_12_code 34 = .ok (.iinc 3 1, 3) := by decide +kernel
theorem d7_37 : decode prog_1_method_12_code 37 = .ok (.goto (-28), 3) := by decide +kernel
theorem d7_40 : decode prog_1_method_12_code 40 = .ok (.invokestatic 92, 3) := by decide +kernel
theorem d7_43 : decode prog_1_method_12_code 43 = .ok (.areturn, 1) := by decide +kernel
theorem ef_7 (m : MethodId) (u : Int32) : entryFrame m #[(.int u)] 5 = mkF m 0 #[.val (.int u), .unset, .unset, .unset, .unset] [] := by first | (simp [entryFrame, mkF, argsToLocals, Value.category]; done) | rfl
theorem pn_7 : plainName own_B = true := by first | decide +kernel | (simp [plainName, overriddenIn]; done)
set_option maxRecDepth 65536 in
set_option maxHeartbeats 40000000 in
theorem rm7 (l : Launch) (Z : State) (a0 : Array Value) (hw : ∀ d ∈ tables_1, d.before a0 Z = true) (ws : List Jvm.Cond) (u : Int32) (a1 : Addr) (a2 : Addr) (bv : Addr) (kv : ClassId) (oe : Addr) (h0 : Heap) (n0 : Nat) (Z0 : n0 ≤ h0.size) (S_v : Sta Z h0 own_B "$VALUES" own_AB (.ref bv)) (E_bv : Exa Z h0 bv own_AB) (V_bv : Arv Z h0 bv kv (.object own_B) (2 : Int32) [(.ref a1), (.ref a2)] .null) (F_hl_a1 : Fld Z h0 a1 own_B "hexLength" "I" (.int (64 : Int32))) (F_hl_a2 : Fld Z h0 a2 own_B "hexLength" "I" (.int (40 : Int32))) (S_e : Sta Z h0 "java/util/Optional" "EMPTY" "Ljava/util/Optional;" (.ref oe)) (E_oe : Exa Z h0 oe "java/util/Optional") (F_value_oe : Fld Z h0 oe "java/util/Optional" "value" "Ljava/lang/Object;" .null) :
    MetFree l (⟨own_B, "forHexLength", "(I)Ljava/util/Optional;"⟩ : MethodName) (head1 (Jvm.Cond.code (⟨own_B, "forHexLength", "(I)Ljava/util/Optional;"⟩ : MethodName) prog_1_method_12_code 5 (some (.object "java/util/Optional")) :: ws) ({ frames := 3, cells := 2, slots := 3, locals := 38 } : Room)) (fun a_ U_ => a_ = #[(.int u)] ∧ Z.Warmed39 U_.vm ∧ U_.heap = h0) (fun _ _ _ _ _ => True) (fun _ U_ o_ W_ => ∃ v_ L_, o_ = .returned v_ ∧ own_Qs Z (own_r u a1 a2) h0 n0 v_ W_.heap L_ ∧ FrameEnd U_ o_ W_ L_ ({ frames := 3, cells := 2, slots := 3, locals := 38 } : Room).cells ({ frames := 3, cells := 2, slots := 3, locals := 38 } : Room).slots) := by
  refine MetFree.of_bodySF (plainFor_of_name pn_7) hisR ?_
  intro p e s m args below meth c s₁ Bd hml0 hP hK
  obtain ⟨rfl, hZ, hh⟩ := hP
  have hx := Bd.exec
  have hby := Bd.bytes
  have hml : c.maxLocals = 5 := hml0
  have hown : s.vm.findClass own_B = some m.cls := by have z := findClass_of_methodNamed Bd.named; exact z
  have hnm := (name_of_methodNamed Bd.named Bd.method).1
  have X0 : Stand p l e ({ frames := 3, cells := 2, slots := 3, locals := 38 } : Room) s m #[(.int u)] below meth c s₁ [] 0 0 := Stand.of_body Bd
  have e0 : s₁.heap = h0 := by rw [← hh, Bd.state]; rfl
  have N0 := Fr.nil n0
  obtain ⟨G, hG, hst, hend⟩ := own_abs p e below s (own_Qs Z (own_r u a1 a2) h0 n0) ({ frames := 3, cells := 2, slots := 3, locals := 38 } : Room).cells ({ frames := 3, cells := 2, slots := 3, locals := 38 } : Room).slots
  refine hG (S := s₁.setTop (entryFrame m #[(.int u)] 5)) (hst (fun t k => castTop (ef_7 m u) k) ?_)
  have Z1 := Nat.le_refl h0.size
  have K0 := Keep.refl h0 []
  show G (s₁.setTop (mkF m 0 #[.val (.int u), .unset, .unset, .unset, .unset] []))
  obtain ⟨_, _, ⟨T_1, L_1, k_1, n_1⟩, -, X_1, ⟨Lc_1, hQ_1, l_1, y_1, z_1⟩, st_1⟩ := Jvm.LawKit.callS X0 hx (y := (⟨own_B, "values", "()[Lcom/example/breachd/breachd/hash/BlacklistHashForm;"⟩ : MethodName)) hown (mvT hZ (own_w17 hw)) (mvT hZ (own_w18 hw)) (mvT hZ (own_w1 hw)) (mvT hZ (own_w19 hw)) (by decide) (backOf (W := 0) (rm2 l Z a0 hw []  bv kv a1 a2 h0 n0 Z0 S_v E_bv V_bv) hZ (own_w19 hw) (own_w1 hw) (by decide) (by decide)) (g := (mkF m 0 #[.val (.int u), .unset, .unset, .unset, .unset] [])) rfl (by rw [hml]; rfl) (argsL := []) (rest := []) (lenOf pd_2 rfl) rfl (by show 2 * 0 + _ ≤ _; exact Nat.le_of_eq rfl) (hb hby d7_0) (fun _ _ => ⟨rfl, e0, (by decide : 0 + 1 ≤ _), (by decide : 0 + 2 ≤ _)⟩)
  dsimp only [Pt.U, Pt.locs, Pt.cells, Pt.slots] at X_1 l_1 y_1 z_1 st_1 hQ_1
  subst l_1 y_1 z_1
  obtain ⟨b, rfl, N_1q, K_1, le_b, E_b, V_b⟩ := hQ_1
  have Z0 := Nat.le_trans Z0 K_1.1
  have Z1 := Nat.le_trans Z1 K_1.1
  have S_v := own_Sta_keep S_v K_1 
  have E_bv := E_bv.keep K_1
  have V_bv := V_bv.keep K_1 nin0
  have F_hl_a1 := F_hl_a1.keep K_1 nin0
  have F_hl_a2 := F_hl_a2.keep K_1 nin0
  have S_e := own_Sta_keep S_e K_1 
  have E_oe := E_oe.keep K_1
  have F_value_oe := F_value_oe.keep K_1 nin0
  have K0 := K0.trans K_1 all0
  have N_1 := Fr.app N0 N_1q
  refine hst (fun _ kt => st_1 _ kt) ?_
  show G (T_1.setTop (mkF m 3 #[.val (.int u), .unset, .unset, .unset, .unset] [(.ref b)]))
  refine hst (fun _ kt => XS.astoreN X_1.here hx rfl (hb hby d7_3) rfl rfl (l' := #[.val (.int u), .val (.ref b), .unset, .unset, .unset]) rfl kt) ?_
  show G (T_1.setTop (mkF m 4 #[.val (.int u), .val (.ref b), .unset, .unset, .unset] []))
  refine hst (fun _ kt => XS.aloadN X_1.here hx rfl (hb hby d7_4) rfl rfl kt) ?_
  show G (T_1.setTop (mkF m 5 #[.val (.int u), .val (.ref b), .unset, .unset, .unset] [(.ref b)]))
  obtain ⟨cl_2, Ar_2, -, S_2, M_2, -, -⟩ := id V_b
  refine hst (X_1.arraylength hx Ar_2.1 (State.isArrayOf_alike hZ.alike Ar_2.2.1) (g := (mkF m 5 #[.val (.int u), .val (.ref b), .unset, .unset, .unset] [(.ref b)])) rfl rfl (hb hby d7_5)) ?_
  rw [len_of S_2 M_2]
  show G (T_1.setTop (mkF m 6 #[.val (.int u), .val (.ref b), .unset, .unset, .unset] [(.int (2 : Int32))]))
  refine hst (fun _ kt => XS.istoreN X_1.here hx rfl (hb hby d7_6) rfl (l' := #[.val (.int u), .val (.ref b), .val (.int (2 : Int32)), .unset, .unset]) rfl kt) ?_
  show G (T_1.setTop (mkF m 7 #[.val (.int u), .val (.ref b), .val (.int (2 : Int32)), .unset, .unset] []))
  refine hst (fun _ kt => XS.iconst X_1.here hx rfl (hb hby d7_7) kt) ?_
  show G (T_1.setTop (mkF m 8 #[.val (.int u), .val (.ref b), .val (.int (2 : Int32)), .unset, .unset] [(.int (0 : Int32))]))
  refine hst (fun _ kt => XS.istoreN X_1.here hx rfl (hb hby d7_8) rfl (l' := #[.val (.int u), .val (.ref b), .val (.int (2 : Int32)), .val (.int (0 : Int32)), .unset]) rfl kt) ?_
  show G (T_1.setTop (mkF m 9 #[.val (.int u), .val (.ref b), .val (.int (2 : Int32)), .val (.int (0 : Int32)), .unset] []))
  refine hst (fun _ kt => XS.iloadN X_1.here hx rfl (hb hby d7_9) rfl kt) ?_
  show G (T_1.setTop (mkF m 10 #[.val (.int u), .val (.ref b), .val (.int (2 : Int32)), .val (.int (0 : Int32)), .unset] [(.int (0 : Int32))]))
  refine hst (fun _ kt => XS.iloadN X_1.here hx rfl (hb hby d7_10) rfl kt) ?_
  show G (T_1.setTop (mkF m 11 #[.val (.int u), .val (.ref b), .val (.int (2 : Int32)), .val (.int (0 : Int32)), .unset] [(.int (2 : Int32)), (.int (0 : Int32))]))
  have hc11 : (0 : Int32) < (2 : Int32) := by decide
  refine hst (fun _ kt => XS.icmpNo X_1.here hx rfl (hb hby d7_11) rfl (tlt hc11).2.1 kt) ?_
  show G (T_1.setTop (mkF m 14 #[.val (.int u), .val (.ref b), .val (.int (2 : Int32)), .val (.int (0 : Int32)), .unset] []))
  refine hst (fun _ kt => XS.aloadN X_1.here hx rfl (hb hby d7_14) rfl rfl kt) ?_
  show G (T_1.setTop (mkF m 15 #[.val (.int u), .val (.ref b), .val (.int (2 : Int32)), .val (.int (0 : Int32)), .unset] [(.ref b)]))
  refine hst (fun _ kt => XS.iloadN X_1.here hx rfl (hb hby d7_15) rfl kt) ?_
  show G (T_1.setTop (mkF m 16 #[.val (.int u), .val (.ref b), .val (.int (2 : Int32)), .val (.int (0 : Int32)), .unset] [(.int (0 : Int32)), (.ref b)]))
  obtain ⟨cl_3, Ar_3, -, S_3, M_3, Hs_3, -⟩ := id V_b
  have hin_3 : ¬ ((0 : Int32) < 0 ∨ cl_3.slots.size ≤ ((0 : Int32)).toNatClampNeg) := inb_of S_3 ⟨by decide, by decide⟩
  have hat_3 : cl_3.slots[((0 : Int32)).toNatClampNeg]? = some (.ref a1) := Has.at Hs_3 hin_3 rfl
  refine hst (X_1.aaload hx (j := (0 : Int32)) (v := (.ref a1)) Ar_3.1 (State.isArrayOf_alike hZ.alike Ar_3.2.1) rfl Ar_3.2.2 hin_3 hat_3 (g := (mkF m 16 #[.val (.int u), .val (.ref b), .val (.int (2 : Int32)), .val (.int (0 : Int32)), .unset] [(.int (0 : Int32)), (.ref b)])) rfl rfl (hb hby d7_16)) ?_
  show G (T_1.setTop (mkF m 17 #[.val (.int u), .val (.ref b), .val (.int (2 : Int32)), .val (.int (0 : Int32)), .unset] [(.ref a1)]))
  refine hst (fun _ kt => XS.astore X_1.here hx rfl (hb hby d7_17) rfl rfl (l' := #[.val (.int u), .val (.ref b), .val (.int (2 : Int32)), .val (.int (0 : Int32)), .val (.ref a1)]) rfl kt) ?_
  show G (T_1.setTop (mkF m 19 #[.val (.int u), .val (.ref b), .val (.int (2 : Int32)), .val (.int (0 : Int32)), .val (.ref a1)] []))
  refine hst (fun _ kt => XS.aload X_1.here hx rfl (hb hby d7_19) rfl rfl kt) ?_
  show G (T_1.setTop (mkF m 21 #[.val (.int u), .val (.ref b), .val (.int (2 : Int32)), .val (.int (0 : Int32)), .val (.ref a1)] [(.ref a1)]))
  obtain ⟨T_4, X_4, e_4, st_4⟩ := getF X_1 hx hZ hown (host := "") (Or.inl (own_w8 hw)) Via.refl rfl F_hl_a1 (g := (mkF m 21 #[.val (.int u), .val (.ref b), .val (.int (2 : Int32)), .val (.int (0 : Int32)), .val (.ref a1)] [(.ref a1)])) rfl rfl (hb hby d7_21)
  refine hst st_4 ?_
  show G (T_4.setTop (mkF m 24 #[.val (.int u), .val (.ref b), .val (.int (2 : Int32)), .val (.int (0 : Int32)), .val (.ref a1)] [(.int (64 : Int32))]))
  refine hst (fun _ kt => XS.iloadN X_4.here hx rfl (hb hby d7_24) rfl kt) ?_
  show G (T_4.setTop (mkF m 25 #[.val (.int u), .val (.ref b), .val (.int (2 : Int32)), .val (.int (0 : Int32)), .val (.ref a1)] [(.int u), (.int (64 : Int32))]))
  by_cases hc0 : (64 : Int32) = u
  ·
    refine hst (fun _ kt => XS.icmpNo X_4.here hx rfl (hb hby d7_25) rfl (teq hc0).2 kt) ?_
    show G (T_4.setTop (mkF m 28 #[.val (.int u), .val (.ref b), .val (.int (2 : Int32)), .val (.int (0 : Int32)), .val (.ref a1)] []))
    refine hst (fun _ kt => XS.aload X_4.here hx rfl (hb hby d7_28) rfl rfl kt) ?_
    show G (T_4.setTop (mkF m 30 #[.val (.int u), .val (.ref b), .val (.int (2 : Int32)), .val (.int (0 : Int32)), .val (.ref a1)] [(.ref a1)]))
    obtain ⟨_, _, ⟨T_5, L_5, k_5, n_5⟩, -, X_5, ⟨Lc_5, hQ_5, l_5, y_5, z_5⟩, st_5⟩ := Jvm.LawKit.callS X_4 hx (y := (⟨"java/util/Optional", "of", "(Ljava/lang/Object;)Ljava/util/Optional;"⟩ : MethodName)) hown (mvT hZ (own_w32 hw)) (mvT hZ (own_w33 hw)) (mvT hZ (own_w34 hw)) (mvT hZ (own_w35 hw)) (by decide) (backOf (W := 0) (rm5 l Z a0 hw [] a1  T_1.heap n0 Z0) hZ (own_w35 hw) (own_w34 hw) (by decide) (by decide)) (g := (mkF m 30 #[.val (.int u), .val (.ref b), .val (.int (2 : Int32)), .val (.int (0 : Int32)), .val (.ref a1)] [(.ref a1)])) rfl (by rw [hml]; rfl) (argsL := [(.ref a1)]) (rest := []) (lenOf pd_3 rfl) rfl (by show 2 * 0 + _ ≤ _; exact Nat.le_of_eq rfl) (hb hby d7_30) (fun _ _ => ⟨rfl, e_4, (by decide : 1 + 1 ≤ _), (by decide : 2 + 1 ≤ _)⟩)
    dsimp only [Pt.U, Pt.locs, Pt.cells, Pt.slots] at X_5 l_5 y_5 z_5 st_5 hQ_5
    subst l_5 y_5 z_5
    obtain ⟨o, rfl, N_5q, K_5, E_o, F_o⟩ := hQ_5
    have Z0 := Nat.le_trans Z0 K_5.1
    have Z1 := Nat.le_trans Z1 K_5.1
    have S_v := own_Sta_keep S_v K_5 
    have E_bv := E_bv.keep K_5
    have V_bv := V_bv.keep K_5 nin0
    have F_hl_a1 := F_hl_a1.keep K_5 nin0
    have F_hl_a2 := F_hl_a2.keep K_5 nin0
    have S_e := own_Sta_keep S_e K_5 
    have E_oe := E_oe.keep K_5
    have F_value_oe := F_value_oe.keep K_5 nin0
    have K0 := K0.trans K_5 all0
    have E_b := E_b.keep K_5
    have V_b := V_b.keep K_5 nin0
    have N_5 := Fr.app N_1 N_5q
    refine hst (fun _ kt => st_5 _ kt) ?_
    show G (T_5.setTop (mkF m 33 #[.val (.int u), .val (.ref b), .val (.int (2 : Int32)), .val (.int (0 : Int32)), .val (.ref a1)] [(.ref o)]))
    exact hend (own_goRet X_5 hx Bd.returns rfl (Or.inr (Or.inr (Or.inr (Or.inr ⟨rfl, rfl, rfl⟩)))) (hb hby d7_33) Bd.notSynchronized (by exact ⟨o, rfl, N_5, K0, E_o, by rw [own_r, if_pos hc0]; exact F_o⟩) (by decide) (by decide))
  ·
    refine hst (fun _ kt => XS.icmpYes X_4.here hx rfl (pc0 := 25) (pc' := 34) rfl (hb hby d7_25) rfl (feq hc0).2 (by decide) (by decide) kt) ?_
    show G (T_4.setTop (mkF m 34 #[.val (.int u), .val (.ref b), .val (.int (2 : Int32)), .val (.int (0 : Int32)), .val (.ref a1)] []))
    refine hst (fun _ kt => XS.iinc X_4.here hx rfl (hb hby d7_34) rfl (l' := #[.val (.int u), .val (.ref b), .val (.int (2 : Int32)), .val (.int ((0 : Int32) + (1 : Int32))), .val (.ref a1)]) rfl kt) ?_
    show G (T_4.setTop (mkF m 37 #[.val (.int u), .val (.ref b), .val (.int (2 : Int32)), .val (.int ((0 : Int32) + (1 : Int32))), .val (.ref a1)] []))
    rw [show ((0 : Int32) + (1 : Int32)) = (1 : Int32) from by decide]
    show G (T_4.setTop (mkF m 37 #[.val (.int u), .val (.ref b), .val (.int (2 : Int32)), .val (.int (1 : Int32)), .val (.ref a1)] []))
    refine hst (fun _ kt => XS.goto X_4.here hx rfl (pc0 := 37) (pc' := 9) rfl (hb hby d7_37) (by decide) (by decide) kt) ?_
    show G (T_4.setTop (mkF m 9 #[.val (.int u), .val (.ref b), .val (.int (2 : Int32)), .val (.int (1 : Int32)), .val (.ref a1)] []))
    refine hst (fun _ kt => XS.iloadN X_4.here hx rfl (hb hby d7_9) rfl kt) ?_
    show G (T_4.setTop (mkF m 10 #[.val (.int u), .val (.ref b), .val (.int (2 : Int32)), .val (.int (1 : Int32)), .val (.ref a1)] [(.int (1 : Int32))]))
    refine hst (fun _ kt => XS.iloadN X_4.here hx rfl (hb hby d7_10) rfl kt) ?_
    show G (T_4.setTop (mkF m 11 #[.val (.int u), .val (.ref b), .val (.int (2 : Int32)), .val (.int (1 : Int32)), .val (.ref a1)] [(.int (2 : Int32)), (.int (1 : Int32))]))
    have hc11 : (1 : Int32) < (2 : Int32) := by decide
    refine hst (fun _ kt => XS.icmpNo X_4.here hx rfl (hb hby d7_11) rfl (tlt hc11).2.1 kt) ?_
    show G (T_4.setTop (mkF m 14 #[.val (.int u), .val (.ref b), .val (.int (2 : Int32)), .val (.int (1 : Int32)), .val (.ref a1)] []))
    refine hst (fun _ kt => XS.aloadN X_4.here hx rfl (hb hby d7_14) rfl rfl kt) ?_
    show G (T_4.setTop (mkF m 15 #[.val (.int u), .val (.ref b), .val (.int (2 : Int32)), .val (.int (1 : Int32)), .val (.ref a1)] [(.ref b)]))
    refine hst (fun _ kt => XS.iloadN X_4.here hx rfl (hb hby d7_15) rfl kt) ?_
    show G (T_4.setTop (mkF m 16 #[.val (.int u), .val (.ref b), .val (.int (2 : Int32)), .val (.int (1 : Int32)), .val (.ref a1)] [(.int (1 : Int32)), (.ref b)]))
    obtain ⟨cl_6, Ar_6, -, S_6, M_6, Hs_6, -⟩ := id V_b
    have hin_6 : ¬ ((1 : Int32) < 0 ∨ cl_6.slots.size ≤ ((1 : Int32)).toNatClampNeg) := inb_of S_6 ⟨by decide, by decide⟩
    have hat_6 : cl_6.slots[((1 : Int32)).toNatClampNeg]? = some (.ref a2) := Has.at Hs_6 hin_6 rfl
    refine hst (X_4.aaload hx (j := (1 : Int32)) (v := (.ref a2)) (by rw [e_4]; exact Ar_6.1) (State.isArrayOf_alike hZ.alike Ar_6.2.1) rfl Ar_6.2.2 hin_6 hat_6 (g := (mkF m 16 #[.val (.int u), .val (.ref b), .val (.int (2 : Int32)), .val (.int (1 : Int32)), .val (.ref a1)] [(.int (1 : Int32)), (.ref b)])) rfl rfl (hb hby d7_16)) ?_
    show G (T_4.setTop (mkF m 17 #[.val (.int u), .val (.ref b), .val (.int (2 : Int32)), .val (.int (1 : Int32)), .val (.ref a1)] [(.ref a2)]))
    refine hst (fun _ kt => XS.astore X_4.here hx rfl (hb hby d7_17) rfl rfl (l' := #[.val (.int u), .val (.ref b), .val (.int (2 : Int32)), .val (.int (1 : Int32)), .val (.ref a2)]) rfl kt) ?_
    show G (T_4.setTop (mkF m 19 #[.val (.int u), .val (.ref b), .val (.int (2 : Int32)), .val (.int (1 : Int32)), .val (.ref a2)] []))
    refine hst (fun _ kt => XS.aload X_4.here hx rfl (hb hby d7_19) rfl rfl kt) ?_
    show G (T_4.setTop (mkF m 21 #[.val (.int u), .val (.ref b), .val (.int (2 : Int32)), .val (.int (1 : Int32)), .val (.ref a2)] [(.ref a2)]))
    obtain ⟨T_7, X_7, e_7, st_7⟩ := getF X_4 hx hZ hown (host := "") (Or.inl (own_w8 hw)) Via.refl e_4 F_hl_a2 (g := (mkF m 21 #[.val (.int u), .val (.ref b), .val (.int (2 : Int32)), .val (.int (1 : Int32)), .val (.ref a2)] [(.ref a2)])) rfl rfl (hb hby d7_21)
    refine hst st_7 ?_
    show G (T_7.setTop (mkF m 24 #[.val (.int u), .val (.ref b), .val (.int (2 : Int32)), .val (.int (1 : Int32)), .val (.ref a2)] [(.int (40 : Int32))]))
    refine hst (fun _ kt => XS.iloadN X_7.here hx rfl (hb hby d7_24) rfl kt) ?_
    show G (T_7.setTop (mkF m 25 #[.val (.int u), .val (.ref b), .val (.int (2 : Int32)), .val (.int (1 : Int32)), .val (.ref a2)] [(.int u), (.int (40 : Int32))]))
    by_cases hc1 : (40 : Int32) = u
    ·
      refine hst (fun _ kt => XS.icmpNo X_7.here hx rfl (hb hby d7_25) rfl (teq hc1).2 kt) ?_
      show G (T_7.setTop (mkF m 28 #[.val (.int u), .val (.ref b), .val (.int (2 : Int32)), .val (.int (1 : Int32)), .val (.ref a2)] []))
      refine hst (fun _ kt => XS.aload X_7.here hx rfl (hb hby d7_28) rfl rfl kt) ?_
      show G (T_7.setTop (mkF m 30 #[.val (.int u), .val (.ref b), .val (.int (2 : Int32)), .val (.int (1 : Int32)), .val (.ref a2)] [(.ref a2)]))
      obtain ⟨_, _, ⟨T_8, L_8, k_8, n_8⟩, -, X_8, ⟨Lc_8, hQ_8, l_8, y_8, z_8⟩, st_8⟩ := Jvm.LawKit.callS X_7 hx (y := (⟨"java/util/Optional", "of", "(Ljava/lang/Object;)Ljava/util/Optional;"⟩ : MethodName)) hown (mvT hZ (own_w32 hw)) (mvT hZ (own_w33 hw)) (mvT hZ (own_w34 hw)) (mvT hZ (own_w35 hw)) (by decide) (backOf (W := 0) (rm5 l Z a0 hw [] a2  T_1.heap n0 Z0) hZ (own_w35 hw) (own_w34 hw) (by decide) (by decide)) (g := (mkF m 30 #[.val (.int u), .val (.ref b), .val (.int (2 : Int32)), .val (.int (1 : Int32)), .val (.ref a2)] [(.ref a2)])) rfl (by rw [hml]; rfl) (argsL := [(.ref a2)]) (rest := []) (lenOf pd_3 rfl) rfl (by show 2 * 0 + _ ≤ _; exact Nat.le_of_eq rfl) (hb hby d7_30) (fun _ _ => ⟨rfl, e_7, (by decide : 1 + 1 ≤ _), (by decide : 2 + 1 ≤ _)⟩)
      dsimp only [Pt.U, Pt.locs, Pt.cells, Pt.slots] at X_8 l_8 y_8 z_8 st_8 hQ_8
      subst l_8 y_8 z_8
      obtain ⟨o, rfl, N_8q, K_8, E_o, F_o⟩ := hQ_8
      have Z0 := Nat.le_trans Z0 K_8.1
      have Z1 := Nat.le_trans Z1 K_8.1
      have S_v := own_Sta_keep S_v K_8 
      have E_bv := E_bv.keep K_8
      have V_bv := V_bv.keep K_8 nin0
      have F_hl_a1 := F_hl_a1.keep K_8 nin0
      have F_hl_a2 := F_hl_a2.keep K_8 nin0
      have S_e := own_Sta_keep S_e K_8 
      have E_oe := E_oe.keep K_8
      have F_value_oe := F_value_oe.keep K_8 nin0
      have K0 := K0.trans K_8 all0
      have E_b := E_b.keep K_8
      have V_b := V_b.keep K_8 nin0
      have N_8 := Fr.app N_1 N_8q
      refine hst (fun _ kt => st_8 _ kt) ?_
      show G (T_8.setTop (mkF m 33 #[.val (.int u), .val (.ref b), .val (.int (2 : Int32)), .val (.int (1 : Int32)), .val (.ref a2)] [(.ref o)]))
      exact hend (own_goRet X_8 hx Bd.returns rfl (Or.inr (Or.inr (Or.inr (Or.inr ⟨rfl, rfl, rfl⟩)))) (hb hby d7_33) Bd.notSynchronized (by exact ⟨o, rfl, N_8, K0, E_o, by rw [own_r, if_neg hc0, if_pos hc1]; exact F_o⟩) (by decide) (by decide))
    ·
      refine hst (fun _ kt => XS.icmpYes X_7.here hx rfl (pc0 := 25) (pc' := 34) rfl (hb hby d7_25) rfl (feq hc1).2 (by decide) (by decide) kt) ?_
      show G (T_7.setTop (mkF m 34 #[.val (.int u), .val (.ref b), .val (.int (2 : Int32)), .val (.int (1 : Int32)), .val (.ref a2)] []))
      refine hst (fun _ kt => XS.iinc X_7.here hx rfl (hb hby d7_34) rfl (l' := #[.val (.int u), .val (.ref b), .val (.int (2 : Int32)), .val (.int ((1 : Int32) + (1 : Int32))), .val (.ref a2)]) rfl kt) ?_
      show G (T_7.setTop (mkF m 37 #[.val (.int u), .val (.ref b), .val (.int (2 : Int32)), .val (.int ((1 : Int32) + (1 : Int32))), .val (.ref a2)] []))
      rw [show ((1 : Int32) + (1 : Int32)) = (2 : Int32) from by decide]
      show G (T_7.setTop (mkF m 37 #[.val (.int u), .val (.ref b), .val (.int (2 : Int32)), .val (.int (2 : Int32)), .val (.ref a2)] []))
      refine hst (fun _ kt => XS.goto X_7.here hx rfl (pc0 := 37) (pc' := 9) rfl (hb hby d7_37) (by decide) (by decide) kt) ?_
      show G (T_7.setTop (mkF m 9 #[.val (.int u), .val (.ref b), .val (.int (2 : Int32)), .val (.int (2 : Int32)), .val (.ref a2)] []))
      refine hst (fun _ kt => XS.iloadN X_7.here hx rfl (hb hby d7_9) rfl kt) ?_
      show G (T_7.setTop (mkF m 10 #[.val (.int u), .val (.ref b), .val (.int (2 : Int32)), .val (.int (2 : Int32)), .val (.ref a2)] [(.int (2 : Int32))]))
      refine hst (fun _ kt => XS.iloadN X_7.here hx rfl (hb hby d7_10) rfl kt) ?_
      show G (T_7.setTop (mkF m 11 #[.val (.int u), .val (.ref b), .val (.int (2 : Int32)), .val (.int (2 : Int32)), .val (.ref a2)] [(.int (2 : Int32)), (.int (2 : Int32))]))
      have hc11 : ¬ ((2 : Int32) < (2 : Int32)) := by decide
      refine hst (fun _ kt => XS.icmpYes X_7.here hx rfl (pc0 := 11) (pc' := 40) rfl (hb hby d7_11) rfl (flt hc11).2.1 (by decide) (by decide) kt) ?_
      show G (T_7.setTop (mkF m 40 #[.val (.int u), .val (.ref b), .val (.int (2 : Int32)), .val (.int (2 : Int32)), .val (.ref a2)] []))
      obtain ⟨_, _, ⟨T_9, L_9, k_9, n_9⟩, -, X_9, ⟨Lc_9, hQ_9, l_9, y_9, z_9⟩, st_9⟩ := Jvm.LawKit.callS X_7 hx (y := (⟨"java/util/Optional", "empty", "()Ljava/util/Optional;"⟩ : MethodName)) hown (mvT hZ (own_w58 hw)) (mvT hZ (own_w59 hw)) (mvT hZ (own_w34 hw)) (mvT hZ (own_w60 hw)) (by decide) (backOf (W := 0) (rm6 l Z a0 hw []  oe T_1.heap n0 Z0 S_e) hZ (own_w60 hw) (own_w34 hw) (by decide) (by decide)) (g := (mkF m 40 #[.val (.int u), .val (.ref b), .val (.int (2 : Int32)), .val (.int (2 : Int32)), .val (.ref a2)] [])) rfl (by rw [hml]; rfl) (argsL := []) (rest := []) (lenOf pd_4 rfl) rfl (by show 2 * 0 + _ ≤ _; exact Nat.le_of_eq rfl) (hb hby d7_40) (fun _ _ => ⟨rfl, e_7, (by decide : 1 + 0 ≤ _), (by decide : 2 + 0 ≤ _)⟩)
      dsimp only [Pt.U, Pt.locs, Pt.cells, Pt.slots] at X_9 l_9 y_9 z_9 st_9 hQ_9
      subst l_9 y_9 z_9
      obtain ⟨rfl, N_9q, eh_9⟩ := hQ_9
      have N_9 := Fr.app N_1 N_9q
      refine hst (fun _ kt => st_9 _ kt) ?_
      show G (T_9.setTop (mkF m 43 #[.val (.int u), .val (.ref b), .val (.int (2 : Int32)), .val (.int (2 : Int32)), .val (.ref a2)] [(.ref oe)]))
      exact hend (own_goRet X_9 hx Bd.returns rfl (Or.inr (Or.inr (Or.inr (Or.inr ⟨rfl, rfl, rfl⟩)))) (hb hby d7_43) Bd.notSynchronized (by rw [eh_9]; exact ⟨oe, rfl, N_9, K0, E_oe, by rw [own_r, if_neg hc0, if_neg hc1]; exact F_value_oe⟩) (by decide) (by decide))
theorem d8_0 : decode jdk_32_method_15_code 0 = .ok (.aload_n 0, 1) := by decide +kernel
theorem d8_1 : decode jdk_32_method_15_code 1 = .ok (.getfield 13, 3) := by decide +kernel
theorem d8_4 : decode jdk_32_method_15_code 4 = .ok (.ifnull 10, 3) := by decide +kernel
theorem d8_7 : decode jdk_32_method_15_code 7 = .ok (.aload_n 0, 1) := by decide +kernel
theorem d8_8 : decode jdk_32_method_15_code 8 = .ok (.getfield 13, 3) := by decide +kernel
theorem d8_11 : decode jdk_32_method_15_code 11 = .ok (.goto 4, 3) := by decide +kernel
theorem d8_15 : decode jdk_32_method_15_code 15 = .ok (.areturn, 1) := by decide +kernel
theorem ef_8 (m : MethodId) (o : Addr) : entryFrame m #[(.ref o), .null] 2 = mkF m 0 #[.val (.ref o), .val .null] [] := by first | (simp [entryFrame, mkF, argsToLocals, Value.category]; done) | rfl
theorem pn_8 : plainName "java/util/Optional" = true := by first | decide +kernel | (simp [plainName, overriddenIn]; done)
set_option maxRecDepth 65536 in
set_option maxHeartbeats 40000000 in
theorem rm8 (l : Launch) (Z : State) (a0 : Array Value) (hw : ∀ d ∈ tables_1, d.before a0 Z = true) (ws : List Jvm.Cond) (o : Addr) (y : Addr) (h0 : Heap) (n0 : Nat) (Z0 : n0 ≤ h0.size) (F_value_o : Fld Z h0 o "java/util/Optional" "value" "Ljava/lang/Object;" (.ref y)) :
    MetFree l (⟨"java/util/Optional", "orElse", "(Ljava/lang/Object;)Ljava/lang/Object;"⟩ : MethodName) (head1 (Jvm.Cond.code (⟨"java/util/Optional", "orElse", "(Ljava/lang/Object;)Ljava/lang/Object;"⟩ : MethodName) jdk_32_method_15_code 2 (some (.object "java/lang/Object")) :: ws) ({ frames := 0, cells := 0, slots := 0, locals := 0 } : Room)) (fun a_ U_ => a_ = #[(.ref o), .null] ∧ Z.Warmed39 U_.vm ∧ U_.heap = h0) (fun _ _ _ _ _ => True) (fun _ U_ o_ W_ => ∃ v_ L_, o_ = .returned v_ ∧ own_QR y h0 n0 v_ W_.heap L_ ∧ FrameEnd U_ o_ W_ L_ ({ frames := 0, cells := 0, slots := 0, locals := 0 } : Room).cells ({ frames := 0, cells := 0, slots := 0, locals := 0 } : Room).slots) := by
  refine MetFree.of_bodySF (plainFor_of_name pn_8) hisR ?_
  intro p e s m args below meth c s₁ Bd hml0 hP hK
  obtain ⟨rfl, hZ, hh⟩ := hP
  have hx := Bd.exec
  have hby := Bd.bytes
  have hml : c.maxLocals = 2 := hml0
  have hown : s.vm.findClass "java/util/Optional" = some m.cls := by have z := findClass_of_methodNamed Bd.named; exact z
  have hnm := (name_of_methodNamed Bd.named Bd.method).1
  have X0 : Stand p l e ({ frames := 0, cells := 0, slots := 0, locals := 0 } : Room) s m #[(.ref o), .null] below meth c s₁ [] 0 0 := Stand.of_body Bd
  have e0 : s₁.heap = h0 := by rw [← hh, Bd.state]; rfl
  have N0 := Fr.nil n0
  obtain ⟨G, hG, hst, hend⟩ := own_abs p e below s (own_QR y h0 n0) ({ frames := 0, cells := 0, slots := 0, locals := 0 } : Room).cells ({ frames := 0, cells := 0, slots := 0, locals := 0 } : Room).slots
  refine hG (S := s₁.setTop (entryFrame m #[(.ref o), .null] 2)) (hst (fun t k => castTop (ef_8 m o) k) ?_)
  show G (s₁.setTop (mkF m 0 #[.val (.ref o), .val .null] []))
  refine hst (fun _ kt => XS.aloadN X0.here hx rfl (hb hby d8_0) rfl rfl kt) ?_
  show G (s₁.setTop (mkF m 1 #[.val (.ref o), .val .null] [(.ref o)]))
  obtain ⟨T_1, X_1, e_1, st_1⟩ := getF X0 hx hZ hown (host := "") (Or.inl (own_w49 hw)) Via.refl e0 F_value_o (g := (mkF m 1 #[.val (.ref o), .val .null] [(.ref o)])) rfl rfl (hb hby d8_1)
  refine hst st_1 ?_
  show G (T_1.setTop (mkF m 4 #[.val (.ref o), .val .null] [(.ref y)]))
  refine hst (fun _ kt => XS.ifnullNo X_1.here hx rfl (hb hby d8_4) rfl kt) ?_
  show G (T_1.setTop (mkF m 7 #[.val (.ref o), .val .null] []))
  refine hst (fun _ kt => XS.aloadN X_1.here hx rfl (hb hby d8_7) rfl rfl kt) ?_
  show G (T_1.setTop (mkF m 8 #[.val (.ref o), .val .null] [(.ref o)]))
  obtain ⟨T_2, X_2, e_2, st_2⟩ := getF X_1 hx hZ hown (host := "") (Or.inl (own_w49 hw)) Via.refl e_1 F_value_o (g := (mkF m 8 #[.val (.ref o), .val .null] [(.ref o)])) rfl rfl (hb hby d8_8)
  refine hst st_2 ?_
  show G (T_2.setTop (mkF m 11 #[.val (.ref o), .val .null] [(.ref y)]))
  refine hst (fun _ kt => XS.goto X_2.here hx rfl (pc0 := 11) (pc' := 15) rfl (hb hby d8_11) (by decide) (by decide) kt) ?_
  show G (T_2.setTop (mkF m 15 #[.val (.ref o), .val .null] [(.ref y)]))
  exact hend (own_goRet X_2 hx Bd.returns rfl (Or.inr (Or.inr (Or.inr (Or.inr ⟨rfl, rfl, rfl⟩)))) (hb hby d8_15) Bd.notSynchronized (by rw [e_2]; exact ⟨rfl, N0, rfl⟩) (by decide) (by decide))
theorem d9_0 : decode jdk_32_method_15_code 0 = .ok (.aload_n 0, 1) := by decide +kernel
theorem d9_1 : decode jdk_32_method_15_code 1 = .ok (.getfield 13, 3) := by decide +kernel
theorem d9_4 : decode jdk_32_method_15_code 4 = .ok (.ifnull 10, 3) := by decide +kernel
theorem d9_14 : decode jdk_32_method_15_code 14 = .ok (.aload_n 1, 1) := by decide +kernel
theorem d9_15 : decode jdk_32_method_15_code 15 = .ok (.areturn, 1) := by decide +kernel
theorem ef_9 (m : MethodId) (o : Addr) : entryFrame m #[(.ref o), .null] 2 = mkF m 0 #[.val (.ref o), .val .null] [] := by first | (simp [entryFrame, mkF, argsToLocals, Value.category]; done) | rfl
theorem pn_9 : plainName "java/util/Optional" = true := by first | decide +kernel | (simp [plainName, overriddenIn]; done)
set_option maxRecDepth 65536 in
set_option maxHeartbeats 40000000 in
theorem rm9 (l : Launch) (Z : State) (a0 : Array Value) (hw : ∀ d ∈ tables_1, d.before a0 Z = true) (ws : List Jvm.Cond) (o : Addr) (h0 : Heap) (n0 : Nat) (Z0 : n0 ≤ h0.size) (F_value_o : Fld Z h0 o "java/util/Optional" "value" "Ljava/lang/Object;" .null) :
    MetFree l (⟨"java/util/Optional", "orElse", "(Ljava/lang/Object;)Ljava/lang/Object;"⟩ : MethodName) (head1 (Jvm.Cond.code (⟨"java/util/Optional", "orElse", "(Ljava/lang/Object;)Ljava/lang/Object;"⟩ : MethodName) jdk_32_method_15_code 2 (some (.object "java/lang/Object")) :: ws) ({ frames := 0, cells := 0, slots := 0, locals := 0 } : Room)) (fun a_ U_ => a_ = #[(.ref o), .null] ∧ Z.Warmed39 U_.vm ∧ U_.heap = h0) (fun _ _ _ _ _ => True) (fun _ U_ o_ W_ => ∃ v_ L_, o_ = .returned v_ ∧ own_QN h0 n0 v_ W_.heap L_ ∧ FrameEnd U_ o_ W_ L_ ({ frames := 0, cells := 0, slots := 0, locals := 0 } : Room).cells ({ frames := 0, cells := 0, slots := 0, locals := 0 } : Room).slots) := by
  refine MetFree.of_bodySF (plainFor_of_name pn_9) hisR ?_
  intro p e s m args below meth c s₁ Bd hml0 hP hK
  obtain ⟨rfl, hZ, hh⟩ := hP
  have hx := Bd.exec
  have hby := Bd.bytes
  have hml : c.maxLocals = 2 := hml0
  have hown : s.vm.findClass "java/util/Optional" = some m.cls := by have z := findClass_of_methodNamed Bd.named; exact z
  have hnm := (name_of_methodNamed Bd.named Bd.method).1
  have X0 : Stand p l e ({ frames := 0, cells := 0, slots := 0, locals := 0 } : Room) s m #[(.ref o), .null] below meth c s₁ [] 0 0 := Stand.of_body Bd
  have e0 : s₁.heap = h0 := by rw [← hh, Bd.state]; rfl
  have N0 := Fr.nil n0
  obtain ⟨G, hG, hst, hend⟩ := own_abs p e below s (own_QN h0 n0) ({ frames := 0, cells := 0, slots := 0, locals := 0 } : Room).cells ({ frames := 0, cells := 0, slots := 0, locals := 0 } : Room).slots
  refine hG (S := s₁.setTop (entryFrame m #[(.ref o), .null] 2)) (hst (fun t k => castTop (ef_9 m o) k) ?_)
  show G (s₁.setTop (mkF m 0 #[.val (.ref o), .val .null] []))
  refine hst (fun _ kt => XS.aloadN X0.here hx rfl (hb hby d9_0) rfl rfl kt) ?_
  show G (s₁.setTop (mkF m 1 #[.val (.ref o), .val .null] [(.ref o)]))
  obtain ⟨T_1, X_1, e_1, st_1⟩ := getF X0 hx hZ hown (host := "") (Or.inl (own_w49 hw)) Via.refl e0 F_value_o (g := (mkF m 1 #[.val (.ref o), .val .null] [(.ref o)])) rfl rfl (hb hby d9_1)
  refine hst st_1 ?_
  show G (T_1.setTop (mkF m 4 #[.val (.ref o), .val .null] [.null]))
  refine hst (fun _ kt => XS.ifnullYes X_1.here hx rfl (pc0 := 4) (pc' := 14) rfl (hb hby d9_4) rfl (by decide) (by decide) kt) ?_
  show G (T_1.setTop (mkF m 14 #[.val (.ref o), .val .null] []))
  refine hst (fun _ kt => XS.aloadN X_1.here hx rfl (hb hby d9_14) rfl rfl kt) ?_
  show G (T_1.setTop (mkF m 15 #[.val (.ref o), .val .null] [.null]))
  exact hend (own_goRet X_1 hx Bd.returns rfl (Or.inr (Or.inr (Or.inr (Or.inr ⟨rfl, rfl, rfl⟩)))) (hb hby d9_15) Bd.notSynchronized (by rw [e_1]; exact ⟨rfl, N0, rfl⟩) (by decide) (by decide))
theorem ef_0 (m : MethodId) (sel : Int32) (xx : Int32) : entryFrame m #[(.int sel), (.int xx)] maxLocals = mkF m 0 #[.val (.int sel), .val (.int xx), .unset, .unset, .unset, .unset, .unset, .unset] [] := by first | (simp [entryFrame, mkF, argsToLocals, Value.category, maxLocals]; done) | rfl
theorem pn_0 : plainName x.cls = true := by first | decide +kernel | (simp [plainName, overriddenIn]; done)
set_option maxRecDepth 65536 in
set_option maxHeartbeats 40000000 in
theorem rm0 (l : Launch) (Z : State) (a0 : Array Value) (hw : ∀ d ∈ tables_1, d.before a0 Z = true) (ws : List Jvm.Cond) (sel : Int32) (xx : Int32) (a1 : Addr) (a2 : Addr) (bv : Addr) (kv : ClassId) (oe : Addr) (h0 : Heap) (n0 : Nat) (Z0 : n0 ≤ h0.size) (S_v : Sta Z h0 own_B "$VALUES" own_AB (.ref bv)) (E_bv : Exa Z h0 bv own_AB) (V_bv : Arv Z h0 bv kv (.object own_B) (2 : Int32) [(.ref a1), (.ref a2)] .null) (F_hl_a1 : Fld Z h0 a1 own_B "hexLength" "I" (.int (64 : Int32))) (F_hl_a2 : Fld Z h0 a2 own_B "hexLength" "I" (.int (40 : Int32))) (S_e : Sta Z h0 "java/util/Optional" "EMPTY" "Ljava/util/Optional;" (.ref oe)) (E_oe : Exa Z h0 oe "java/util/Optional") (F_value_oe : Fld Z h0 oe "java/util/Optional" "value" "Ljava/lang/Object;" .null) (S_1 : Sta Z h0 own_B "SHA256" own_DB (.ref a1)) (S_2 : Sta Z h0 own_B "PBKDF2" own_DB (.ref a2)) (E_a1 : Exa Z h0 a1 own_B1) (E_a2 : Exa Z h0 a2 own_B2) :
    MetFree l x (head1 (Jvm.Cond.code x code maxLocals ret :: ws) room_1) (fun a_ U_ => a_ = #[(.int sel), (.int xx)] ∧ Z.Warmed39 U_.vm ∧ U_.heap = h0) (fun _ _ _ _ _ => True) (fun _ U_ o_ W_ => ∃ v_ L_, o_ = .returned v_ ∧ own_Q0 n0 v_ W_.heap L_ ∧ FrameEnd U_ o_ W_ L_ room_1.cells room_1.slots) := by
  refine MetFree.of_bodySF (plainFor_of_name pn_0) hisR ?_
  intro p e s m args below meth c s₁ Bd hml0 hP hK
  obtain ⟨rfl, hZ, hh⟩ := hP
  have hx := Bd.exec
  have hby := Bd.bytes
  have hml : c.maxLocals = 8 := hml0
  have hown : s.vm.findClass x.cls = some m.cls := by have z := findClass_of_methodNamed Bd.named; exact z
  have hnm := (name_of_methodNamed Bd.named Bd.method).1
  have X0 : Stand p l e room_1 s m #[(.int sel), (.int xx)] below meth c s₁ [] 0 0 := Stand.of_body Bd
  have e0 : s₁.heap = h0 := by rw [← hh, Bd.state]; rfl
  have N0 := Fr.nil n0
  obtain ⟨G, hG, hst, hend⟩ := own_abs p e below s (own_Q0 n0) room_1.cells room_1.slots
  refine hG (S := s₁.setTop (entryFrame m #[(.int sel), (.int xx)] maxLocals)) (hst (fun t k => castTop (ef_0 m sel xx) k) ?_)
  show G (s₁.setTop (mkF m 0 #[.val (.int sel), .val (.int xx), .unset, .unset, .unset, .unset, .unset, .unset] []))
  refine hst (fun _ kt => XS.iloadN X0.here hx rfl (hb hby at_0) rfl kt) ?_
  show G (s₁.setTop (mkF m 1 #[.val (.int sel), .val (.int xx), .unset, .unset, .unset, .unset, .unset, .unset] [(.int sel)]))
  refine hst (fun _ kt => XS.iconst X0.here hx rfl (hb hby at_1) kt) ?_
  show G (s₁.setTop (mkF m 2 #[.val (.int sel), .val (.int xx), .unset, .unset, .unset, .unset, .unset, .unset] [(.int (3 : Int32)), (.int sel)]))
  refine hst (fun _ kt => XS.iand X0.here hx rfl (hb hby at_2) rfl kt) ?_
  show G (s₁.setTop (mkF m 3 #[.val (.int sel), .val (.int xx), .unset, .unset, .unset, .unset, .unset, .unset] [(.int (sel &&& (3 : Int32)))]))
  refine hst (fun _ kt => XS.istoreN X0.here hx rfl (hb hby at_3) rfl (l' := #[.val (.int sel), .val (.int xx), .val (.int (sel &&& (3 : Int32))), .unset, .unset, .unset, .unset, .unset]) rfl kt) ?_
  show G (s₁.setTop (mkF m 4 #[.val (.int sel), .val (.int xx), .val (.int (sel &&& (3 : Int32))), .unset, .unset, .unset, .unset, .unset] []))
  obtain ⟨T_1, X_1, e_1, st_1⟩ := getS2 X0 hx hZ hown (host := "") (Or.inl (own_w0 hw)) Via.refl e0 S_1 (g := (mkF m 4 #[.val (.int sel), .val (.int xx), .val (.int (sel &&& (3 : Int32))), .unset, .unset, .unset, .unset, .unset] [])) rfl (hb hby at_4)
  refine hst st_1 ?_
  show G (T_1.setTop (mkF m 7 #[.val (.int sel), .val (.int xx), .val (.int (sel &&& (3 : Int32))), .unset, .unset, .unset, .unset, .unset] [(.ref a1)]))
  obtain ⟨cq_2, kq_2, q_2a, q_2b, q_2c⟩ := isOf hZ e_1 E_a1
  obtain ⟨_, _, ⟨T_2, L_2, k_2, n_2⟩, -, X_2, ⟨Lc_2, hQ_2, l_2, y_2, z_2⟩, st_2⟩ := X_1.virtualBack hx (y := (⟨own_B, "hexLength", "()I"⟩ : MethodName)) (z := (⟨own_B, "hexLength", "()I"⟩ : MethodName)) hown (mvT hZ (own_w3 hw)) (mvT hZ (own_w4 hw)) (notFace_of_selects (args := #[]) (mvT hZ (own_w6 hw))) (mvT hZ (own_w6 hw)) (mvT hZ (own_w5 hw)) (by decide) (backOf (W := 0) (rm1 l Z a0 hw [] a1 (64 : Int32) h0 n0 Z0 F_hl_a1) hZ (own_w7 hw) (own_w1 hw) (by decide) (by decide)) q_2a q_2c (g := (mkF m 7 #[.val (.int sel), .val (.int xx), .val (.int (sel &&& (3 : Int32))), .unset, .unset, .unset, .unset, .unset] [(.ref a1)])) rfl (by rw [hml]; rfl) (Steps.refl _) (argsL := []) (rest := []) (lenOf pd_5 rfl) rfl (by show 2 * 0 + _ ≤ _; exact Nat.le_of_eq rfl) (hb hby at_7) (fun _ _ => ⟨rfl, e_1, (by decide : 0 + 0 ≤ _), (by decide : 0 + 0 ≤ _)⟩)
  dsimp only [Pt.U, Pt.locs, Pt.cells, Pt.slots] at X_2 l_2 y_2 z_2 st_2 hQ_2
  subst l_2 y_2 z_2
  obtain ⟨rfl, N_2q, eh_2⟩ := hQ_2
  have N_2 := Fr.app N0 N_2q
  refine hst (fun _ kt => st_2.trans kt) ?_
  show G (T_2.setTop (mkF m 10 #[.val (.int sel), .val (.int xx), .val (.int (sel &&& (3 : Int32))), .unset, .unset, .unset, .unset, .unset] [(.int (64 : Int32))]))
  refine hst (fun _ kt => XS.istoreN X_2.here hx rfl (hb hby at_10) rfl (l' := #[.val (.int sel), .val (.int xx), .val (.int (sel &&& (3 : Int32))), .val (.int (64 : Int32)), .unset, .unset, .unset, .unset]) rfl kt) ?_
  show G (T_2.setTop (mkF m 11 #[.val (.int sel), .val (.int xx), .val (.int (sel &&& (3 : Int32))), .val (.int (64 : Int32)), .unset, .unset, .unset, .unset] []))
  obtain ⟨T_3, X_3, e_3, st_3⟩ := getS2 X_2 hx hZ hown (host := "") (Or.inl (own_w10 hw)) Via.refl eh_2 S_2 (g := (mkF m 11 #[.val (.int sel), .val (.int xx), .val (.int (sel &&& (3 : Int32))), .val (.int (64 : Int32)), .unset, .unset, .unset, .unset] [])) rfl (hb hby at_11)
  refine hst st_3 ?_
  show G (T_3.setTop (mkF m 14 #[.val (.int sel), .val (.int xx), .val (.int (sel &&& (3 : Int32))), .val (.int (64 : Int32)), .unset, .unset, .unset, .unset] [(.ref a2)]))
  obtain ⟨cq_4, kq_4, q_4a, q_4b, q_4c⟩ := isOf hZ e_3 E_a2
  obtain ⟨_, _, ⟨T_4, L_4, k_4, n_4⟩, -, X_4, ⟨Lc_4, hQ_4, l_4, y_4, z_4⟩, st_4⟩ := X_3.virtualBack hx (y := (⟨own_B, "hexLength", "()I"⟩ : MethodName)) (z := (⟨own_B, "hexLength", "()I"⟩ : MethodName)) hown (mvT hZ (own_w3 hw)) (mvT hZ (own_w4 hw)) (notFace_of_selects (args := #[]) (mvT hZ (own_w12 hw))) (mvT hZ (own_w12 hw)) (mvT hZ (own_w5 hw)) (by decide) (backOf (W := 0) (rm1 l Z a0 hw [] a2 (40 : Int32) h0 n0 Z0 F_hl_a2) hZ (own_w7 hw) (own_w1 hw) (by decide) (by decide)) q_4a q_4c (g := (mkF m 14 #[.val (.int sel), .val (.int xx), .val (.int (sel &&& (3 : Int32))), .val (.int (64 : Int32)), .unset, .unset, .unset, .unset] [(.ref a2)])) rfl (by rw [hml]; rfl) (Steps.refl _) (argsL := []) (rest := []) (lenOf pd_5 rfl) rfl (by show 2 * 0 + _ ≤ _; exact Nat.le_of_eq rfl) (hb hby at_14) (fun _ _ => ⟨rfl, e_3, (by decide : 0 + 0 ≤ _), (by decide : 0 + 0 ≤ _)⟩)
  dsimp only [Pt.U, Pt.locs, Pt.cells, Pt.slots] at X_4 l_4 y_4 z_4 st_4 hQ_4
  subst l_4 y_4 z_4
  obtain ⟨rfl, N_4q, eh_4⟩ := hQ_4
  have N_4 := Fr.app N_2 N_4q
  refine hst (fun _ kt => st_4.trans kt) ?_
  show G (T_4.setTop (mkF m 17 #[.val (.int sel), .val (.int xx), .val (.int (sel &&& (3 : Int32))), .val (.int (64 : Int32)), .unset, .unset, .unset, .unset] [(.int (40 : Int32))]))
  refine hst (fun _ kt => XS.istore X_4.here hx rfl (hb hby at_17) rfl (l' := #[.val (.int sel), .val (.int xx), .val (.int (sel &&& (3 : Int32))), .val (.int (64 : Int32)), .val (.int (40 : Int32)), .unset, .unset, .unset]) rfl kt) ?_
  show G (T_4.setTop (mkF m 19 #[.val (.int sel), .val (.int xx), .val (.int (sel &&& (3 : Int32))), .val (.int (64 : Int32)), .val (.int (40 : Int32)), .unset, .unset, .unset] []))
  refine hst (fun _ kt => XS.iloadN X_4.here hx rfl (hb hby at_19) rfl kt) ?_
  show G (T_4.setTop (mkF m 20 #[.val (.int sel), .val (.int xx), .val (.int (sel &&& (3 : Int32))), .val (.int (64 : Int32)), .val (.int (40 : Int32)), .unset, .unset, .unset] [(.int (sel &&& (3 : Int32)))]))
  have J61 : ∀ (u : Int32), G (T_4.setTop (mkF m 61 #[.val (.int sel), .val (.int xx), .val (.int (sel &&& (3 : Int32))), .val (.int (64 : Int32)), .val (.int (40 : Int32)), .val (.int u), .unset, .unset] [])) := by
    intro u
    show G (T_4.setTop (mkF m 61 #[.val (.int sel), .val (.int xx), .val (.int (sel &&& (3 : Int32))), .val (.int (64 : Int32)), .val (.int (40 : Int32)), .val (.int u), .unset, .unset] []))
    refine hst (fun _ kt => XS.iload X_4.here hx rfl (hb hby at_61) rfl kt) ?_
    show G (T_4.setTop (mkF m 63 #[.val (.int sel), .val (.int xx), .val (.int (sel &&& (3 : Int32))), .val (.int (64 : Int32)), .val (.int (40 : Int32)), .val (.int u), .unset, .unset] [(.int u)]))
    refine hst (fun _ kt => XS.bipush X_4.here hx rfl (hb hby at_63) kt) ?_
    show G (T_4.setTop (mkF m 65 #[.val (.int sel), .val (.int xx), .val (.int (sel &&& (3 : Int32))), .val (.int (64 : Int32)), .val (.int (40 : Int32)), .val (.int u), .unset, .unset] [(.int (64 : Int32)), (.int u)]))
    by_cases hu1 : u = (64 : Int32)
    ·
      refine hst (fun _ kt => XS.icmpNo X_4.here hx rfl (hb hby at_65) rfl (teq hu1).2 kt) ?_
      show G (T_4.setTop (mkF m 68 #[.val (.int sel), .val (.int xx), .val (.int (sel &&& (3 : Int32))), .val (.int (64 : Int32)), .val (.int (40 : Int32)), .val (.int u), .unset, .unset] []))
      obtain ⟨T_5, X_5, e_5, st_5⟩ := getS2 X_4 hx hZ hown (host := "") (Or.inl (own_w0 hw)) Via.refl eh_4 S_1 (g := (mkF m 68 #[.val (.int sel), .val (.int xx), .val (.int (sel &&& (3 : Int32))), .val (.int (64 : Int32)), .val (.int (40 : Int32)), .val (.int u), .unset, .unset] [])) rfl (hb hby at_68)
      refine hst st_5 ?_
      show G (T_5.setTop (mkF m 71 #[.val (.int sel), .val (.int xx), .val (.int (sel &&& (3 : Int32))), .val (.int (64 : Int32)), .val (.int (40 : Int32)), .val (.int u), .unset, .unset] [(.ref a1)]))
      refine hst (fun _ kt => XS.astore X_5.here hx rfl (hb hby at_71) rfl rfl (l' := #[.val (.int sel), .val (.int xx), .val (.int (sel &&& (3 : Int32))), .val (.int (64 : Int32)), .val (.int (40 : Int32)), .val (.int u), .val (.ref a1), .unset]) rfl kt) ?_
      show G (T_5.setTop (mkF m 73 #[.val (.int sel), .val (.int xx), .val (.int (sel &&& (3 : Int32))), .val (.int (64 : Int32)), .val (.int (40 : Int32)), .val (.int u), .val (.ref a1), .unset] []))
      refine hst (fun _ kt => XS.goto X_5.here hx rfl (pc0 := 73) (pc' := 94) rfl (hb hby at_73) (by decide) (by decide) kt) ?_
      show G (T_5.setTop (mkF m 94 #[.val (.int sel), .val (.int xx), .val (.int (sel &&& (3 : Int32))), .val (.int (64 : Int32)), .val (.int (40 : Int32)), .val (.int u), .val (.ref a1), .unset] []))
      refine hst (fun _ kt => XS.iload X_5.here hx rfl (hb hby at_94) rfl kt) ?_
      show G (T_5.setTop (mkF m 96 #[.val (.int sel), .val (.int xx), .val (.int (sel &&& (3 : Int32))), .val (.int (64 : Int32)), .val (.int (40 : Int32)), .val (.int u), .val (.ref a1), .unset] [(.int u)]))
      obtain ⟨_, _, ⟨T_6, L_6, k_6, n_6⟩, -, X_6, ⟨Lc_6, hQ_6, l_6, y_6, z_6⟩, st_6⟩ := Jvm.LawKit.callS X_5 hx (y := (⟨own_B, "forHexLength", "(I)Ljava/util/Optional;"⟩ : MethodName)) hown (mvT hZ (own_w14 hw)) (mvT hZ (own_w15 hw)) (mvT hZ (own_w1 hw)) (mvT hZ (own_w16 hw)) (by decide) (backOf (W := 0) (rm7 l Z a0 hw [] u a1 a2 bv kv oe h0 n0 Z0 S_v E_bv V_bv F_hl_a1 F_hl_a2 S_e E_oe F_value_oe) hZ (own_w16 hw) (own_w1 hw) (by decide) (by decide)) (g := (mkF m 96 #[.val (.int sel), .val (.int xx), .val (.int (sel &&& (3 : Int32))), .val (.int (64 : Int32)), .val (.int (40 : Int32)), .val (.int u), .val (.ref a1), .unset] [(.int u)])) rfl (by rw [hml]; rfl) (argsL := [(.int u)]) (rest := []) (lenOf pd_6 rfl) rfl (by show 2 * 0 + _ ≤ _; exact Nat.le_of_eq rfl) (hb hby at_96) (fun _ _ => ⟨rfl, e_5, (by decide : 0 + 2 ≤ _), (by decide : 0 + 3 ≤ _)⟩)
      dsimp only [Pt.U, Pt.locs, Pt.cells, Pt.slots] at X_6 l_6 y_6 z_6 st_6 hQ_6
      subst l_6 y_6 z_6
      obtain ⟨o, rfl, N_6q, K_6, E_o, F_o⟩ := hQ_6
      rw [own_r, if_pos hu1.symm] at F_o
      have Z0 := Nat.le_trans Z0 K_6.1
      have S_v := own_Sta_keep S_v K_6 
      have E_bv := E_bv.keep K_6
      have V_bv := V_bv.keep K_6 nin0
      have F_hl_a1 := F_hl_a1.keep K_6 nin0
      have F_hl_a2 := F_hl_a2.keep K_6 nin0
      have S_e := own_Sta_keep S_e K_6 
      have E_oe := E_oe.keep K_6
      have F_value_oe := F_value_oe.keep K_6 nin0
      have S_1 := own_Sta_keep S_1 K_6 
      have S_2 := own_Sta_keep S_2 K_6 
      have E_a1 := E_a1.keep K_6
      have E_a2 := E_a2.keep K_6
      have N_6 := Fr.app N_4 N_6q
      refine hst (fun _ kt => st_6 _ kt) ?_
      show G (T_6.setTop (mkF m 99 #[.val (.int sel), .val (.int xx), .val (.int (sel &&& (3 : Int32))), .val (.int (64 : Int32)), .val (.int (40 : Int32)), .val (.int u), .val (.ref a1), .unset] [(.ref o)]))
      refine hst (fun _ kt => XS.aconstNull X_6.here hx rfl (hb hby at_99) kt) ?_
      show G (T_6.setTop (mkF m 100 #[.val (.int sel), .val (.int xx), .val (.int (sel &&& (3 : Int32))), .val (.int (64 : Int32)), .val (.int (40 : Int32)), .val (.int u), .val (.ref a1), .unset] [.null, (.ref o)]))
      obtain ⟨cq_7, kq_7, q_7a, q_7b, q_7c⟩ := isOf hZ rfl E_o
      obtain ⟨_, _, ⟨T_7, L_7, k_7, n_7⟩, -, X_7, ⟨Lc_7, hQ_7, l_7, y_7, z_7⟩, st_7⟩ := X_6.virtualBack hx (y := (⟨"java/util/Optional", "orElse", "(Ljava/lang/Object;)Ljava/lang/Object;"⟩ : MethodName)) (z := (⟨"java/util/Optional", "orElse", "(Ljava/lang/Object;)Ljava/lang/Object;"⟩ : MethodName)) hown (mvT hZ (own_w51 hw)) (mvT hZ (own_w52 hw)) (notFace_of_selects (args := #[]) (mvT hZ (own_w54 hw))) (mvT hZ (own_w54 hw)) (mvT hZ (own_w53 hw)) (by decide) (backOf (W := 0) (rm8 l Z a0 hw [] o a1 T_6.heap n0 Z0 F_o) hZ (own_w55 hw) (own_w34 hw) (by decide) (by decide)) q_7a q_7c (g := (mkF m 100 #[.val (.int sel), .val (.int xx), .val (.int (sel &&& (3 : Int32))), .val (.int (64 : Int32)), .val (.int (40 : Int32)), .val (.int u), .val (.ref a1), .unset] [.null, (.ref o)])) rfl (by rw [hml]; rfl) (Steps.refl _) (argsL := [.null]) (rest := []) (lenOf pd_0 rfl) rfl (by show 2 * 0 + _ ≤ _; exact Nat.le_of_eq rfl) (hb hby at_100) (fun _ _ => ⟨rfl, rfl, (by decide : 2 + 0 ≤ _), (by decide : 3 + 0 ≤ _)⟩)
      dsimp only [Pt.U, Pt.locs, Pt.cells, Pt.slots] at X_7 l_7 y_7 z_7 st_7 hQ_7
      subst l_7 y_7 z_7
      obtain ⟨rfl, N_7q, eh_7⟩ := hQ_7
      have N_7 := Fr.app N_6 N_7q
      refine hst (fun _ kt => st_7.trans kt) ?_
      show G (T_7.setTop (mkF m 103 #[.val (.int sel), .val (.int xx), .val (.int (sel &&& (3 : Int32))), .val (.int (64 : Int32)), .val (.int (40 : Int32)), .val (.int u), .val (.ref a1), .unset] [(.ref a1)]))
      obtain ⟨T_8, X_8, e_8, st_8⟩ := castY X_7 hx hZ hown (own_w56 hw) eh_7 (Ins.of_exa E_a1 (own_w57 hw)) (g := (mkF m 103 #[.val (.int sel), .val (.int xx), .val (.int (sel &&& (3 : Int32))), .val (.int (64 : Int32)), .val (.int (40 : Int32)), .val (.int u), .val (.ref a1), .unset] [(.ref a1)])) rfl rfl (hb hby at_103)
      refine hst st_8 ?_
      show G (T_8.setTop (mkF m 106 #[.val (.int sel), .val (.int xx), .val (.int (sel &&& (3 : Int32))), .val (.int (64 : Int32)), .val (.int (40 : Int32)), .val (.int u), .val (.ref a1), .unset] [(.ref a1)]))
      refine hst (fun _ kt => XS.astore X_8.here hx rfl (hb hby at_106) rfl rfl (l' := #[.val (.int sel), .val (.int xx), .val (.int (sel &&& (3 : Int32))), .val (.int (64 : Int32)), .val (.int (40 : Int32)), .val (.int u), .val (.ref a1), .val (.ref a1)]) rfl kt) ?_
      show G (T_8.setTop (mkF m 108 #[.val (.int sel), .val (.int xx), .val (.int (sel &&& (3 : Int32))), .val (.int (64 : Int32)), .val (.int (40 : Int32)), .val (.int u), .val (.ref a1), .val (.ref a1)] []))
      refine hst (fun _ kt => XS.iloadN X_8.here hx rfl (hb hby at_108) rfl kt) ?_
      show G (T_8.setTop (mkF m 109 #[.val (.int sel), .val (.int xx), .val (.int (sel &&& (3 : Int32))), .val (.int (64 : Int32)), .val (.int (40 : Int32)), .val (.int u), .val (.ref a1), .val (.ref a1)] [(.int (64 : Int32))]))
      refine hst (fun _ kt => XS.bipush X_8.here hx rfl (hb hby at_109) kt) ?_
      show G (T_8.setTop (mkF m 111 #[.val (.int sel), .val (.int xx), .val (.int (sel &&& (3 : Int32))), .val (.int (64 : Int32)), .val (.int (40 : Int32)), .val (.int u), .val (.ref a1), .val (.ref a1)] [(.int (64 : Int32)), (.int (64 : Int32))]))
      have hc111 : (64 : Int32) = (64 : Int32) := rfl
      refine hst (fun _ kt => XS.icmpNo X_8.here hx rfl (hb hby at_111) rfl (teq hc111).2 kt) ?_
      show G (T_8.setTop (mkF m 114 #[.val (.int sel), .val (.int xx), .val (.int (sel &&& (3 : Int32))), .val (.int (64 : Int32)), .val (.int (40 : Int32)), .val (.int u), .val (.ref a1), .val (.ref a1)] []))
      refine hst (fun _ kt => XS.iload X_8.here hx rfl (hb hby at_114) rfl kt) ?_
      show G (T_8.setTop (mkF m 116 #[.val (.int sel), .val (.int xx), .val (.int (sel &&& (3 : Int32))), .val (.int (64 : Int32)), .val (.int (40 : Int32)), .val (.int u), .val (.ref a1), .val (.ref a1)] [(.int (40 : Int32))]))
      refine hst (fun _ kt => XS.bipush X_8.here hx rfl (hb hby at_116) kt) ?_
      show G (T_8.setTop (mkF m 118 #[.val (.int sel), .val (.int xx), .val (.int (sel &&& (3 : Int32))), .val (.int (64 : Int32)), .val (.int (40 : Int32)), .val (.int u), .val (.ref a1), .val (.ref a1)] [(.int (40 : Int32)), (.int (40 : Int32))]))
      have hc118 : (40 : Int32) = (40 : Int32) := rfl
      refine hst (fun _ kt => XS.icmpNo X_8.here hx rfl (hb hby at_118) rfl (teq hc118).2 kt) ?_
      show G (T_8.setTop (mkF m 121 #[.val (.int sel), .val (.int xx), .val (.int (sel &&& (3 : Int32))), .val (.int (64 : Int32)), .val (.int (40 : Int32)), .val (.int u), .val (.ref a1), .val (.ref a1)] []))
      refine hst (fun _ kt => XS.aload X_8.here hx rfl (hb hby at_121) rfl rfl kt) ?_
      show G (T_8.setTop (mkF m 123 #[.val (.int sel), .val (.int xx), .val (.int (sel &&& (3 : Int32))), .val (.int (64 : Int32)), .val (.int (40 : Int32)), .val (.int u), .val (.ref a1), .val (.ref a1)] [(.ref a1)]))
      refine hst (fun _ kt => XS.aload X_8.here hx rfl (hb hby at_123) rfl rfl kt) ?_
      show G (T_8.setTop (mkF m 125 #[.val (.int sel), .val (.int xx), .val (.int (sel &&& (3 : Int32))), .val (.int (64 : Int32)), .val (.int (40 : Int32)), .val (.int u), .val (.ref a1), .val (.ref a1)] [(.ref a1), (.ref a1)]))
      refine hst (fun _ kt => Jvm.RoadKit.acmp (g := (mkF m 125 #[.val (.int sel), .val (.int xx), .val (.int (sel &&& (3 : Int32))), .val (.int (64 : Int32)), .val (.int (40 : Int32)), .val (.int u), .val (.ref a1), .val (.ref a1)] [(.ref a1), (.ref a1)])) X_8 hx rfl rfl rfl (pc0 := 125) (pc' := 128) (same := true) rfl (hb hby at_125) rfl (decide_eq_true rfl) (by decide) (by decide) kt) ?_
      show G (T_8.setTop (mkF m 128 #[.val (.int sel), .val (.int xx), .val (.int (sel &&& (3 : Int32))), .val (.int (64 : Int32)), .val (.int (40 : Int32)), .val (.int u), .val (.ref a1), .val (.ref a1)] []))
      refine hst (fun _ kt => XS.iconst X_8.here hx rfl (hb hby at_128) kt) ?_
      show G (T_8.setTop (mkF m 129 #[.val (.int sel), .val (.int xx), .val (.int (sel &&& (3 : Int32))), .val (.int (64 : Int32)), .val (.int (40 : Int32)), .val (.int u), .val (.ref a1), .val (.ref a1)] [(.int (1 : Int32))]))
      refine hst (fun _ kt => XS.goto X_8.here hx rfl (pc0 := 129) (pc' := 133) rfl (hb hby at_129) (by decide) (by decide) kt) ?_
      show G (T_8.setTop (mkF m 133 #[.val (.int sel), .val (.int xx), .val (.int (sel &&& (3 : Int32))), .val (.int (64 : Int32)), .val (.int (40 : Int32)), .val (.int u), .val (.ref a1), .val (.ref a1)] [(.int (1 : Int32))]))
      exact hend (own_goRet X_8 hx Bd.returns rfl (Or.inl ⟨rfl, by simp, _, rfl⟩) (hb hby at_133) Bd.notSynchronized (by rw [e_8]; exact ⟨rfl, N_7⟩) (by decide) (by decide))
    ·
      refine hst (fun _ kt => XS.icmpYes X_4.here hx rfl (pc0 := 65) (pc' := 76) rfl (hb hby at_65) rfl (feq hu1).2 (by decide) (by decide) kt) ?_
      show G (T_4.setTop (mkF m 76 #[.val (.int sel), .val (.int xx), .val (.int (sel &&& (3 : Int32))), .val (.int (64 : Int32)), .val (.int (40 : Int32)), .val (.int u), .unset, .unset] []))
      refine hst (fun _ kt => XS.iload X_4.here hx rfl (hb hby at_76) rfl kt) ?_
      show G (T_4.setTop (mkF m 78 #[.val (.int sel), .val (.int xx), .val (.int (sel &&& (3 : Int32))), .val (.int (64 : Int32)), .val (.int (40 : Int32)), .val (.int u), .unset, .unset] [(.int u)]))
      refine hst (fun _ kt => XS.bipush X_4.here hx rfl (hb hby at_78) kt) ?_
      show G (T_4.setTop (mkF m 80 #[.val (.int sel), .val (.int xx), .val (.int (sel &&& (3 : Int32))), .val (.int (64 : Int32)), .val (.int (40 : Int32)), .val (.int u), .unset, .unset] [(.int (40 : Int32)), (.int u)]))
      by_cases hu2 : u = (40 : Int32)
      ·
        refine hst (fun _ kt => XS.icmpNo X_4.here hx rfl (hb hby at_80) rfl (teq hu2).2 kt) ?_
        show G (T_4.setTop (mkF m 83 #[.val (.int sel), .val (.int xx), .val (.int (sel &&& (3 : Int32))), .val (.int (64 : Int32)), .val (.int (40 : Int32)), .val (.int u), .unset, .unset] []))
        obtain ⟨T_9, X_9, e_9, st_9⟩ := getS2 X_4 hx hZ hown (host := "") (Or.inl (own_w10 hw)) Via.refl eh_4 S_2 (g := (mkF m 83 #[.val (.int sel), .val (.int xx), .val (.int (sel &&& (3 : Int32))), .val (.int (64 : Int32)), .val (.int (40 : Int32)), .val (.int u), .unset, .unset] [])) rfl (hb hby at_83)
        refine hst st_9 ?_
        show G (T_9.setTop (mkF m 86 #[.val (.int sel), .val (.int xx), .val (.int (sel &&& (3 : Int32))), .val (.int (64 : Int32)), .val (.int (40 : Int32)), .val (.int u), .unset, .unset] [(.ref a2)]))
        refine hst (fun _ kt => XS.astore X_9.here hx rfl (hb hby at_86) rfl rfl (l' := #[.val (.int sel), .val (.int xx), .val (.int (sel &&& (3 : Int32))), .val (.int (64 : Int32)), .val (.int (40 : Int32)), .val (.int u), .val (.ref a2), .unset]) rfl kt) ?_
        show G (T_9.setTop (mkF m 88 #[.val (.int sel), .val (.int xx), .val (.int (sel &&& (3 : Int32))), .val (.int (64 : Int32)), .val (.int (40 : Int32)), .val (.int u), .val (.ref a2), .unset] []))
        refine hst (fun _ kt => XS.goto X_9.here hx rfl (pc0 := 88) (pc' := 94) rfl (hb hby at_88) (by decide) (by decide) kt) ?_
        show G (T_9.setTop (mkF m 94 #[.val (.int sel), .val (.int xx), .val (.int (sel &&& (3 : Int32))), .val (.int (64 : Int32)), .val (.int (40 : Int32)), .val (.int u), .val (.ref a2), .unset] []))
        refine hst (fun _ kt => XS.iload X_9.here hx rfl (hb hby at_94) rfl kt) ?_
        show G (T_9.setTop (mkF m 96 #[.val (.int sel), .val (.int xx), .val (.int (sel &&& (3 : Int32))), .val (.int (64 : Int32)), .val (.int (40 : Int32)), .val (.int u), .val (.ref a2), .unset] [(.int u)]))
        obtain ⟨_, _, ⟨T_10, L_10, k_10, n_10⟩, -, X_10, ⟨Lc_10, hQ_10, l_10, y_10, z_10⟩, st_10⟩ := Jvm.LawKit.callS X_9 hx (y := (⟨own_B, "forHexLength", "(I)Ljava/util/Optional;"⟩ : MethodName)) hown (mvT hZ (own_w14 hw)) (mvT hZ (own_w15 hw)) (mvT hZ (own_w1 hw)) (mvT hZ (own_w16 hw)) (by decide) (backOf (W := 0) (rm7 l Z a0 hw [] u a1 a2 bv kv oe h0 n0 Z0 S_v E_bv V_bv F_hl_a1 F_hl_a2 S_e E_oe F_value_oe) hZ (own_w16 hw) (own_w1 hw) (by decide) (by decide)) (g := (mkF m 96 #[.val (.int sel), .val (.int xx), .val (.int (sel &&& (3 : Int32))), .val (.int (64 : Int32)), .val (.int (40 : Int32)), .val (.int u), .val (.ref a2), .unset] [(.int u)])) rfl (by rw [hml]; rfl) (argsL := [(.int u)]) (rest := []) (lenOf pd_6 rfl) rfl (by show 2 * 0 + _ ≤ _; exact Nat.le_of_eq rfl) (hb hby at_96) (fun _ _ => ⟨rfl, e_9, (by decide : 0 + 2 ≤ _), (by decide : 0 + 3 ≤ _)⟩)
        dsimp only [Pt.U, Pt.locs, Pt.cells, Pt.slots] at X_10 l_10 y_10 z_10 st_10 hQ_10
        subst l_10 y_10 z_10
        obtain ⟨o, rfl, N_10q, K_10, E_o, F_o⟩ := hQ_10
        rw [own_r, if_neg (fun z => hu1 (Eq.symm z)), if_pos hu2.symm] at F_o
        have Z0 := Nat.le_trans Z0 K_10.1
        have S_v := own_Sta_keep S_v K_10 
        have E_bv := E_bv.keep K_10
        have V_bv := V_bv.keep K_10 nin0
        have F_hl_a1 := F_hl_a1.keep K_10 nin0
        have F_hl_a2 := F_hl_a2.keep K_10 nin0
        have S_e := own_Sta_keep S_e K_10 
        have E_oe := E_oe.keep K_10
        have F_value_oe := F_value_oe.keep K_10 nin0
        have S_1 := own_Sta_keep S_1 K_10 
        have S_2 := own_Sta_keep S_2 K_10 
        have E_a1 := E_a1.keep K_10
        have E_a2 := E_a2.keep K_10
        have N_10 := Fr.app N_4 N_10q
        refine hst (fun _ kt => st_10 _ kt) ?_
        show G (T_10.setTop (mkF m 99 #[.val (.int sel), .val (.int xx), .val (.int (sel &&& (3 : Int32))), .val (.int (64 : Int32)), .val (.int (40 : Int32)), .val (.int u), .val (.ref a2), .unset] [(.ref o)]))
        refine hst (fun _ kt => XS.aconstNull X_10.here hx rfl (hb hby at_99) kt) ?_
        show G (T_10.setTop (mkF m 100 #[.val (.int sel), .val (.int xx), .val (.int (sel &&& (3 : Int32))), .val (.int (64 : Int32)), .val (.int (40 : Int32)), .val (.int u), .val (.ref a2), .unset] [.null, (.ref o)]))
        obtain ⟨cq_11, kq_11, q_11a, q_11b, q_11c⟩ := isOf hZ rfl E_o
        obtain ⟨_, _, ⟨T_11, L_11, k_11, n_11⟩, -, X_11, ⟨Lc_11, hQ_11, l_11, y_11, z_11⟩, st_11⟩ := X_10.virtualBack hx (y := (⟨"java/util/Optional", "orElse", "(Ljava/lang/Object;)Ljava/lang/Object;"⟩ : MethodName)) (z := (⟨"java/util/Optional", "orElse", "(Ljava/lang/Object;)Ljava/lang/Object;"⟩ : MethodName)) hown (mvT hZ (own_w51 hw)) (mvT hZ (own_w52 hw)) (notFace_of_selects (args := #[]) (mvT hZ (own_w54 hw))) (mvT hZ (own_w54 hw)) (mvT hZ (own_w53 hw)) (by decide) (backOf (W := 0) (rm8 l Z a0 hw [] o a2 T_10.heap n0 Z0 F_o) hZ (own_w55 hw) (own_w34 hw) (by decide) (by decide)) q_11a q_11c (g := (mkF m 100 #[.val (.int sel), .val (.int xx), .val (.int (sel &&& (3 : Int32))), .val (.int (64 : Int32)), .val (.int (40 : Int32)), .val (.int u), .val (.ref a2), .unset] [.null, (.ref o)])) rfl (by rw [hml]; rfl) (Steps.refl _) (argsL := [.null]) (rest := []) (lenOf pd_0 rfl) rfl (by show 2 * 0 + _ ≤ _; exact Nat.le_of_eq rfl) (hb hby at_100) (fun _ _ => ⟨rfl, rfl, (by decide : 2 + 0 ≤ _), (by decide : 3 + 0 ≤ _)⟩)
        dsimp only [Pt.U, Pt.locs, Pt.cells, Pt.slots] at X_11 l_11 y_11 z_11 st_11 hQ_11
        subst l_11 y_11 z_11
        obtain ⟨rfl, N_11q, eh_11⟩ := hQ_11
        have N_11 := Fr.app N_10 N_11q
        refine hst (fun _ kt => st_11.trans kt) ?_
        show G (T_11.setTop (mkF m 103 #[.val (.int sel), .val (.int xx), .val (.int (sel &&& (3 : Int32))), .val (.int (64 : Int32)), .val (.int (40 : Int32)), .val (.int u), .val (.ref a2), .unset] [(.ref a2)]))
        obtain ⟨T_12, X_12, e_12, st_12⟩ := castY X_11 hx hZ hown (own_w56 hw) eh_11 (Ins.of_exa E_a2 (own_w62 hw)) (g := (mkF m 103 #[.val (.int sel), .val (.int xx), .val (.int (sel &&& (3 : Int32))), .val (.int (64 : Int32)), .val (.int (40 : Int32)), .val (.int u), .val (.ref a2), .unset] [(.ref a2)])) rfl rfl (hb hby at_103)
        refine hst st_12 ?_
        show G (T_12.setTop (mkF m 106 #[.val (.int sel), .val (.int xx), .val (.int (sel &&& (3 : Int32))), .val (.int (64 : Int32)), .val (.int (40 : Int32)), .val (.int u), .val (.ref a2), .unset] [(.ref a2)]))
        refine hst (fun _ kt => XS.astore X_12.here hx rfl (hb hby at_106) rfl rfl (l' := #[.val (.int sel), .val (.int xx), .val (.int (sel &&& (3 : Int32))), .val (.int (64 : Int32)), .val (.int (40 : Int32)), .val (.int u), .val (.ref a2), .val (.ref a2)]) rfl kt) ?_
        show G (T_12.setTop (mkF m 108 #[.val (.int sel), .val (.int xx), .val (.int (sel &&& (3 : Int32))), .val (.int (64 : Int32)), .val (.int (40 : Int32)), .val (.int u), .val (.ref a2), .val (.ref a2)] []))
        refine hst (fun _ kt => XS.iloadN X_12.here hx rfl (hb hby at_108) rfl kt) ?_
        show G (T_12.setTop (mkF m 109 #[.val (.int sel), .val (.int xx), .val (.int (sel &&& (3 : Int32))), .val (.int (64 : Int32)), .val (.int (40 : Int32)), .val (.int u), .val (.ref a2), .val (.ref a2)] [(.int (64 : Int32))]))
        refine hst (fun _ kt => XS.bipush X_12.here hx rfl (hb hby at_109) kt) ?_
        show G (T_12.setTop (mkF m 111 #[.val (.int sel), .val (.int xx), .val (.int (sel &&& (3 : Int32))), .val (.int (64 : Int32)), .val (.int (40 : Int32)), .val (.int u), .val (.ref a2), .val (.ref a2)] [(.int (64 : Int32)), (.int (64 : Int32))]))
        have hc111 : (64 : Int32) = (64 : Int32) := rfl
        refine hst (fun _ kt => XS.icmpNo X_12.here hx rfl (hb hby at_111) rfl (teq hc111).2 kt) ?_
        show G (T_12.setTop (mkF m 114 #[.val (.int sel), .val (.int xx), .val (.int (sel &&& (3 : Int32))), .val (.int (64 : Int32)), .val (.int (40 : Int32)), .val (.int u), .val (.ref a2), .val (.ref a2)] []))
        refine hst (fun _ kt => XS.iload X_12.here hx rfl (hb hby at_114) rfl kt) ?_
        show G (T_12.setTop (mkF m 116 #[.val (.int sel), .val (.int xx), .val (.int (sel &&& (3 : Int32))), .val (.int (64 : Int32)), .val (.int (40 : Int32)), .val (.int u), .val (.ref a2), .val (.ref a2)] [(.int (40 : Int32))]))
        refine hst (fun _ kt => XS.bipush X_12.here hx rfl (hb hby at_116) kt) ?_
        show G (T_12.setTop (mkF m 118 #[.val (.int sel), .val (.int xx), .val (.int (sel &&& (3 : Int32))), .val (.int (64 : Int32)), .val (.int (40 : Int32)), .val (.int u), .val (.ref a2), .val (.ref a2)] [(.int (40 : Int32)), (.int (40 : Int32))]))
        have hc118 : (40 : Int32) = (40 : Int32) := rfl
        refine hst (fun _ kt => XS.icmpNo X_12.here hx rfl (hb hby at_118) rfl (teq hc118).2 kt) ?_
        show G (T_12.setTop (mkF m 121 #[.val (.int sel), .val (.int xx), .val (.int (sel &&& (3 : Int32))), .val (.int (64 : Int32)), .val (.int (40 : Int32)), .val (.int u), .val (.ref a2), .val (.ref a2)] []))
        refine hst (fun _ kt => XS.aload X_12.here hx rfl (hb hby at_121) rfl rfl kt) ?_
        show G (T_12.setTop (mkF m 123 #[.val (.int sel), .val (.int xx), .val (.int (sel &&& (3 : Int32))), .val (.int (64 : Int32)), .val (.int (40 : Int32)), .val (.int u), .val (.ref a2), .val (.ref a2)] [(.ref a2)]))
        refine hst (fun _ kt => XS.aload X_12.here hx rfl (hb hby at_123) rfl rfl kt) ?_
        show G (T_12.setTop (mkF m 125 #[.val (.int sel), .val (.int xx), .val (.int (sel &&& (3 : Int32))), .val (.int (64 : Int32)), .val (.int (40 : Int32)), .val (.int u), .val (.ref a2), .val (.ref a2)] [(.ref a2), (.ref a2)]))
        refine hst (fun _ kt => Jvm.RoadKit.acmp (g := (mkF m 125 #[.val (.int sel), .val (.int xx), .val (.int (sel &&& (3 : Int32))), .val (.int (64 : Int32)), .val (.int (40 : Int32)), .val (.int u), .val (.ref a2), .val (.ref a2)] [(.ref a2), (.ref a2)])) X_12 hx rfl rfl rfl (pc0 := 125) (pc' := 128) (same := true) rfl (hb hby at_125) rfl (decide_eq_true rfl) (by decide) (by decide) kt) ?_
        show G (T_12.setTop (mkF m 128 #[.val (.int sel), .val (.int xx), .val (.int (sel &&& (3 : Int32))), .val (.int (64 : Int32)), .val (.int (40 : Int32)), .val (.int u), .val (.ref a2), .val (.ref a2)] []))
        refine hst (fun _ kt => XS.iconst X_12.here hx rfl (hb hby at_128) kt) ?_
        show G (T_12.setTop (mkF m 129 #[.val (.int sel), .val (.int xx), .val (.int (sel &&& (3 : Int32))), .val (.int (64 : Int32)), .val (.int (40 : Int32)), .val (.int u), .val (.ref a2), .val (.ref a2)] [(.int (1 : Int32))]))
        refine hst (fun _ kt => XS.goto X_12.here hx rfl (pc0 := 129) (pc' := 133) rfl (hb hby at_129) (by decide) (by decide) kt) ?_
        show G (T_12.setTop (mkF m 133 #[.val (.int sel), .val (.int xx), .val (.int (sel &&& (3 : Int32))), .val (.int (64 : Int32)), .val (.int (40 : Int32)), .val (.int u), .val (.ref a2), .val (.ref a2)] [(.int (1 : Int32))]))
        exact hend (own_goRet X_12 hx Bd.returns rfl (Or.inl ⟨rfl, by simp, _, rfl⟩) (hb hby at_133) Bd.notSynchronized (by rw [e_12]; exact ⟨rfl, N_11⟩) (by decide) (by decide))
      ·
        refine hst (fun _ kt => XS.icmpYes X_4.here hx rfl (pc0 := 80) (pc' := 91) rfl (hb hby at_80) rfl (feq hu2).2 (by decide) (by decide) kt) ?_
        show G (T_4.setTop (mkF m 91 #[.val (.int sel), .val (.int xx), .val (.int (sel &&& (3 : Int32))), .val (.int (64 : Int32)), .val (.int (40 : Int32)), .val (.int u), .unset, .unset] []))
        refine hst (fun _ kt => XS.aconstNull X_4.here hx rfl (hb hby at_91) kt) ?_
        show G (T_4.setTop (mkF m 92 #[.val (.int sel), .val (.int xx), .val (.int (sel &&& (3 : Int32))), .val (.int (64 : Int32)), .val (.int (40 : Int32)), .val (.int u), .unset, .unset] [.null]))
        refine hst (fun _ kt => XS.astore X_4.here hx rfl (hb hby at_92) rfl rfl (l' := #[.val (.int sel), .val (.int xx), .val (.int (sel &&& (3 : Int32))), .val (.int (64 : Int32)), .val (.int (40 : Int32)), .val (.int u), .val .null, .unset]) rfl kt) ?_
        show G (T_4.setTop (mkF m 94 #[.val (.int sel), .val (.int xx), .val (.int (sel &&& (3 : Int32))), .val (.int (64 : Int32)), .val (.int (40 : Int32)), .val (.int u), .val .null, .unset] []))
        refine hst (fun _ kt => XS.iload X_4.here hx rfl (hb hby at_94) rfl kt) ?_
        show G (T_4.setTop (mkF m 96 #[.val (.int sel), .val (.int xx), .val (.int (sel &&& (3 : Int32))), .val (.int (64 : Int32)), .val (.int (40 : Int32)), .val (.int u), .val .null, .unset] [(.int u)]))
        obtain ⟨_, _, ⟨T_13, L_13, k_13, n_13⟩, -, X_13, ⟨Lc_13, hQ_13, l_13, y_13, z_13⟩, st_13⟩ := Jvm.LawKit.callS X_4 hx (y := (⟨own_B, "forHexLength", "(I)Ljava/util/Optional;"⟩ : MethodName)) hown (mvT hZ (own_w14 hw)) (mvT hZ (own_w15 hw)) (mvT hZ (own_w1 hw)) (mvT hZ (own_w16 hw)) (by decide) (backOf (W := 0) (rm7 l Z a0 hw [] u a1 a2 bv kv oe h0 n0 Z0 S_v E_bv V_bv F_hl_a1 F_hl_a2 S_e E_oe F_value_oe) hZ (own_w16 hw) (own_w1 hw) (by decide) (by decide)) (g := (mkF m 96 #[.val (.int sel), .val (.int xx), .val (.int (sel &&& (3 : Int32))), .val (.int (64 : Int32)), .val (.int (40 : Int32)), .val (.int u), .val .null, .unset] [(.int u)])) rfl (by rw [hml]; rfl) (argsL := [(.int u)]) (rest := []) (lenOf pd_6 rfl) rfl (by show 2 * 0 + _ ≤ _; exact Nat.le_of_eq rfl) (hb hby at_96) (fun _ _ => ⟨rfl, eh_4, (by decide : 0 + 2 ≤ _), (by decide : 0 + 3 ≤ _)⟩)
        dsimp only [Pt.U, Pt.locs, Pt.cells, Pt.slots] at X_13 l_13 y_13 z_13 st_13 hQ_13
        subst l_13 y_13 z_13
        obtain ⟨o, rfl, N_13q, K_13, E_o, F_o⟩ := hQ_13
        rw [own_r, if_neg (fun z => hu1 (Eq.symm z)), if_neg (fun z => hu2 (Eq.symm z))] at F_o
        have Z0 := Nat.le_trans Z0 K_13.1
        have S_v := own_Sta_keep S_v K_13 
        have E_bv := E_bv.keep K_13
        have V_bv := V_bv.keep K_13 nin0
        have F_hl_a1 := F_hl_a1.keep K_13 nin0
        have F_hl_a2 := F_hl_a2.keep K_13 nin0
        have S_e := own_Sta_keep S_e K_13 
        have E_oe := E_oe.keep K_13
        have F_value_oe := F_value_oe.keep K_13 nin0
        have S_1 := own_Sta_keep S_1 K_13 
        have S_2 := own_Sta_keep S_2 K_13 
        have E_a1 := E_a1.keep K_13
        have E_a2 := E_a2.keep K_13
        have N_13 := Fr.app N_4 N_13q
        refine hst (fun _ kt => st_13 _ kt) ?_
        show G (T_13.setTop (mkF m 99 #[.val (.int sel), .val (.int xx), .val (.int (sel &&& (3 : Int32))), .val (.int (64 : Int32)), .val (.int (40 : Int32)), .val (.int u), .val .null, .unset] [(.ref o)]))
        refine hst (fun _ kt => XS.aconstNull X_13.here hx rfl (hb hby at_99) kt) ?_
        show G (T_13.setTop (mkF m 100 #[.val (.int sel), .val (.int xx), .val (.int (sel &&& (3 : Int32))), .val (.int (64 : Int32)), .val (.int (40 : Int32)), .val (.int u), .val .null, .unset] [.null, (.ref o)]))
        obtain ⟨cq_14, kq_14, q_14a, q_14b, q_14c⟩ := isOf hZ rfl E_o
        obtain ⟨_, _, ⟨T_14, L_14, k_14, n_14⟩, -, X_14, ⟨Lc_14, hQ_14, l_14, y_14, z_14⟩, st_14⟩ := X_13.virtualBack hx (y := (⟨"java/util/Optional", "orElse", "(Ljava/lang/Object;)Ljava/lang/Object;"⟩ : MethodName)) (z := (⟨"java/util/Optional", "orElse", "(Ljava/lang/Object;)Ljava/lang/Object;"⟩ : MethodName)) hown (mvT hZ (own_w51 hw)) (mvT hZ (own_w52 hw)) (notFace_of_selects (args := #[]) (mvT hZ (own_w54 hw))) (mvT hZ (own_w54 hw)) (mvT hZ (own_w53 hw)) (by decide) (backOf (W := 0) (rm9 l Z a0 hw [] o  T_13.heap n0 Z0 F_o) hZ (own_w55 hw) (own_w34 hw) (by decide) (by decide)) q_14a q_14c (g := (mkF m 100 #[.val (.int sel), .val (.int xx), .val (.int (sel &&& (3 : Int32))), .val (.int (64 : Int32)), .val (.int (40 : Int32)), .val (.int u), .val .null, .unset] [.null, (.ref o)])) rfl (by rw [hml]; rfl) (Steps.refl _) (argsL := [.null]) (rest := []) (lenOf pd_0 rfl) rfl (by show 2 * 0 + _ ≤ _; exact Nat.le_of_eq rfl) (hb hby at_100) (fun _ _ => ⟨rfl, rfl, (by decide : 2 + 0 ≤ _), (by decide : 3 + 0 ≤ _)⟩)
        dsimp only [Pt.U, Pt.locs, Pt.cells, Pt.slots] at X_14 l_14 y_14 z_14 st_14 hQ_14
        subst l_14 y_14 z_14
        obtain ⟨rfl, N_14q, eh_14⟩ := hQ_14
        have N_14 := Fr.app N_13 N_14q
        refine hst (fun _ kt => st_14.trans kt) ?_
        show G (T_14.setTop (mkF m 103 #[.val (.int sel), .val (.int xx), .val (.int (sel &&& (3 : Int32))), .val (.int (64 : Int32)), .val (.int (40 : Int32)), .val (.int u), .val .null, .unset] [.null]))
        refine hst (X_14.checkcastNull hx (g := (mkF m 103 #[.val (.int sel), .val (.int xx), .val (.int (sel &&& (3 : Int32))), .val (.int (64 : Int32)), .val (.int (40 : Int32)), .val (.int u), .val .null, .unset] [.null])) rfl rfl (hb hby at_103)) ?_
        show G (T_14.setTop (mkF m 106 #[.val (.int sel), .val (.int xx), .val (.int (sel &&& (3 : Int32))), .val (.int (64 : Int32)), .val (.int (40 : Int32)), .val (.int u), .val .null, .unset] [.null]))
        refine hst (fun _ kt => XS.astore X_14.here hx rfl (hb hby at_106) rfl rfl (l' := #[.val (.int sel), .val (.int xx), .val (.int (sel &&& (3 : Int32))), .val (.int (64 : Int32)), .val (.int (40 : Int32)), .val (.int u), .val .null, .val .null]) rfl kt) ?_
        show G (T_14.setTop (mkF m 108 #[.val (.int sel), .val (.int xx), .val (.int (sel &&& (3 : Int32))), .val (.int (64 : Int32)), .val (.int (40 : Int32)), .val (.int u), .val .null, .val .null] []))
        refine hst (fun _ kt => XS.iloadN X_14.here hx rfl (hb hby at_108) rfl kt) ?_
        show G (T_14.setTop (mkF m 109 #[.val (.int sel), .val (.int xx), .val (.int (sel &&& (3 : Int32))), .val (.int (64 : Int32)), .val (.int (40 : Int32)), .val (.int u), .val .null, .val .null] [(.int (64 : Int32))]))
        refine hst (fun _ kt => XS.bipush X_14.here hx rfl (hb hby at_109) kt) ?_
        show G (T_14.setTop (mkF m 111 #[.val (.int sel), .val (.int xx), .val (.int (sel &&& (3 : Int32))), .val (.int (64 : Int32)), .val (.int (40 : Int32)), .val (.int u), .val .null, .val .null] [(.int (64 : Int32)), (.int (64 : Int32))]))
        have hc111 : (64 : Int32) = (64 : Int32) := rfl
        refine hst (fun _ kt => XS.icmpNo X_14.here hx rfl (hb hby at_111) rfl (teq hc111).2 kt) ?_
        show G (T_14.setTop (mkF m 114 #[.val (.int sel), .val (.int xx), .val (.int (sel &&& (3 : Int32))), .val (.int (64 : Int32)), .val (.int (40 : Int32)), .val (.int u), .val .null, .val .null] []))
        refine hst (fun _ kt => XS.iload X_14.here hx rfl (hb hby at_114) rfl kt) ?_
        show G (T_14.setTop (mkF m 116 #[.val (.int sel), .val (.int xx), .val (.int (sel &&& (3 : Int32))), .val (.int (64 : Int32)), .val (.int (40 : Int32)), .val (.int u), .val .null, .val .null] [(.int (40 : Int32))]))
        refine hst (fun _ kt => XS.bipush X_14.here hx rfl (hb hby at_116) kt) ?_
        show G (T_14.setTop (mkF m 118 #[.val (.int sel), .val (.int xx), .val (.int (sel &&& (3 : Int32))), .val (.int (64 : Int32)), .val (.int (40 : Int32)), .val (.int u), .val .null, .val .null] [(.int (40 : Int32)), (.int (40 : Int32))]))
        have hc118 : (40 : Int32) = (40 : Int32) := rfl
        refine hst (fun _ kt => XS.icmpNo X_14.here hx rfl (hb hby at_118) rfl (teq hc118).2 kt) ?_
        show G (T_14.setTop (mkF m 121 #[.val (.int sel), .val (.int xx), .val (.int (sel &&& (3 : Int32))), .val (.int (64 : Int32)), .val (.int (40 : Int32)), .val (.int u), .val .null, .val .null] []))
        refine hst (fun _ kt => XS.aload X_14.here hx rfl (hb hby at_121) rfl rfl kt) ?_
        show G (T_14.setTop (mkF m 123 #[.val (.int sel), .val (.int xx), .val (.int (sel &&& (3 : Int32))), .val (.int (64 : Int32)), .val (.int (40 : Int32)), .val (.int u), .val .null, .val .null] [.null]))
        refine hst (fun _ kt => XS.aload X_14.here hx rfl (hb hby at_123) rfl rfl kt) ?_
        show G (T_14.setTop (mkF m 125 #[.val (.int sel), .val (.int xx), .val (.int (sel &&& (3 : Int32))), .val (.int (64 : Int32)), .val (.int (40 : Int32)), .val (.int u), .val .null, .val .null] [.null, .null]))
        refine hst (fun _ kt => Jvm.RoadKit.acmp (g := (mkF m 125 #[.val (.int sel), .val (.int xx), .val (.int (sel &&& (3 : Int32))), .val (.int (64 : Int32)), .val (.int (40 : Int32)), .val (.int u), .val .null, .val .null] [.null, .null])) X_14 hx rfl rfl rfl (pc0 := 125) (pc' := 128) (same := true) rfl (hb hby at_125) rfl (decide_eq_true rfl) (by decide) (by decide) kt) ?_
        show G (T_14.setTop (mkF m 128 #[.val (.int sel), .val (.int xx), .val (.int (sel &&& (3 : Int32))), .val (.int (64 : Int32)), .val (.int (40 : Int32)), .val (.int u), .val .null, .val .null] []))
        refine hst (fun _ kt => XS.iconst X_14.here hx rfl (hb hby at_128) kt) ?_
        show G (T_14.setTop (mkF m 129 #[.val (.int sel), .val (.int xx), .val (.int (sel &&& (3 : Int32))), .val (.int (64 : Int32)), .val (.int (40 : Int32)), .val (.int u), .val .null, .val .null] [(.int (1 : Int32))]))
        refine hst (fun _ kt => XS.goto X_14.here hx rfl (pc0 := 129) (pc' := 133) rfl (hb hby at_129) (by decide) (by decide) kt) ?_
        show G (T_14.setTop (mkF m 133 #[.val (.int sel), .val (.int xx), .val (.int (sel &&& (3 : Int32))), .val (.int (64 : Int32)), .val (.int (40 : Int32)), .val (.int u), .val .null, .val .null] [(.int (1 : Int32))]))
        exact hend (own_goRet X_14 hx Bd.returns rfl (Or.inl ⟨rfl, by simp, _, rfl⟩) (hb hby at_133) Bd.notSynchronized (by rw [eh_14]; exact ⟨rfl, N_14⟩) (by decide) (by decide))
  by_cases hs1 : (sel &&& (3 : Int32)) = (0 : Int32)
  ·
    refine hst (fun _ kt => XS.ifNo X_4.here hx rfl (hb hby at_20) rfl ((if0 _ _).trans (teq hs1).2) kt) ?_
    show G (T_4.setTop (mkF m 23 #[.val (.int sel), .val (.int xx), .val (.int (sel &&& (3 : Int32))), .val (.int (64 : Int32)), .val (.int (40 : Int32)), .unset, .unset, .unset] []))
    refine hst (fun _ kt => XS.iloadN X_4.here hx rfl (hb hby at_23) rfl kt) ?_
    show G (T_4.setTop (mkF m 24 #[.val (.int sel), .val (.int xx), .val (.int (sel &&& (3 : Int32))), .val (.int (64 : Int32)), .val (.int (40 : Int32)), .unset, .unset, .unset] [(.int (64 : Int32))]))
    refine hst (fun _ kt => XS.istore X_4.here hx rfl (hb hby at_24) rfl (l' := #[.val (.int sel), .val (.int xx), .val (.int (sel &&& (3 : Int32))), .val (.int (64 : Int32)), .val (.int (40 : Int32)), .val (.int (64 : Int32)), .unset, .unset]) rfl kt) ?_
    show G (T_4.setTop (mkF m 26 #[.val (.int sel), .val (.int xx), .val (.int (sel &&& (3 : Int32))), .val (.int (64 : Int32)), .val (.int (40 : Int32)), .val (.int (64 : Int32)), .unset, .unset] []))
    refine hst (fun _ kt => XS.goto X_4.here hx rfl (pc0 := 26) (pc' := 61) rfl (hb hby at_26) (by decide) (by decide) kt) ?_
    show G (T_4.setTop (mkF m 61 #[.val (.int sel), .val (.int xx), .val (.int (sel &&& (3 : Int32))), .val (.int (64 : Int32)), .val (.int (40 : Int32)), .val (.int (64 : Int32)), .unset, .unset] []))
    exact J61 _
  ·
    refine hst (fun _ kt => XS.ifYes X_4.here hx rfl (pc0 := 20) (pc' := 29) rfl (hb hby at_20) rfl ((if0 _ _).trans (feq hs1).2) (by decide) (by decide) kt) ?_
    show G (T_4.setTop (mkF m 29 #[.val (.int sel), .val (.int xx), .val (.int (sel &&& (3 : Int32))), .val (.int (64 : Int32)), .val (.int (40 : Int32)), .unset, .unset, .unset] []))
    refine hst (fun _ kt => XS.iloadN X_4.here hx rfl (hb hby at_29) rfl kt) ?_
    show G (T_4.setTop (mkF m 30 #[.val (.int sel), .val (.int xx), .val (.int (sel &&& (3 : Int32))), .val (.int (64 : Int32)), .val (.int (40 : Int32)), .unset, .unset, .unset] [(.int (sel &&& (3 : Int32)))]))
    refine hst (fun _ kt => XS.iconst X_4.here hx rfl (hb hby at_30) kt) ?_
    show G (T_4.setTop (mkF m 31 #[.val (.int sel), .val (.int xx), .val (.int (sel &&& (3 : Int32))), .val (.int (64 : Int32)), .val (.int (40 : Int32)), .unset, .unset, .unset] [(.int (1 : Int32)), (.int (sel &&& (3 : Int32)))]))
    by_cases hs2 : (sel &&& (3 : Int32)) = (1 : Int32)
    ·
      refine hst (fun _ kt => XS.icmpNo X_4.here hx rfl (hb hby at_31) rfl (teq hs2).2 kt) ?_
      show G (T_4.setTop (mkF m 34 #[.val (.int sel), .val (.int xx), .val (.int (sel &&& (3 : Int32))), .val (.int (64 : Int32)), .val (.int (40 : Int32)), .unset, .unset, .unset] []))
      refine hst (fun _ kt => XS.iload X_4.here hx rfl (hb hby at_34) rfl kt) ?_
      show G (T_4.setTop (mkF m 36 #[.val (.int sel), .val (.int xx), .val (.int (sel &&& (3 : Int32))), .val (.int (64 : Int32)), .val (.int (40 : Int32)), .unset, .unset, .unset] [(.int (40 : Int32))]))
      refine hst (fun _ kt => XS.istore X_4.here hx rfl (hb hby at_36) rfl (l' := #[.val (.int sel), .val (.int xx), .val (.int (sel &&& (3 : Int32))), .val (.int (64 : Int32)), .val (.int (40 : Int32)), .val (.int (40 : Int32)), .unset, .unset]) rfl kt) ?_
      show G (T_4.setTop (mkF m 38 #[.val (.int sel), .val (.int xx), .val (.int (sel &&& (3 : Int32))), .val (.int (64 : Int32)), .val (.int (40 : Int32)), .val (.int (40 : Int32)), .unset, .unset] []))
      refine hst (fun _ kt => XS.goto X_4.here hx rfl (pc0 := 38) (pc' := 61) rfl (hb hby at_38) (by decide) (by decide) kt) ?_
      show G (T_4.setTop (mkF m 61 #[.val (.int sel), .val (.int xx), .val (.int (sel &&& (3 : Int32))), .val (.int (64 : Int32)), .val (.int (40 : Int32)), .val (.int (40 : Int32)), .unset, .unset] []))
      exact J61 _
    ·
      refine hst (fun _ kt => XS.icmpYes X_4.here hx rfl (pc0 := 31) (pc' := 41) rfl (hb hby at_31) rfl (feq hs2).2 (by decide) (by decide) kt) ?_
      show G (T_4.setTop (mkF m 41 #[.val (.int sel), .val (.int xx), .val (.int (sel &&& (3 : Int32))), .val (.int (64 : Int32)), .val (.int (40 : Int32)), .unset, .unset, .unset] []))
      refine hst (fun _ kt => XS.iloadN X_4.here hx rfl (hb hby at_41) rfl kt) ?_
      show G (T_4.setTop (mkF m 42 #[.val (.int sel), .val (.int xx), .val (.int (sel &&& (3 : Int32))), .val (.int (64 : Int32)), .val (.int (40 : Int32)), .unset, .unset, .unset] [(.int (sel &&& (3 : Int32)))]))
      refine hst (fun _ kt => XS.iconst X_4.here hx rfl (hb hby at_42) kt) ?_
      show G (T_4.setTop (mkF m 43 #[.val (.int sel), .val (.int xx), .val (.int (sel &&& (3 : Int32))), .val (.int (64 : Int32)), .val (.int (40 : Int32)), .unset, .unset, .unset] [(.int (2 : Int32)), (.int (sel &&& (3 : Int32)))]))
      by_cases hs3 : (sel &&& (3 : Int32)) = (2 : Int32)
      ·
        refine hst (fun _ kt => XS.icmpNo X_4.here hx rfl (hb hby at_43) rfl (teq hs3).2 kt) ?_
        show G (T_4.setTop (mkF m 46 #[.val (.int sel), .val (.int xx), .val (.int (sel &&& (3 : Int32))), .val (.int (64 : Int32)), .val (.int (40 : Int32)), .unset, .unset, .unset] []))
        refine hst (fun _ kt => XS.iloadN X_4.here hx rfl (hb hby at_46) rfl kt) ?_
        show G (T_4.setTop (mkF m 47 #[.val (.int sel), .val (.int xx), .val (.int (sel &&& (3 : Int32))), .val (.int (64 : Int32)), .val (.int (40 : Int32)), .unset, .unset, .unset] [(.int xx)]))
        refine hst (fun _ kt => XS.istore X_4.here hx rfl (hb hby at_47) rfl (l' := #[.val (.int sel), .val (.int xx), .val (.int (sel &&& (3 : Int32))), .val (.int (64 : Int32)), .val (.int (40 : Int32)), .val (.int xx), .unset, .unset]) rfl kt) ?_
        show G (T_4.setTop (mkF m 49 #[.val (.int sel), .val (.int xx), .val (.int (sel &&& (3 : Int32))), .val (.int (64 : Int32)), .val (.int (40 : Int32)), .val (.int xx), .unset, .unset] []))
        refine hst (fun _ kt => XS.goto X_4.here hx rfl (pc0 := 49) (pc' := 61) rfl (hb hby at_49) (by decide) (by decide) kt) ?_
        show G (T_4.setTop (mkF m 61 #[.val (.int sel), .val (.int xx), .val (.int (sel &&& (3 : Int32))), .val (.int (64 : Int32)), .val (.int (40 : Int32)), .val (.int xx), .unset, .unset] []))
        exact J61 _
      ·
        refine hst (fun _ kt => XS.icmpYes X_4.here hx rfl (pc0 := 43) (pc' := 52) rfl (hb hby at_43) rfl (feq hs3).2 (by decide) (by decide) kt) ?_
        show G (T_4.setTop (mkF m 52 #[.val (.int sel), .val (.int xx), .val (.int (sel &&& (3 : Int32))), .val (.int (64 : Int32)), .val (.int (40 : Int32)), .unset, .unset, .unset] []))
        refine hst (fun _ kt => XS.bipush X_4.here hx rfl (hb hby at_52) kt) ?_
        show G (T_4.setTop (mkF m 54 #[.val (.int sel), .val (.int xx), .val (.int (sel &&& (3 : Int32))), .val (.int (64 : Int32)), .val (.int (40 : Int32)), .unset, .unset, .unset] [(.int (32 : Int32))]))
        refine hst (fun _ kt => XS.iloadN X_4.here hx rfl (hb hby at_54) rfl kt) ?_
        show G (T_4.setTop (mkF m 55 #[.val (.int sel), .val (.int xx), .val (.int (sel &&& (3 : Int32))), .val (.int (64 : Int32)), .val (.int (40 : Int32)), .unset, .unset, .unset] [(.int xx), (.int (32 : Int32))]))
        refine hst (fun _ kt => XS.bipush X_4.here hx rfl (hb hby at_55) kt) ?_
        show G (T_4.setTop (mkF m 57 #[.val (.int sel), .val (.int xx), .val (.int (sel &&& (3 : Int32))), .val (.int (64 : Int32)), .val (.int (40 : Int32)), .unset, .unset, .unset] [(.int (63 : Int32)), (.int xx), (.int (32 : Int32))]))
        refine hst (fun _ kt => XS.iand X_4.here hx rfl (hb hby at_57) rfl kt) ?_
        show G (T_4.setTop (mkF m 58 #[.val (.int sel), .val (.int xx), .val (.int (sel &&& (3 : Int32))), .val (.int (64 : Int32)), .val (.int (40 : Int32)), .unset, .unset, .unset] [(.int (xx &&& (63 : Int32))), (.int (32 : Int32))]))
        refine hst (fun _ kt => XS.iadd X_4.here hx rfl (hb hby at_58) rfl kt) ?_
        show G (T_4.setTop (mkF m 59 #[.val (.int sel), .val (.int xx), .val (.int (sel &&& (3 : Int32))), .val (.int (64 : Int32)), .val (.int (40 : Int32)), .unset, .unset, .unset] [(.int ((32 : Int32) + (xx &&& (63 : Int32))))]))
        refine hst (fun _ kt => XS.istore X_4.here hx rfl (hb hby at_59) rfl (l' := #[.val (.int sel), .val (.int xx), .val (.int (sel &&& (3 : Int32))), .val (.int (64 : Int32)), .val (.int (40 : Int32)), .val (.int ((32 : Int32) + (xx &&& (63 : Int32)))), .unset, .unset]) rfl kt) ?_
        show G (T_4.setTop (mkF m 61 #[.val (.int sel), .val (.int xx), .val (.int (sel &&& (3 : Int32))), .val (.int (64 : Int32)), .val (.int (40 : Int32)), .val (.int ((32 : Int32) + (xx &&& (63 : Int32)))), .unset, .unset] []))
        exact J61 _
set_option maxRecDepth 65536 in
set_option maxHeartbeats 40000000 in
theorem comes_1 {Post : Tables → Env → Array Value → State → Outcome → State → Prop} (hpost : ∀ tb e args s v u, (limb_1_1.after args s (.returned v) u = true ∧ limb_1_2.after args s (.returned v) u = true ∧ True) → FrameEnd s (.returned v) u (Jvm.fieldLocs frame_1_writes args s ++ Jvm.arrayLocs frame_1_arrays args s ++ Jvm.staticLocs frame_1_statics s) 16 128 → Post tb e args s (.returned v) u) :
    ArmFor flags0 classFile x code maxLocals ret World_1 tables_1 room_1 Calls_1 rest_1 Pre_1 Post := by
  intro l hfl _ _ p e ha hc hk s m args below hf hA hF happ hP
  obtain ⟨hcalls, hrest, hpre⟩ := hP
  obtain ⟨-, -, -, hnamed, -, -, -, hat⟩ := (Spec.applies_iff hf).mp happ
  obtain ⟨hg, hn⟩ := and_e (Cond.before_iff.mp (show (Jvm.Cond.and given_1 narrow_1).before args s = true from hpre))
  obtain ⟨gc, g0⟩ := and_e hg
  obtain ⟨ga0, g1⟩ := and_e g0
  obtain ⟨w0, w1, rfl⟩ : ∃ w0 w1 : Value, args = #[w0, w1] := by
    have hs : args.size = 2 := by simpa [Cond.value, given_1] using gc
    obtain ⟨L⟩ := args
    match L, hs with
    | [w0, w1], _ => exact ⟨w0, w1, rfl⟩
  have hw := fun d (hd : d ∈ tables_1) => atoms_spec (ws := Jvm.Cond.code x code maxLocals ret :: tables_1) hat d (List.mem_cons_of_mem _ hd)
  have hfit : Fit s := fun {y c} hc i hi => by
    obtain ⟨ha, rfl⟩ := Array.getElem?_eq_some_iff.mp hc
    have q := List.all_eq_true.mp ((Array.all_eq_true_iff_forall_mem.mp hF) _ (Array.getElem_mem ha)) i (List.mem_range.mpr hi)
    simpa [Array.getElem?_eq_getElem hi] using q
  obtain ⟨hsets, hown0⟩ := atoms_of _ (rest_1_c_eq ▸ (show rest_1_c.before _ s = true from hrest))
  have hr0 := Cond.before_iff.mp hown0
  obtain ⟨i0, ei0⟩ := is_v ga0
  obtain rfl : w0 = (.int i0) := Option.some.inj ei0
  obtain ⟨i1, ei1⟩ := is_v g1
  obtain rfl : w1 = (.int i1) := Option.some.inj ei1
  obtain ⟨n1, m1⟩ := and_e hn
  obtain ⟨n2, m2⟩ := and_e m1
  obtain ⟨n3, m3⟩ := and_e m2
  obtain ⟨n4, m4⟩ := and_e m3
  obtain ⟨n5, m5⟩ := and_e m4
  obtain ⟨n6, m6⟩ := and_e m5
  obtain ⟨n7, m7⟩ := and_e m6
  obtain ⟨n8, n9⟩ := and_e m7
  obtain ⟨a1, ev1⟩ := exa_v n1
  obtain ⟨a2, ev2⟩ := exa_v n3
  obtain ⟨bv, ev3⟩ := exa_v n6
  have hs0 := Cond.before_iff.mp (hsets _ (List.mem_of_getElem? (i := 2) rfl))
  have hs1 := Cond.before_iff.mp (hsets _ (List.mem_of_getElem? (i := 3) rfl))
  obtain ⟨oe, ev4⟩ := exa_v hs0
  have E_a1 := Exa.start ev1 n1
  have E_a2 := Exa.start ev2 n3
  have E_bv := Exa.start ev3 n6
  have E_oe := Exa.start ev4 hs0
  have F1 := own_fldI n2 ev1
  have F2 := own_fldI n4 ev2
  have F3 := own_fldN hs1 ev4
  have S_1 := Sta.start ev1 (Or.inr ⟨(own_w1 hw), (own_w2 hw)⟩)
  have S_2 := Sta.start ev2 (Or.inr ⟨(own_w1 hw), (own_w11 hw)⟩)
  have S_v := Sta.start ev3 (Or.inr ⟨(own_w1 hw), (own_w21 hw)⟩)
  have S_e := Sta.start ev4 (Or.inl (hsets _ (List.mem_of_getElem? (i := 1) rfl)))
  obtain ⟨kv, V_bv⟩ := own_vals hfit ev3 n5 n7 n8 n9 ev1 ev2
  obtain ⟨n, o, h1, h2, h3, _, L, rfl, ⟨rfl, N⟩, hq⟩ := rm0 l s _ hw tables_1 i0 i1 a1 a2 bv kv oe s.heap s.heap.size (Nat.le_refl _) S_v E_bv V_bv F1 F2 S_e E_oe F3 S_1 S_2 E_a1 E_a2 p e ha hc hk s m _ below hf ((Spec.applies_iff_loose hf).mp happ).1 ⟨rfl, State.Warmed39.refl s, rfl⟩ trivial
  refine ⟨n, _, h1, h2, h3, hpost _ _ _ _ _ _ ⟨Cond.after_iff.mpr rfl, Cond.after_iff.mpr (eq_i res_at (Term.int_eval (1)) rfl), trivial⟩ ⟨hq.1, hq.2.1, (hq.2.2.sift fun y hy => Or.inr (N y hy)).mono (by decide) (by decide)⟩⟩
theorem main_1_1 : Claimed_1_1 := comes_1 fun _ _ _ _ _ _ h hF => ⟨h.1, hF⟩
theorem main_1_2 : Claimed_1_2 := comes_1 fun _ _ _ _ _ _ h hF => ⟨h.2.1, hF⟩
end Jvm.Pilot.@@N@@
namespace Jvm.Pilot.@@N@@
open Jvm Jvm.ClassFile Sem Op Lib Jvm.Free Jvm.Stand Jvm.Pilot.@@N@@.Jvm.D
/-! MADE BY PROGRAM (witnessworld.py) out of the Statement's table words and the real class files: 17 classes; the members and pool entries that the words name. The judged class is class 1, her method 1. -/
namespace start1
open Jvm.ClassFile
def u (s : String) : CpInfo := .utf8 (stringToUtf16 s)
/-- a pool by its gaps: so many unusable entries, then the entry; so many at the end -/
def gap : Nat → List CpInfo → List CpInfo
  | 0, r => r
  | n + 1, r => .unusable :: gap n r
def poolList (es : List (Nat × CpInfo)) (last : Nat) : List CpInfo := es.foldr (fun e r => gap e.1 (e.2 :: r)) (gap last [])
def pool (es : List (Nat × CpInfo)) (last : Nat) : Array CpInfo := ⟨poolList es last⟩
def fileOf (pool : Array CpInfo) (this : Nat) (attrs : Array Attribute := #[]) (ms : Array MethodInfo := #[]) (fl : Nat := 33) (sup : Nat := 0) (ifs : Array Nat := #[]) (fds : Array FieldInfo := #[]) : ClassFile where
  minorVersion := 0
  majorVersion := 65
  constantPool := pool
  accessFlags := fl
  thisClass := this
  superClass := sup
  interfaces := ifs
  fields := fds
  methods := ms
  attributes := attrs
def plain (name : String) (sup : Option ClassId) : Class where
  name := name
  kind := .ordinary
  loader := none
  accessFlags := 33
  super := sup
  interfaces := #[]
  cf := none
  fields := #[]
  methods := #[]
  instanceTypes := #[]
  staticTypes := #[]
  resolved := #[]
  callSites := []
  init := .initialized
  statics := none
  mirror := none

def pool0 : Array CpInfo := pool [(5, u "<init>"), (0, u "()V"), (1, .class_ 10), (1, u "java/lang/Object"), (85, u "clone"), (0, u "()Ljava/lang/Object;")] 26

def k0c0 : Code := { maxStack := 0, maxLocals := 1, code := object_method_1_code, exceptionTable := #[], attributes := #[] }
def k0m0 : Method := { name := "<init>", desc := "()V", sig := { parameters := [], returnType := none }, accessFlags := 1, code := some k0c0 }
def k0m1 : Method := { name := "clone", desc := "()Ljava/lang/Object;", sig := { parameters := [], returnType := some (.object "java/lang/Object") }, accessFlags := 260, code := none }
/-- java/lang/Object -/
def k0 : Class := { plain "java/lang/Object" none with
  accessFlags := 33
  interfaces := #[]
  cf := some (fileOf pool0 8 #[] #[{ accessFlags := 1, nameIndex := 5, descriptorIndex := 6, attributes := #[] }, { accessFlags := 260, nameIndex := 96, descriptorIndex := 97, attributes := #[] }] 33 0 #[] #[])
  fields := #[]
  methods := #[k0m0, k0m1]
  instanceTypes := #[]
  staticTypes := #[]
  resolved := Array.replicate 124 none
  statics := none }

def pool1 : Array CpInfo := pool [(2, .class_ 4), (1, u "java/lang/Object"), (0, u "<init>"), (0, u "()V"), (0, .fieldref 8 9), (0, .class_ 10), (0, .nameAndType 11 12), (0, u "com/example/breachd/breachd/hash/BlacklistHashForm"), (0, u "SHA256"), (0, u "Lcom/example/breachd/breachd/hash/BlacklistHashForm;"), (0, .methodref 8 14), (0, .nameAndType 15 16), (0, u "hexLength"), (0, u "()I"), (0, .fieldref 8 18), (0, .nameAndType 19 12), (0, u "PBKDF2"), (0, .methodref 8 21), (0, .nameAndType 22 23), (0, u "forHexLength"), (0, u "(I)Ljava/util/Optional;"), (0, .methodref 25 26), (0, .class_ 27), (0, .nameAndType 28 29), (0, u "java/util/Optional"), (0, u "orElse"), (0, u "(Ljava/lang/Object;)Ljava/lang/Object;"), (0, .class_ 31), (0, u "com/example/breachd/breachd/hash/BlacklistHashFormForHexLengthPinLaw"), (2, u "law"), (0, u "(II)Z")] 3

def k1m0 : Method := { name := "<init>", desc := "()V", sig := { parameters := [], returnType := none }, accessFlags := 1, code := none }
def k1c1 : Code := { maxStack := 3, maxLocals := 8, code := code, exceptionTable := #[], attributes := #[] }
def k1m1 : Method := { name := "law", desc := "(II)Z", sig := { parameters := [.int, .int], returnType := some .boolean }, accessFlags := 9, code := some k1c1 }
/-- com/example/breachd/breachd/hash/BlacklistHashFormForHexLengthPinLaw -/
def k1 : Class := { plain "com/example/breachd/breachd/hash/BlacklistHashFormForHexLengthPinLaw" (some 0) with
  accessFlags := 49
  interfaces := #[]
  cf := some (fileOf pool1 30 #[] #[{ accessFlags := 1, nameIndex := 5, descriptorIndex := 6, attributes := #[] }, { accessFlags := 9, nameIndex := 34, descriptorIndex := 35, attributes := #[] }] 49 2 #[] #[])
  fields := #[]
  methods := #[k1m0, k1m1]
  instanceTypes := #[]
  staticTypes := #[]
  resolved := Array.replicate 39 none
  statics := none }

def pool2 : Array CpInfo := pool [(1, .class_ 2), (0, u "java/lang/constant/Constable"), (0, .class_ 4), (0, u "java/lang/Object")] 6

/-- java/lang/constant/Constable -/
def k2 : Class := { plain "java/lang/constant/Constable" (some 0) with
  accessFlags := 1537
  interfaces := #[]
  cf := some (fileOf pool2 1 #[] #[] 1537 3 #[] #[])
  fields := #[]
  methods := #[]
  instanceTypes := #[]
  staticTypes := #[]
  resolved := Array.replicate 11 none
  statics := none }

def pool3 : Array CpInfo := pool [(1, .class_ 2), (0, u "java/lang/Comparable"), (0, .class_ 4), (0, u "java/lang/Object")] 7

/-- java/lang/Comparable -/
def k3 : Class := { plain "java/lang/Comparable" (some 0) with
  accessFlags := 1537
  interfaces := #[]
  cf := some (fileOf pool3 1 #[] #[] 1537 3 #[] #[])
  fields := #[]
  methods := #[]
  instanceTypes := #[]
  staticTypes := #[]
  resolved := Array.replicate 12 none
  statics := none }

def pool4 : Array CpInfo := pool [(1, .class_ 2), (0, u "java/io/Serializable"), (0, .class_ 4), (0, u "java/lang/Object")] 2

/-- java/io/Serializable -/
def k4 : Class := { plain "java/io/Serializable" (some 0) with
  accessFlags := 1537
  interfaces := #[]
  cf := some (fileOf pool4 1 #[] #[] 1537 3 #[] #[])
  fields := #[]
  methods := #[]
  instanceTypes := #[]
  staticTypes := #[]
  resolved := Array.replicate 7 none
  statics := none }

def pool5 : Array CpInfo := pool [(2, .class_ 4), (1, u "java/lang/Enum"), (0, u "name"), (0, u "Ljava/lang/String;"), (2, u "ordinal"), (0, u "I"), (1, .class_ 14), (1, u "java/lang/Object"), (4, u "hash"), (86, .class_ 108), (1, u "java/lang/Enum$EnumDesc"), (2, .class_ 112), (0, u "java/lang/constant/Constable"), (0, .class_ 114), (0, u "java/lang/Comparable"), (0, .class_ 116), (0, u "java/io/Serializable")] 87

/-- java/lang/Enum -/
def k5 : Class := { plain "java/lang/Enum" (some 0) with
  accessFlags := 1057
  interfaces := #[2, 3, 4]
  cf := some (fileOf pool5 2 #[.nestMembers #[106]] #[] 1057 12 #[111, 113, 115] #[{ accessFlags := 18, nameIndex := 5, descriptorIndex := 6, attributes := #[] }, { accessFlags := 18, nameIndex := 9, descriptorIndex := 10, attributes := #[] }, { accessFlags := 2, nameIndex := 19, descriptorIndex := 10, attributes := #[] }])
  fields := #[{ name := "name", type := (.object "java/lang/String"), accessFlags := 18, slot := 0, constantValue := 0 }, { name := "ordinal", type := .int, accessFlags := 18, slot := 1, constantValue := 0 }, { name := "hash", type := .int, accessFlags := 2, slot := 2, constantValue := 0 }]
  methods := #[]
  instanceTypes := #[(.object "java/lang/String"), .int, .int]
  staticTypes := #[]
  resolved := Array.replicate 204 none
  statics := none }

def pool6 : Array CpInfo := pool [(1, .class_ 2), (0, u "com/example/breachd/breachd/hash/BlacklistHashForm"), (2, u "SHA256"), (0, u "Lcom/example/breachd/breachd/hash/BlacklistHashForm;"), (2, u "PBKDF2"), (0, .fieldref 1 11), (0, .nameAndType 12 13), (0, u "$VALUES"), (0, u "[Lcom/example/breachd/breachd/hash/BlacklistHashForm;"), (0, .methodref 15 16), (0, .class_ 13), (0, .nameAndType 17 18), (0, u "clone"), (0, u "()Ljava/lang/Object;"), (1, .class_ 22), (1, u "java/lang/Enum"), (8, u "typeName"), (0, u "Ljava/lang/String;"), (0, .fieldref 1 34), (0, .nameAndType 35 36), (0, u "hexLength"), (0, u "I"), (18, u "of"), (23, .methodref 1 80), (0, .nameAndType 81 82), (0, u "values"), (0, u "()[Lcom/example/breachd/breachd/hash/BlacklistHashForm;"), (4, .methodref 88 89), (0, .class_ 90), (0, .nameAndType 55 91), (0, u "java/util/Optional"), (0, u "(Ljava/lang/Object;)Ljava/util/Optional;"), (0, .methodref 88 93), (0, .nameAndType 94 95), (0, u "empty"), (0, u "()Ljava/util/Optional;"), (0, .class_ 97), (0, u "com/example/breachd/breachd/hash/BlacklistHashForm$1"), (6, .class_ 105), (0, u "com/example/breachd/breachd/hash/BlacklistHashForm$2"), (7, u "PREFIX_LENGTH"), (2, u "SALT"), (0, u "PBKDF2_ITERATIONS"), (1, u "PBKDF2_BITS"), (10, u "()I"), (6, u "forHexLength"), (0, u "(I)Ljava/util/Optional;")] 23

def k6c0 : Code := { maxStack := 1, maxLocals := 0, code := prog_1_method_1_code, exceptionTable := #[], attributes := #[] }
def k6m0 : Method := { name := "values", desc := "()[Lcom/example/breachd/breachd/hash/BlacklistHashForm;", sig := { parameters := [], returnType := some (.array (.object "com/example/breachd/breachd/hash/BlacklistHashForm")) }, accessFlags := 9, code := some k6c0 }
def k6c1 : Code := { maxStack := 1, maxLocals := 1, code := prog_1_method_7_code, exceptionTable := #[], attributes := #[] }
def k6m1 : Method := { name := "hexLength", desc := "()I", sig := { parameters := [], returnType := some .int }, accessFlags := 1, code := some k6c1 }
def k6c2 : Code := { maxStack := 2, maxLocals := 5, code := prog_1_method_12_code, exceptionTable := #[], attributes := #[] }
def k6m2 : Method := { name := "forHexLength", desc := "(I)Ljava/util/Optional;", sig := { parameters := [.int], returnType := some (.object "java/util/Optional") }, accessFlags := 9, code := some k6c2 }
/-- com/example/breachd/breachd/hash/BlacklistHashForm -/
def k6 : Class := { plain "com/example/breachd/breachd/hash/BlacklistHashForm" (some 5) with
  accessFlags := 17441
  interfaces := #[]
  cf := some (fileOf pool6 1 #[.nestMembers #[104, 96]] #[{ accessFlags := 9, nameIndex := 81, descriptorIndex := 82, attributes := #[] }, { accessFlags := 1, nameIndex := 35, descriptorIndex := 130, attributes := #[] }, { accessFlags := 9, nameIndex := 137, descriptorIndex := 138, attributes := #[] }] 17441 20 #[] #[{ accessFlags := 16409, nameIndex := 5, descriptorIndex := 6, attributes := #[] }, { accessFlags := 16409, nameIndex := 9, descriptorIndex := 6, attributes := #[] }, { accessFlags := 25, nameIndex := 113, descriptorIndex := 36, attributes := #[] }, { accessFlags := 26, nameIndex := 116, descriptorIndex := 32, attributes := #[] }, { accessFlags := 26, nameIndex := 117, descriptorIndex := 36, attributes := #[] }, { accessFlags := 26, nameIndex := 119, descriptorIndex := 36, attributes := #[] }, { accessFlags := 18, nameIndex := 31, descriptorIndex := 32, attributes := #[] }, { accessFlags := 18, nameIndex := 35, descriptorIndex := 36, attributes := #[] }, { accessFlags := 4122, nameIndex := 12, descriptorIndex := 13, attributes := #[] }])
  fields := #[{ name := "SHA256", type := (.object "com/example/breachd/breachd/hash/BlacklistHashForm"), accessFlags := 16409, slot := 0, constantValue := 0 }, { name := "PBKDF2", type := (.object "com/example/breachd/breachd/hash/BlacklistHashForm"), accessFlags := 16409, slot := 1, constantValue := 0 }, { name := "PREFIX_LENGTH", type := .int, accessFlags := 25, slot := 2, constantValue := 0 }, { name := "SALT", type := (.object "java/lang/String"), accessFlags := 26, slot := 3, constantValue := 0 }, { name := "PBKDF2_ITERATIONS", type := .int, accessFlags := 26, slot := 4, constantValue := 0 }, { name := "PBKDF2_BITS", type := .int, accessFlags := 26, slot := 5, constantValue := 0 }, { name := "typeName", type := (.object "java/lang/String"), accessFlags := 18, slot := 3, constantValue := 0 }, { name := "hexLength", type := .int, accessFlags := 18, slot := 4, constantValue := 0 }, { name := "$VALUES", type := (.array (.object "com/example/breachd/breachd/hash/BlacklistHashForm")), accessFlags := 4122, slot := 6, constantValue := 0 }]
  methods := #[k6m0, k6m1, k6m2]
  instanceTypes := #[(.object "java/lang/String"), .int, .int, (.object "java/lang/String"), .int]
  staticTypes := #[(.object "com/example/breachd/breachd/hash/BlacklistHashForm"), (.object "com/example/breachd/breachd/hash/BlacklistHashForm"), .int, (.object "java/lang/String"), .int, .int, (.array (.object "com/example/breachd/breachd/hash/BlacklistHashForm"))]
  resolved := Array.replicate 162 none
  statics := some 0 }

def pool7 : Array CpInfo := pool [(1, .class_ 2), (0, u "com/example/breachd/breachd/hash/BlacklistHashForm"), (18, .class_ 22), (0, u "com/example/breachd/breachd/hash/BlacklistHashForm$1")] 23

/-- com/example/breachd/breachd/hash/BlacklistHashForm$1 -/
def k7 : Class := { plain "com/example/breachd/breachd/hash/BlacklistHashForm$1" (some 6) with
  accessFlags := 16432
  interfaces := #[]
  cf := some (fileOf pool7 21 #[.nestHost 1] #[] 16432 1 #[] #[])
  fields := #[]
  methods := #[]
  instanceTypes := #[(.object "java/lang/String"), .int, .int, (.object "java/lang/String"), .int]
  staticTypes := #[]
  resolved := Array.replicate 46 none
  statics := none }

def pool8 : Array CpInfo := pool [(1, .class_ 2), (0, u "com/example/breachd/breachd/hash/BlacklistHashForm"), (36, .class_ 40), (0, u "com/example/breachd/breachd/hash/BlacklistHashForm$2")] 13

/-- com/example/breachd/breachd/hash/BlacklistHashForm$2 -/
def k8 : Class := { plain "com/example/breachd/breachd/hash/BlacklistHashForm$2" (some 6) with
  accessFlags := 16432
  interfaces := #[]
  cf := some (fileOf pool8 39 #[.nestHost 1] #[] 16432 1 #[] #[])
  fields := #[]
  methods := #[]
  instanceTypes := #[(.object "java/lang/String"), .int, .int, (.object "java/lang/String"), .int]
  staticTypes := #[]
  resolved := Array.replicate 54 none
  statics := none }

def pool9 : Array CpInfo := pool [(1, .class_ 2), (0, u "java/lang/Cloneable"), (0, .class_ 4), (0, u "java/lang/Object")] 2

/-- java/lang/Cloneable -/
def k9 : Class := { plain "java/lang/Cloneable" (some 0) with
  accessFlags := 1537
  interfaces := #[]
  cf := some (fileOf pool9 1 #[] #[] 1537 3 #[] #[])
  fields := #[]
  methods := #[]
  instanceTypes := #[]
  staticTypes := #[]
  resolved := Array.replicate 7 none
  statics := none }

def pool10 : Array CpInfo := pool [(1, .fieldref 2 3), (0, .class_ 4), (0, .nameAndType 5 6), (0, u "java/util/Optional"), (0, u "EMPTY"), (0, u "Ljava/util/Optional;"), (0, .methodref 8 9), (0, .class_ 10), (0, .nameAndType 11 12), (0, u "java/lang/Object"), (0, u "<init>"), (0, u "()V"), (0, .fieldref 2 14), (0, .nameAndType 15 16), (0, u "value"), (0, u "Ljava/lang/Object;"), (0, .methodref 18 19), (0, .class_ 20), (0, .nameAndType 21 22), (0, u "java/util/Objects"), (0, u "requireNonNull"), (0, u "(Ljava/lang/Object;)Ljava/lang/Object;"), (0, .methodref 2 24), (0, .nameAndType 11 25), (0, u "(Ljava/lang/Object;)V"), (29, u "empty"), (0, u "()Ljava/util/Optional;"), (8, u "(Ljava/lang/Object;)Ljava/util/Optional;"), (16, u "of"), (82, u "orElse")] 21

def k10c0 : Code := { maxStack := 1, maxLocals := 1, code := jdk_32_method_1_code, exceptionTable := #[], attributes := #[] }
def k10m0 : Method := { name := "empty", desc := "()Ljava/util/Optional;", sig := { parameters := [], returnType := some (.object "java/util/Optional") }, accessFlags := 9, code := some k10c0 }
def k10c1 : Code := { maxStack := 2, maxLocals := 2, code := jdk_32_method_2_code, exceptionTable := #[], attributes := #[] }
def k10m1 : Method := { name := "<init>", desc := "(Ljava/lang/Object;)V", sig := { parameters := [(.object "java/lang/Object")], returnType := none }, accessFlags := 2, code := some k10c1 }
def k10c2 : Code := { maxStack := 3, maxLocals := 1, code := jdk_32_method_3_code, exceptionTable := #[], attributes := #[] }
def k10m2 : Method := { name := "of", desc := "(Ljava/lang/Object;)Ljava/util/Optional;", sig := { parameters := [(.object "java/lang/Object")], returnType := some (.object "java/util/Optional") }, accessFlags := 9, code := some k10c2 }
def k10c3 : Code := { maxStack := 1, maxLocals := 2, code := jdk_32_method_15_code, exceptionTable := #[], attributes := #[] }
def k10m3 : Method := { name := "orElse", desc := "(Ljava/lang/Object;)Ljava/lang/Object;", sig := { parameters := [(.object "java/lang/Object")], returnType := some (.object "java/lang/Object") }, accessFlags := 1, code := some k10c3 }
/-- java/util/Optional -/
def k10 : Class := { plain "java/util/Optional" (some 0) with
  accessFlags := 49
  interfaces := #[]
  cf := some (fileOf pool10 2 #[] #[{ accessFlags := 9, nameIndex := 55, descriptorIndex := 56, attributes := #[] }, { accessFlags := 2, nameIndex := 11, descriptorIndex := 25, attributes := #[] }, { accessFlags := 9, nameIndex := 82, descriptorIndex := 65, attributes := #[] }, { accessFlags := 1, nameIndex := 165, descriptorIndex := 22, attributes := #[] }] 49 8 #[] #[{ accessFlags := 26, nameIndex := 5, descriptorIndex := 6, attributes := #[] }, { accessFlags := 18, nameIndex := 15, descriptorIndex := 16, attributes := #[] }])
  fields := #[{ name := "EMPTY", type := (.object "java/util/Optional"), accessFlags := 26, slot := 0, constantValue := 0 }, { name := "value", type := (.object "java/lang/Object"), accessFlags := 18, slot := 0, constantValue := 0 }]
  methods := #[k10m0, k10m1, k10m2, k10m3]
  instanceTypes := #[(.object "java/lang/Object")]
  staticTypes := #[(.object "java/util/Optional")]
  resolved := Array.replicate 187 none
  statics := some 1 }

def pool11 : Array CpInfo := pool [(2, .class_ 4), (1, u "java/lang/Object"), (0, u "<init>"), (0, u "()V"), (35, .class_ 44), (1, u "java/util/Objects"), (0, u "requireNonNull"), (0, u "(Ljava/lang/Object;)Ljava/lang/Object;")] 137

def k11m0 : Method := { name := "<init>", desc := "()V", sig := { parameters := [], returnType := none }, accessFlags := 2, code := none }
def k11c1 : Code := { maxStack := 2, maxLocals := 1, code := jdk_31_method_10_code, exceptionTable := #[], attributes := #[] }
def k11m1 : Method := { name := "requireNonNull", desc := "(Ljava/lang/Object;)Ljava/lang/Object;", sig := { parameters := [(.object "java/lang/Object")], returnType := some (.object "java/lang/Object") }, accessFlags := 9, code := some k11c1 }
/-- java/util/Objects -/
def k11 : Class := { plain "java/util/Objects" (some 0) with
  accessFlags := 49
  interfaces := #[]
  cf := some (fileOf pool11 42 #[] #[{ accessFlags := 2, nameIndex := 5, descriptorIndex := 6, attributes := #[] }, { accessFlags := 9, nameIndex := 45, descriptorIndex := 46, attributes := #[] }] 49 2 #[] #[])
  fields := #[]
  methods := #[k11m0, k11m1]
  instanceTypes := #[]
  staticTypes := #[]
  resolved := Array.replicate 184 none
  statics := none }

/-- the primitive byte -/
def k12 : Class := { plain "byte" none with kind := .primitive 'B', accessFlags := 0x411 }
/-- [B -/
def k13 : Class := { plain "[B" (some 0) with kind := .array 12 .byte, interfaces := #[9, 4], accessFlags := 1041 }

/-- the primitive int -/
def k14 : Class := { plain "int" none with kind := .primitive 'I', accessFlags := 0x411 }
/-- [I -/
def k15 : Class := { plain "[I" (some 0) with kind := .array 14 .int, interfaces := #[9, 4], accessFlags := 1041 }

/-- [Lcom/example/breachd/breachd/hash/BlacklistHashForm; -/
def k16 : Class := { plain "[Lcom/example/breachd/breachd/hash/BlacklistHashForm;" (some 0) with kind := .array 6 (.object "com/example/breachd/breachd/hash/BlacklistHashForm"), interfaces := #[9, 4], accessFlags := 1041 }

def heap : Heap := #[{ cls := 6, slots := #[.ref 3, .ref 4, .int 0, .null, .int 0, .int 0, .ref 2], vm := .statics 6 },
  { cls := 10, slots := #[.ref 5], vm := .statics 10 },
  { cls := 16, slots := #[.ref 3, .ref 4], vm := .none },
  { cls := 7, slots := #[.null, .int 0, .int 0, .null, .int 64], vm := .none },
  { cls := 8, slots := #[.null, .int 1, .int 0, .null, .int 40], vm := .none },
  { cls := 10, slots := #[.null], vm := .none }]
def classes : Array Class := #[k0, k1, k2, k3, k4, k5, k6, k7, k8, k9, k10, k11, k12, k13, k14, k15, k16]
def interned : List (Array UInt16 × Addr) := []
def slotsUsed : Nat := 21
def theMethod : MethodId := ⟨1, 1⟩
def args0 : Array Value := #[.int 5, .int 7]
def aboutOver (below : List Frame) : State where
  vm := { classes := classes, interned := interned.toArray }
  heap := heap
  slotsUsed := slotsUsed
  threads := #[{ frames := .invoking theMethod args0 :: below }]
def below0 : List Frame := [.native { method := ⟨0, 0⟩, args := #[] }]
def about1 : State := aboutOver below0
def p0 : Program := .bare "" "" ""
def e0 : Env := launch0.env 0 0 0
theorem w_frames : about1.frames = Frame.invoking theMethod args0 :: below0 := rfl
set_option maxRecDepth 65536 in
theorem w_args : argsFit about1.vm theMethod args0 = true := by decide +kernel
set_option maxRecDepth 65536 in
theorem w_heap : heapFits about1 = true := by decide +kernel
set_option maxRecDepth 65536 in
theorem w_runnable : about1.curStatus? = some .runnable := by decide +kernel
set_option maxRecDepth 65536 in
theorem w_alone : about1.alone = true := by decide +kernel
set_option maxRecDepth 65536 in
theorem w_named : about1.methodNamed? x = some theMethod := by decide +kernel
set_option maxRecDepth 65536 in
theorem w_hears : about1.hears theMethod below0 = true := by decide +kernel
set_option maxRecDepth 65536 in
theorem w_ripe : about1.ripe theMethod args0 below0 = true := by decide +kernel
theorem w_running : about1.status = .running := rfl
set_option maxRecDepth 65536 in
theorem w_room : about1.hasRoom e0.platform room_1 = true :=
  launch0.hasRoom_least _ room_1 (by decide +kernel) (by decide +kernel) (by decide +kernel) (by decide +kernel) (by decide +kernel) (by decide +kernel)
theorem allAtoms_all (ts : List Jvm.Cond) (a : Array Jvm.Value) (st : Jvm.State) : (allAtoms ts).before a st = ts.all (fun c => c.before a st) := by
  induction ts with
  | nil => rfl
  | cons c t ih =>
    show (Jvm.Cond.and c (allAtoms t)).before a st = _
    rw [Jvm.Cond.before_and, ih, List.all_cons]
def words1 : List Jvm.Cond := Jvm.Cond.code x code maxLocals ret :: tables_1
/-- a 'code' word, met by the world's own term for the bytes: nothing is compared byte by byte -/
theorem code_word {y : MethodName} {bytes : ByteArray} {mx : Nat} {rt : Option FieldType} {a : Array Value} {s : State} {m : MethodId} {meth : Method} {c : Code} (h1 : s.methodNamed? y = some m) (h2 : s.vm.method? m = some meth) (h3 : meth.code = some c) (h4 : c.code = bytes)
    (h5 : (c.maxLocals == mx && c.exceptionTable.isEmpty && decide (c.maxStack ≤ mostOperands) && decide (meth.sig.returnType = rt) && !meth.locks && decide (parseMethodDescriptor y.desc = some meth.sig)) = true) : (Jvm.Cond.code y bytes mx rt).before a s = true := by
  simp only [Bool.and_eq_true, beq_iff_eq, Bool.not_eq_true', decide_eq_true_eq] at h5
  obtain ⟨⟨⟨⟨⟨g1, g2⟩, g3⟩, g4⟩, g5⟩, g6⟩ := h5
  simp [Cond.before, Cond.holds, Cond.value, h1, h2, h3, h4, g1, g2, g3, g4, g5, g6]
def isCode : Jvm.Cond → Bool
  | .code _ _ _ _ => true
  | _ => false
theorem all_split {L : List Jvm.Cond} {P : Jvm.Cond → Bool} (h1 : L.all (fun c => isCode c || P c) = true) (h2 : ∀ c ∈ L.filter isCode, P c = true) : L.all P = true := by
  refine List.all_eq_true.mpr fun c hc => ?_
  have h := List.all_eq_true.mp h1 c hc
  rcases Bool.eq_false_or_eq_true (isCode c) with hi | hi
  · exact h2 c (List.mem_filter.mpr ⟨hc, hi⟩)
  · simpa [hi] using h
set_option maxRecDepth 65536 in
theorem w_c0 : (Jvm.Cond.code x code maxLocals ret).before args0 about1 = true := code_word (m := ⟨1, 1⟩) (meth := k1m1) (c := k1c1) (by decide +kernel) rfl rfl rfl (by decide +kernel)
set_option maxRecDepth 65536 in
theorem w_c1 : (Jvm.Cond.code ({ cls := "com/example/breachd/breachd/hash/BlacklistHashForm", name := "hexLength", desc := "()I" } : Jvm.MethodName) prog_1_method_7_code (1 : Nat) (Option.some Jvm.ClassFile.FieldType.int)).before args0 about1 = true := code_word (m := ⟨6, 1⟩) (meth := k6m1) (c := k6c1) (by decide +kernel) rfl rfl rfl (by decide +kernel)
set_option maxRecDepth 65536 in
theorem w_c2 : (Jvm.Cond.code ({ cls := "com/example/breachd/breachd/hash/BlacklistHashForm", name := "forHexLength", desc := "(I)Ljava/util/Optional;" } : Jvm.MethodName) prog_1_method_12_code (5 : Nat) (Option.some (Jvm.ClassFile.FieldType.object "java/util/Optional"))).before args0 about1 = true := code_word (m := ⟨6, 2⟩) (meth := k6m2) (c := k6c2) (by decide +kernel) rfl rfl rfl (by decide +kernel)
set_option maxRecDepth 65536 in
theorem w_c3 : (Jvm.Cond.code ({ cls := "com/example/breachd/breachd/hash/BlacklistHashForm", name := "values", desc := "()[Lcom/example/breachd/breachd/hash/BlacklistHashForm;" } : Jvm.MethodName) prog_1_method_1_code (0 : Nat) (Option.some (Jvm.ClassFile.FieldType.array (Jvm.ClassFile.FieldType.object "com/example/breachd/breachd/hash/BlacklistHashForm")))).before args0 about1 = true := code_word (m := ⟨6, 0⟩) (meth := k6m0) (c := k6c0) (by decide +kernel) rfl rfl rfl (by decide +kernel)
set_option maxRecDepth 65536 in
theorem w_c4 : (Jvm.Cond.code ({ cls := "java/util/Optional", name := "of", desc := "(Ljava/lang/Object;)Ljava/util/Optional;" } : Jvm.MethodName) jdk_32_method_3_code (1 : Nat) (Option.some (Jvm.ClassFile.FieldType.object "java/util/Optional"))).before args0 about1 = true := code_word (m := ⟨10, 2⟩) (meth := k10m2) (c := k10c2) (by decide +kernel) rfl rfl rfl (by decide +kernel)
set_option maxRecDepth 65536 in
theorem w_c5 : (Jvm.Cond.code ({ cls := "java/util/Objects", name := "requireNonNull", desc := "(Ljava/lang/Object;)Ljava/lang/Object;" } : Jvm.MethodName) jdk_31_method_10_code (1 : Nat) (Option.some (Jvm.ClassFile.FieldType.object "java/lang/Object"))).before args0 about1 = true := code_word (m := ⟨11, 1⟩) (meth := k11m1) (c := k11c1) (by decide +kernel) rfl rfl rfl (by decide +kernel)
set_option maxRecDepth 65536 in
theorem w_c6 : (Jvm.Cond.code ({ cls := "java/util/Optional", name := "<init>", desc := "(Ljava/lang/Object;)V" } : Jvm.MethodName) jdk_32_method_2_code (2 : Nat) (Option.none : Option Jvm.ClassFile.FieldType)).before args0 about1 = true := code_word (m := ⟨10, 1⟩) (meth := k10m1) (c := k10c1) (by decide +kernel) rfl rfl rfl (by decide +kernel)
set_option maxRecDepth 65536 in
theorem w_c7 : (Jvm.Cond.code ({ cls := "java/lang/Object", name := "<init>", desc := "()V" } : Jvm.MethodName) object_method_1_code (1 : Nat) (Option.none : Option Jvm.ClassFile.FieldType)).before args0 about1 = true := code_word (m := ⟨0, 0⟩) (meth := k0m0) (c := k0c0) (by decide +kernel) rfl rfl rfl (by decide +kernel)
set_option maxRecDepth 65536 in
theorem w_c8 : (Jvm.Cond.code ({ cls := "java/util/Optional", name := "orElse", desc := "(Ljava/lang/Object;)Ljava/lang/Object;" } : Jvm.MethodName) jdk_32_method_15_code (2 : Nat) (Option.some (Jvm.ClassFile.FieldType.object "java/lang/Object"))).before args0 about1 = true := code_word (m := ⟨10, 3⟩) (meth := k10m3) (c := k10c3) (by decide +kernel) rfl rfl rfl (by decide +kernel)
set_option maxRecDepth 65536 in
theorem w_c9 : (Jvm.Cond.code ({ cls := "java/util/Optional", name := "empty", desc := "()Ljava/util/Optional;" } : Jvm.MethodName) jdk_32_method_1_code (1 : Nat) (Option.some (Jvm.ClassFile.FieldType.object "java/util/Optional"))).before args0 about1 = true := code_word (m := ⟨10, 0⟩) (meth := k10m0) (c := k10c0) (by decide +kernel) rfl rfl rfl (by decide +kernel)
def codes1 : List Jvm.Cond := [Jvm.Cond.code x code maxLocals ret, Jvm.Cond.code ({ cls := "com/example/breachd/breachd/hash/BlacklistHashForm", name := "hexLength", desc := "()I" } : Jvm.MethodName) prog_1_method_7_code (1 : Nat) (Option.some Jvm.ClassFile.FieldType.int), Jvm.Cond.code ({ cls := "com/example/breachd/breachd/hash/BlacklistHashForm", name := "forHexLength", desc := "(I)Ljava/util/Optional;" } : Jvm.MethodName) prog_1_method_12_code (5 : Nat) (Option.some (Jvm.ClassFile.FieldType.object "java/util/Optional")), Jvm.Cond.code ({ cls := "com/example/breachd/breachd/hash/BlacklistHashForm", name := "values", desc := "()[Lcom/example/breachd/breachd/hash/BlacklistHashForm;" } : Jvm.MethodName) prog_1_method_1_code (0 : Nat) (Option.some (Jvm.ClassFile.FieldType.array (Jvm.ClassFile.FieldType.object "com/example/breachd/breachd/hash/BlacklistHashForm"))), Jvm.Cond.code ({ cls := "java/util/Optional", name := "of", desc := "(Ljava/lang/Object;)Ljava/util/Optional;" } : Jvm.MethodName) jdk_32_method_3_code (1 : Nat) (Option.some (Jvm.ClassFile.FieldType.object "java/util/Optional")), Jvm.Cond.code ({ cls := "java/util/Objects", name := "requireNonNull", desc := "(Ljava/lang/Object;)Ljava/lang/Object;" } : Jvm.MethodName) jdk_31_method_10_code (1 : Nat) (Option.some (Jvm.ClassFile.FieldType.object "java/lang/Object")), Jvm.Cond.code ({ cls := "java/util/Optional", name := "<init>", desc := "(Ljava/lang/Object;)V" } : Jvm.MethodName) jdk_32_method_2_code (2 : Nat) (Option.none : Option Jvm.ClassFile.FieldType), Jvm.Cond.code ({ cls := "java/lang/Object", name := "<init>", desc := "()V" } : Jvm.MethodName) object_method_1_code (1 : Nat) (Option.none : Option Jvm.ClassFile.FieldType), Jvm.Cond.code ({ cls := "java/util/Optional", name := "orElse", desc := "(Ljava/lang/Object;)Ljava/lang/Object;" } : Jvm.MethodName) jdk_32_method_15_code (2 : Nat) (Option.some (Jvm.ClassFile.FieldType.object "java/lang/Object")), Jvm.Cond.code ({ cls := "java/util/Optional", name := "empty", desc := "()Ljava/util/Optional;" } : Jvm.MethodName) jdk_32_method_1_code (1 : Nat) (Option.some (Jvm.ClassFile.FieldType.object "java/util/Optional"))]
set_option maxRecDepth 65536 in
theorem codes_eq : words1.filter isCode = codes1 := rfl
theorem w_codes : ∀ c ∈ words1.filter isCode, c.before args0 about1 = true := by
  rw [codes_eq]
  intro c hc
  simp only [codes1, List.mem_cons, List.not_mem_nil, or_false] at hc
  rcases hc with rfl | rfl | rfl | rfl | rfl | rfl | rfl | rfl | rfl | rfl
  · exact w_c0
  · exact w_c1
  · exact w_c2
  · exact w_c3
  · exact w_c4
  · exact w_c5
  · exact w_c6
  · exact w_c7
  · exact w_c8
  · exact w_c9
set_option maxRecDepth 65536 in
theorem w_t1 : (words1.take 24).all (fun c => isCode c || c.before args0 about1) = true := by decide +kernel
set_option maxRecDepth 65536 in
theorem w_t2 : ((words1.drop 24).take 24).all (fun c => isCode c || c.before args0 about1) = true := by decide +kernel
set_option maxRecDepth 65536 in
theorem w_t3 : ((words1.drop 24).drop 24).all (fun c => isCode c || c.before args0 about1) = true := by decide +kernel
theorem w_tables : (allAtoms (Jvm.Cond.code x code maxLocals ret :: tables_1)).before args0 about1 = true := by
  rw [allAtoms_all]
  show words1.all (fun c => c.before args0 about1) = true
  refine all_split ?_ w_codes
  rw [← List.take_append_drop 24 words1, List.all_append, w_t1, ← List.take_append_drop 24 (words1.drop 24), List.all_append, w_t2, w_t3]
  rfl
set_option maxRecDepth 65536 in
theorem w_rest : rest_1_c.before args0 about1 = true := by decide +kernel
set_option maxRecDepth 65536 in
theorem w_case : (Jvm.Cond.and given_1 narrow_1).before args0 about1 = true := by decide +kernel
theorem w_applies : (headSpec (Jvm.Cond.code x code maxLocals ret :: tables_1) room_1).applies x e0.platform about1 = true :=
  (Spec.applies_iff w_frames).mpr ⟨w_running, w_runnable, w_alone, w_named, w_hears, w_ripe, w_room, w_tables⟩
theorem atStart : AtStart classFile x code maxLocals ret World_1 tables_1 room_1 Calls_1 rest_1 Pre_1 launch0 p0 e0 about1 theMethod args0 below0 :=
  ⟨lists_1, trivial, launch0.admits_env _ _ _, launch0.least_env, fairChoices_fair.cas, fairChoices_fair.clock, w_frames, w_args, w_heap, w_applies, trivial, w_rest, w_case⟩
end start1
theorem witness_1 : WitnessClaimed_1 := ⟨start1.p0, start1.e0, start1.about1, start1.theMethod, start1.args0, start1.below0, start1.atStart⟩
end Jvm.Pilot.@@N@@
