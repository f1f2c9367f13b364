import JvmDerived
import JvmDerived.Pilot.@@N@@Statement
import JvmDerived.Pilot.@@N@@Code
set_option linter.unusedVariables false
set_option linter.unusedSimpArgs false
namespace Jvm.Pilot.@@N@@
open Jvm Jvm.ClassFile Sem Op Lib Jvm.Free Jvm.Stand Jvm.LawKit Jvm.RoadKit Bundle Jvm.Pilot.@@N@@.Jvm.D
/-- from S on the run ends as Q says -/
def own_Go (p : Program) (e : Env) (below : List Frame) (s : State) (Q : Option Value → Heap → List Loc → Prop) (k n : Nat) (S : State) : Prop :=
  ∃ s₂ o, Steps p.tables e below S s₂ ∧ s₂.status = .running ∧ Ended s₂ below o ∧ ∃ v L, o = .returned v ∧ Q v s₂.heap L ∧ FrameEnd s o s₂ L k n
/-- the goal, as a predicate that is closed under steps -/
theorem own_abs (p : Program) (e : Env) (below : List Frame) (s : State) (Q : Option Value → Heap → List Loc → Prop) (k n : Nat) :
    ∃ G : State → Prop, (∀ {S : State}, G S → own_Go p e below s Q k n S) ∧ (∀ {S S' : State}, (∀ t, Steps p.tables e below S' t → Steps p.tables e below S t) → G S' → G S) ∧ (∀ {S : State}, own_Go p e below s Q k n S → G S) :=
  ⟨own_Go p e below s Q k n, fun h => h, fun h g => by obtain ⟨s2, o, h1, r⟩ := g; exact ⟨s2, o, h _ h1, r⟩, fun h => h⟩
section OwnEnd
variable {p : Program} {l : Launch} {e : Env} {R : Room} {s : State} {m : MethodId} {args : Array Value} {below : List Frame} {meth : Method} {c : Code} {T : State} {locs : List Loc} {cells slots : Nat} {Q : Option Value → Heap → List Loc → Prop} {k n : Nat}
theorem own_goRet (X : Stand p l e R s m args below meth c T locs cells slots) (hx : p.tables.exec = Jvm.exec) {pc : Nat} {Ls : Array Slot} {w : Value} {t : FieldType} {i : Instr} {rest : List Value} (hret : meth.sig.returnType = some t) (hn : narrow t w = w)
    (hi : (i = .ireturn ∧ (t = .int ∨ t = .boolean ∨ t = .byte ∨ t = .char ∨ t = .short) ∧ ∃ z, w = .int z) ∨ (i = .lreturn ∧ t = .long ∧ ∃ z, w = .long z) ∨ (i = .dreturn ∧ t = .double ∧ ∃ z, w = .double z) ∨ (i = .freturn ∧ t = .float ∧ ∃ z, w = .float z) ∨ (i = .areturn ∧ t.isReference = true ∧ w.isRef = true))
    (hd : decode c.code pc = .ok (i, 1)) (hlk : meth.locks = false) (hQ : Q (some w) T.heap locs) (hk : cells ≤ k) (hn' : slots ≤ n) : own_Go p e below s Q k n (T.setTop (mkF m pc Ls (w :: rest))) := by
  obtain ⟨fs, hr, hrun, hended, hW, hsame⟩ := X.leave (v := some w) (fun h => by rw [hret] at h; cases h) hlk
  exact ⟨_, _, retOut X hx hret hn hi hd hr, hrun, hended, _, _, rfl, hQ, ⟨_, rfl⟩, hW, hsame.mono hk hn'⟩
theorem own_goVoid (X : Stand p l e R s m args below meth c T locs cells slots) (hx : p.tables.exec = Jvm.exec) {pc : Nat} {Ls : Array Slot} (hret : meth.sig.returnType = none)
    (hd : decode c.code pc = .ok (.return_, 1)) (hlk : meth.locks = false) (hQ : Q none T.heap locs) (hk : cells ≤ k) (hn' : slots ≤ n) : own_Go p e below s Q k n (T.setTop (mkF m pc Ls [])) := by
  obtain ⟨fs, hr, hrun, hended, hW, hsame⟩ := X.leave (v := none) (fun _ => rfl) hlk
  exact ⟨_, _, X.returnOut hx hret hd hr, hrun, hended, _, _, rfl, hQ, ⟨_, rfl⟩, hW, hsame.mono hk hn'⟩
end OwnEnd
def own_GoW (p : Program) (e : Env) (below : List Frame) (s : State) (Q : Option Value → Heap → List Loc → Prop) (k n : Nat) (S : State) : Prop :=
  ∃ s₂ o, Steps p.tables e below S s₂ ∧ s₂.status = .running ∧ Ended s₂ below o ∧ ∃ v L, o = .returned v ∧ Q v s₂.heap L ∧ ReturnedEndW s o s₂ L k n
theorem own_absW (p : Program) (e : Env) (below : List Frame) (s : State) (Q : Option Value → Heap → List Loc → Prop) (k n : Nat) :
    ∃ G : State → Prop, (∀ {S : State}, G S → own_GoW p e below s Q k n S) ∧ (∀ {S S' : State}, (∀ t, Steps p.tables e below S' t → Steps p.tables e below S t) → G S' → G S) ∧ (∀ {S : State}, own_GoW p e below s Q k n S → G S) :=
  ⟨own_GoW p e below s Q k n, fun h => h, fun h g => by obtain ⟨s2, o, h1, r⟩ := g; exact ⟨s2, o, h _ h1, r⟩, fun h => h⟩
theorem own_goRetW {p : Program} {l : Launch} {e : Env} {R : Room} {s : State} {m : MethodId} {args : Array Value} {below : List Frame} {meth : Method} {c : Code} {T : State} {locs : List Loc} {cells slots : Nat} {Q : Option Value → Heap → List Loc → Prop} {k n : Nat} {vm₁ : Vm} {k1 : Nat} (X : Stand p l e R (s.setVm vm₁) m args below meth c T locs cells slots) (hS : s.Since vm₁ k1) (hk1 : k1 ≤ T.heap.size) (hx : p.tables.exec = Jvm.exec) {pc : Nat} {Ls : Array Slot} {w : Value} {t : FieldType} {i : Instr} {rest : List Value} (hret : meth.sig.returnType = some t) (hn : narrow t w = w)
    (hi : (i = .ireturn ∧ (t = .int ∨ t = .boolean ∨ t = .byte ∨ t = .char ∨ t = .short) ∧ ∃ z, w = .int z) ∨ (i = .lreturn ∧ t = .long ∧ ∃ z, w = .long z) ∨ (i = .dreturn ∧ t = .double ∧ ∃ z, w = .double z) ∨ (i = .freturn ∧ t = .float ∧ ∃ z, w = .float z) ∨ (i = .areturn ∧ t.isReference = true ∧ w.isRef = true))
    (hd : decode c.code pc = .ok (i, 1)) (hlk : meth.locks = false) (hQ : Q (some w) T.heap locs) (hk : cells ≤ k) (hn' : slots ≤ n) : own_GoW p e below s Q k n (T.setTop (mkF m pc Ls (w :: rest))) := by
  obtain ⟨fs, hr, hrun, hended, ⟨hv, hW, hB, hsame⟩⟩ := X.leaveW hS hk1 (v := some w) (fun h => by rw [hret] at h; cases h) hlk
  exact ⟨_, _, retOut X hx hret hn hi hd hr, hrun, hended, _, _, rfl, hQ, hv, hW, hB, hsame.mono hk hn'⟩
abbrev own_K : String := "com/example/splitpoint/splitpoint/keys/Key"
section OwnPure
variable {Z : State} {h h' : Heap} {a : Addr}
theorem own_arh {k : ClassId} {ty : FieldType} {z : Int32} {vs : List Value} {dv : Value} (F : Arv Z h a k ty z vs dv) : Arh Z h a k ty z [] vs dv := F
end OwnPure
def own_at (a i : Int32) : Int32 := ((a.toUInt32 >>> (((8 : Int32) * i) &&& 31).toUInt32).toInt32).toInt8.toInt32
def own_nb (a i : Int32) : Int32 := nar .byte (own_at a i)
theorem own_nb_eq (a i : Int32) : own_nb a i = own_at a i := by
  apply Int32.toInt_inj.mp
  have h1 := c_i2b (((a.toUInt32 >>> (((8 : Int32) * i) &&& 31).toUInt32).toInt32))
  have h2 := c_i2b (own_at a i)
  have e : own_nb a i = (own_at a i).toInt8.toInt32 := rfl
  rw [e]
  change _ ∧ -128 ≤ (own_at a i).toInt ∧ (own_at a i).toInt < 128 at h1
  omega
def own_In (n : Int32) : Prop := n = 0 ∨ n = 1 ∨ n = 2 ∨ n = 3 ∨ n = 4
def own_l (n a : Int32) : List Value := ([(.int (own_nb a 0)), (.int (own_nb a 1)), (.int (own_nb a 2)), (.int (own_nb a 3))] : List Value).take n.toNatClampNeg
theorem own_In_cap {n : Int32} (h : own_In n) : n.toNatClampNeg ≤ 4 := by rcases h with rfl | rfl | rfl | rfl | rfl <;> decide
theorem own_In_le {n : Int32} (h : own_In n) : ¬ (65535 : Int32) < n := by rcases h with rfl | rfl | rfl | rfl | rfl <;> decide
theorem own_In_mod (sel : Int32) : own_In ((sel &&& (2147483647 : Int32)) % (5 : Int32)) := by
  have h1 := c_mask sel 2147483647 31 (by decide) (by decide)
  simp only [Nat.reducePow] at h1
  have h2 := (c_irem (sel &&& (2147483647 : Int32)) 5 5 (by decide)).1 (by omega)
  have h3 : ((sel &&& (2147483647 : Int32)) % (5 : Int32)).toInt = 0 ∨ ((sel &&& (2147483647 : Int32)) % (5 : Int32)).toInt = 1 ∨ ((sel &&& (2147483647 : Int32)) % (5 : Int32)).toInt = 2 ∨ ((sel &&& (2147483647 : Int32)) % (5 : Int32)).toInt = 3 ∨ ((sel &&& (2147483647 : Int32)) % (5 : Int32)).toInt = 4 := by omega
  rcases h3 with h | h | h | h | h
  · exact Or.inl (Int32.toInt_inj.mp h)
  · exact Or.inr (Or.inl (Int32.toInt_inj.mp h))
  · exact Or.inr (Or.inr (Or.inl (Int32.toInt_inj.mp h)))
  · exact Or.inr (Or.inr (Or.inr (Or.inl (Int32.toInt_inj.mp h))))
  · exact Or.inr (Or.inr (Or.inr (Or.inr (Int32.toInt_inj.mp h))))
theorem own_idx (um n : Int32) (hn : own_In n) (h0 : (0 : Int32) < n) : ¬ ((um &&& (2147483647 : Int32)) % n) < 0 ∧ ((um &&& (2147483647 : Int32)) % n) < n := by
  have h1 := c_mask um 2147483647 31 (by decide) (by decide)
  simp only [Nat.reducePow] at h1
  rw [Int32.lt_iff_toInt_lt] at h0
  have e0 : (0 : Int32).toInt = 0 := rfl
  have h2 := (c_iremV (um &&& (2147483647 : Int32)) n).1 (by omega) (by omega)
  simp only [Int32.lt_iff_toInt_lt]
  omega
theorem own_nz {n : Int32} (h0 : (0 : Int32) < n) : n ≠ 0 := fun q => by subst q; exact absurd h0 (by decide)
theorem own_geti (n a : Int32) (k : Nat) : ∃ w : Int32, (own_l n a).getD k (.int (0 : Int32)) = .int w := by
  unfold own_l
  generalize n.toNatClampNeg = t
  rcases t with _ | _ | _ | _ | t <;> rcases k with _ | _ | _ | _ | k <;> first | exact ⟨_, rfl⟩ | exact ⟨0, by simp⟩
theorem own_In_nn {n : Int32} (h : own_In n) : ¬ n < 0 := by rcases h with rfl | rfl | rfl | rfl | rfl <;> decide
def own_QI (r : Int32) (h0 : Heap) (n0 : Nat) (v : Option Value) (h : Heap) (L : List Loc) : Prop := v = some (.int r) ∧ Fr n0 L ∧ h = h0
def own_QR (r : Addr) (h0 : Heap) (n0 : Nat) (v : Option Value) (h : Heap) (L : List Loc) : Prop := v = some (.ref r) ∧ Fr n0 L ∧ h = h0
def own_Qm (Z : State) (n a : Int32) (h0 : Heap) (n0 : Nat) (v : Option Value) (h : Heap) (L : List Loc) : Prop := ∃ (b : Addr) (k : ClassId), v = some (.ref b) ∧ Fr n0 L ∧ Keep h0 h [] ∧ n0 ≤ b ∧ h0.size ≤ b ∧ Exa Z h b "[B" ∧ Arv Z h b k .byte n (own_l n a) (.int (0 : Int32))
def own_Qi (Z : State) (o b : Addr) (h0 : Heap) (n0 : Nat) (v : Option Value) (h : Heap) (L : List Loc) : Prop := v = none ∧ Fr n0 L ∧ Keep h0 h [o] ∧ Exa Z h o own_K ∧ Fld Z h o own_K "bytes" "[B" (.ref b)
def own_Qc (Z : State) (b : Addr) (h0 : Heap) (n0 : Nat) (v : Option Value) (h : Heap) (L : List Loc) : Prop := ∃ o : Addr, v = some (.ref o) ∧ Fr n0 L ∧ Keep h0 h [] ∧ h0.size ≤ o ∧ Exa Z h o own_K ∧ Fld Z h o own_K "bytes" "[B" (.ref b)
def own_Qk (Z : State) (n a : Int32) (h0 : Heap) (n0 : Nat) (v : Option Value) (h : Heap) (L : List Loc) : Prop := ∃ (o b : Addr) (k : ClassId), v = some (.ref o) ∧ Fr n0 L ∧ Keep h0 h [] ∧ h0.size ≤ o ∧ h0.size ≤ b ∧ Exa Z h o own_K ∧ Fld Z h o own_K "bytes" "[B" (.ref b) ∧ Exa Z h b "[B" ∧ Arv Z h b k .byte n (own_l n a) (.int (0 : Int32))
def own_Q0 (n0 : Nat) (v : Option Value) (h : Heap) (L : List Loc) : Prop := v = some (.int (1 : Int32)) ∧ Fr n0 L
theorem own_w0 {Z : State} {a0 : Array Value} (hw : ∀ d ∈ tables_1, d.before a0 Z = true) : Jvm.Cond.before (Jvm.Cond.constant x.cls (13 : Nat) (2147483647 : Int32)) a0 Z = true := hw _ (List.mem_of_getElem? (i := 0) rfl)
theorem own_w1 {Z : State} {a0 : Array Value} (hw : ∀ d ∈ tables_1, d.before a0 Z = true) : Jvm.Cond.before (Jvm.Cond.methodLink x.cls (14 : Nat) ({ cls := x.cls, name := "make", desc := "(II)[B" } : Jvm.MethodName)) a0 Z = true := hw _ (List.mem_of_getElem? (i := 1) rfl)
theorem own_w2 {Z : State} {a0 : Array Value} (hw : ∀ d ∈ tables_1, d.before a0 Z = true) : Jvm.Cond.before (Jvm.Cond.static ({ cls := x.cls, name := "make", desc := "(II)[B" } : Jvm.MethodName)) a0 Z = true := hw _ (List.mem_of_getElem? (i := 2) rfl)
theorem own_w3 {Z : State} {a0 : Array Value} (hw : ∀ d ∈ tables_1, d.before a0 Z = true) : Jvm.Cond.before (Jvm.Cond.initialized x.cls) a0 Z = true := hw _ (List.mem_of_getElem? (i := 3) rfl)
theorem own_w4 {Z : State} {a0 : Array Value} (hw : ∀ d ∈ tables_1, d.before a0 Z = true) : Jvm.Cond.before (Jvm.Cond.code ({ cls := x.cls, name := "make", desc := "(II)[B" } : Jvm.MethodName) method_3_code (6 : Nat) (Option.some (Jvm.ClassFile.FieldType.array Jvm.ClassFile.FieldType.byte))) a0 Z = true := hw _ (List.mem_of_getElem? (i := 4) rfl)
theorem own_w5 {Z : State} {a0 : Array Value} (hw : ∀ d ∈ tables_1, d.before a0 Z = true) : Jvm.Cond.before (Jvm.Cond.methodLink x.cls (7 : Nat) ({ cls := x.cls, name := "at", desc := "(II)B" } : Jvm.MethodName)) a0 Z = true := hw _ (List.mem_of_getElem? (i := 5) rfl)
theorem own_w6 {Z : State} {a0 : Array Value} (hw : ∀ d ∈ tables_1, d.before a0 Z = true) : Jvm.Cond.before (Jvm.Cond.static ({ cls := x.cls, name := "at", desc := "(II)B" } : Jvm.MethodName)) a0 Z = true := hw _ (List.mem_of_getElem? (i := 6) rfl)
theorem own_w7 {Z : State} {a0 : Array Value} (hw : ∀ d ∈ tables_1, d.before a0 Z = true) : Jvm.Cond.before (Jvm.Cond.code ({ cls := x.cls, name := "at", desc := "(II)B" } : Jvm.MethodName) method_2_code (2 : Nat) (Option.some Jvm.ClassFile.FieldType.byte)) a0 Z = true := hw _ (List.mem_of_getElem? (i := 7) rfl)
theorem own_w8 {Z : State} {a0 : Array Value} (hw : ∀ d ∈ tables_1, d.before a0 Z = true) : Jvm.Cond.before (Jvm.Cond.arrayClass Jvm.ClassFile.FieldType.byte) a0 Z = true := hw _ (List.mem_of_getElem? (i := 8) rfl)
theorem own_w9 {Z : State} {a0 : Array Value} (hw : ∀ d ∈ tables_1, d.before a0 Z = true) : Jvm.Cond.before (Jvm.Cond.methodLink x.cls (18 : Nat) ({ cls := own_K, name := "of", desc := "([B)Lcom/example/splitpoint/splitpoint/keys/Key;" } : Jvm.MethodName)) a0 Z = true := hw _ (List.mem_of_getElem? (i := 9) rfl)
theorem own_w10 {Z : State} {a0 : Array Value} (hw : ∀ d ∈ tables_1, d.before a0 Z = true) : Jvm.Cond.before (Jvm.Cond.static ({ cls := own_K, name := "of", desc := "([B)Lcom/example/splitpoint/splitpoint/keys/Key;" } : Jvm.MethodName)) a0 Z = true := hw _ (List.mem_of_getElem? (i := 10) rfl)
theorem own_w11 {Z : State} {a0 : Array Value} (hw : ∀ d ∈ tables_1, d.before a0 Z = true) : Jvm.Cond.before (Jvm.Cond.initialized own_K) a0 Z = true := hw _ (List.mem_of_getElem? (i := 11) rfl)
theorem own_w12 {Z : State} {a0 : Array Value} (hw : ∀ d ∈ tables_1, d.before a0 Z = true) : Jvm.Cond.before (Jvm.Cond.code ({ cls := own_K, name := "of", desc := "([B)Lcom/example/splitpoint/splitpoint/keys/Key;" } : Jvm.MethodName) prog_4_method_2_code (1 : Nat) (Option.some (Jvm.ClassFile.FieldType.object own_K))) a0 Z = true := hw _ (List.mem_of_getElem? (i := 12) rfl)
theorem own_w13 {Z : State} {a0 : Array Value} (hw : ∀ d ∈ tables_1, d.before a0 Z = true) : Jvm.Cond.before (Jvm.Cond.stringLink own_K (13 : Nat) "bytes") a0 Z = true := hw _ (List.mem_of_getElem? (i := 13) rfl)
theorem own_w20 {Z : State} {a0 : Array Value} (hw : ∀ d ∈ tables_1, d.before a0 Z = true) : Jvm.Cond.before (Jvm.Cond.methodLink own_K (14 : Nat) ({ cls := "java/util/Objects", name := "requireNonNull", desc := "(Ljava/lang/Object;Ljava/lang/String;)Ljava/lang/Object;" } : Jvm.MethodName)) a0 Z = true := hw _ (List.mem_of_getElem? (i := 20) rfl)
theorem own_w21 {Z : State} {a0 : Array Value} (hw : ∀ d ∈ tables_1, d.before a0 Z = true) : Jvm.Cond.before (Jvm.Cond.static ({ cls := "java/util/Objects", name := "requireNonNull", desc := "(Ljava/lang/Object;Ljava/lang/String;)Ljava/lang/Object;" } : Jvm.MethodName)) a0 Z = true := hw _ (List.mem_of_getElem? (i := 21) rfl)
theorem own_w22 {Z : State} {a0 : Array Value} (hw : ∀ d ∈ tables_1, d.before a0 Z = true) : Jvm.Cond.before (Jvm.Cond.initialized "java/util/Objects") a0 Z = true := hw _ (List.mem_of_getElem? (i := 22) rfl)
theorem own_w23 {Z : State} {a0 : Array Value} (hw : ∀ d ∈ tables_1, d.before a0 Z = true) : Jvm.Cond.before (Jvm.Cond.code ({ cls := "java/util/Objects", name := "requireNonNull", desc := "(Ljava/lang/Object;Ljava/lang/String;)Ljava/lang/Object;" } : Jvm.MethodName) jdk_31_method_11_code (2 : Nat) (Option.some (Jvm.ClassFile.FieldType.object "java/lang/Object"))) a0 Z = true := hw _ (List.mem_of_getElem? (i := 23) rfl)
theorem own_w24 {Z : State} {a0 : Array Value} (hw : ∀ d ∈ tables_1, d.before a0 Z = true) : Jvm.Cond.before (Jvm.Cond.methodLink own_K (20 : Nat) ({ cls := "[B", name := "clone", desc := "()Ljava/lang/Object;" } : Jvm.MethodName)) a0 Z = true := hw _ (List.mem_of_getElem? (i := 24) rfl)
theorem own_w25 {Z : State} {a0 : Array Value} (hw : ∀ d ∈ tables_1, d.before a0 Z = true) : Jvm.Cond.before (Jvm.Cond.sameMethod "[B" "java/lang/Object" "clone" "()Ljava/lang/Object;") a0 Z = true := hw _ (List.mem_of_getElem? (i := 25) rfl)
theorem own_w27 {Z : State} {a0 : Array Value} (hw : ∀ d ∈ tables_1, d.before a0 Z = true) : Jvm.Cond.before (Jvm.Cond.instanceMethod ({ cls := "java/lang/Object", name := "clone", desc := "()Ljava/lang/Object;" } : Jvm.MethodName)) a0 Z = true := hw _ (List.mem_of_getElem? (i := 27) rfl)
theorem own_w28 {Z : State} {a0 : Array Value} (hw : ∀ d ∈ tables_1, d.before a0 Z = true) : Jvm.Cond.before (Jvm.Cond.selects "[B" ({ cls := "[B", name := "clone", desc := "()Ljava/lang/Object;" } : Jvm.MethodName) ({ cls := "java/lang/Object", name := "clone", desc := "()Ljava/lang/Object;" } : Jvm.MethodName)) a0 Z = true := hw _ (List.mem_of_getElem? (i := 28) rfl)
theorem own_w29 {Z : State} {a0 : Array Value} (hw : ∀ d ∈ tables_1, d.before a0 Z = true) : Jvm.Cond.before (Jvm.Cond.native ({ cls := "java/lang/Object", name := "clone", desc := "()Ljava/lang/Object;" } : Jvm.MethodName)) a0 Z = true := hw _ (List.mem_of_getElem? (i := 29) rfl)
theorem own_w30 {Z : State} {a0 : Array Value} (hw : ∀ d ∈ tables_1, d.before a0 Z = true) : Jvm.Cond.before (Jvm.Cond.castable "[B" "java/lang/Cloneable") a0 Z = true := hw _ (List.mem_of_getElem? (i := 30) rfl)
theorem own_w31 {Z : State} {a0 : Array Value} (hw : ∀ d ∈ tables_1, d.before a0 Z = true) : Jvm.Cond.before (Jvm.Cond.classLink own_K (21 : Nat) "[B") a0 Z = true := hw _ (List.mem_of_getElem? (i := 31) rfl)
theorem own_w33 {Z : State} {a0 : Array Value} (hw : ∀ d ∈ tables_1, d.before a0 Z = true) : Jvm.Cond.before (Jvm.Cond.methodLink own_K (25 : Nat) ({ cls := own_K, name := "checked", desc := "([B)Lcom/example/splitpoint/splitpoint/keys/Key;" } : Jvm.MethodName)) a0 Z = true := hw _ (List.mem_of_getElem? (i := 33) rfl)
theorem own_w34 {Z : State} {a0 : Array Value} (hw : ∀ d ∈ tables_1, d.before a0 Z = true) : Jvm.Cond.before (Jvm.Cond.static ({ cls := own_K, name := "checked", desc := "([B)Lcom/example/splitpoint/splitpoint/keys/Key;" } : Jvm.MethodName)) a0 Z = true := hw _ (List.mem_of_getElem? (i := 34) rfl)
theorem own_w35 {Z : State} {a0 : Array Value} (hw : ∀ d ∈ tables_1, d.before a0 Z = true) : Jvm.Cond.before (Jvm.Cond.code ({ cls := own_K, name := "checked", desc := "([B)Lcom/example/splitpoint/splitpoint/keys/Key;" } : Jvm.MethodName) prog_4_method_4_code (1 : Nat) (Option.some (Jvm.ClassFile.FieldType.object own_K))) a0 Z = true := hw _ (List.mem_of_getElem? (i := 35) rfl)
theorem own_w36 {Z : State} {a0 : Array Value} (hw : ∀ d ∈ tables_1, d.before a0 Z = true) : Jvm.Cond.before (Jvm.Cond.constant own_K (70 : Nat) (65535 : Int32)) a0 Z = true := hw _ (List.mem_of_getElem? (i := 36) rfl)
theorem own_w37 {Z : State} {a0 : Array Value} (hw : ∀ d ∈ tables_1, d.before a0 Z = true) : Jvm.Cond.before (Jvm.Cond.classLink own_K (8 : Nat) own_K) a0 Z = true := hw _ (List.mem_of_getElem? (i := 37) rfl)
theorem own_w38 {Z : State} {a0 : Array Value} (hw : ∀ d ∈ tables_1, d.before a0 Z = true) : Jvm.Cond.before (Jvm.Cond.instantiable own_K (1 : Nat)) a0 Z = true := hw _ (List.mem_of_getElem? (i := 38) rfl)
theorem own_w39 {Z : State} {a0 : Array Value} (hw : ∀ d ∈ tables_1, d.before a0 Z = true) : Jvm.Cond.before (Jvm.Cond.methodLink own_K (75 : Nat) ({ cls := own_K, name := "<init>", desc := "([B)V" } : Jvm.MethodName)) a0 Z = true := hw _ (List.mem_of_getElem? (i := 39) rfl)
theorem own_w40 {Z : State} {a0 : Array Value} (hw : ∀ d ∈ tables_1, d.before a0 Z = true) : Jvm.Cond.before (Jvm.Cond.instanceMethod ({ cls := own_K, name := "<init>", desc := "([B)V" } : Jvm.MethodName)) a0 Z = true := hw _ (List.mem_of_getElem? (i := 40) rfl)
theorem own_w41 {Z : State} {a0 : Array Value} (hw : ∀ d ∈ tables_1, d.before a0 Z = true) : Jvm.Cond.before (Jvm.Cond.code ({ cls := own_K, name := "<init>", desc := "([B)V" } : Jvm.MethodName) prog_4_method_1_code (2 : Nat) (Option.none : Option Jvm.ClassFile.FieldType)) a0 Z = true := hw _ (List.mem_of_getElem? (i := 41) rfl)
theorem own_w42 {Z : State} {a0 : Array Value} (hw : ∀ d ∈ tables_1, d.before a0 Z = true) : Jvm.Cond.before (Jvm.Cond.methodLink own_K (1 : Nat) ({ cls := "java/lang/Object", name := "<init>", desc := "()V" } : Jvm.MethodName)) a0 Z = true := hw _ (List.mem_of_getElem? (i := 42) rfl)
theorem own_w43 {Z : State} {a0 : Array Value} (hw : ∀ d ∈ tables_1, d.before a0 Z = true) : Jvm.Cond.before (Jvm.Cond.instanceMethod ({ cls := "java/lang/Object", name := "<init>", desc := "()V" } : Jvm.MethodName)) a0 Z = true := hw _ (List.mem_of_getElem? (i := 43) rfl)
theorem own_w44 {Z : State} {a0 : Array Value} (hw : ∀ d ∈ tables_1, d.before a0 Z = true) : Jvm.Cond.before (Jvm.Cond.code ({ cls := "java/lang/Object", name := "<init>", desc := "()V" } : Jvm.MethodName) object_method_1_code (1 : Nat) (Option.none : Option Jvm.ClassFile.FieldType)) a0 Z = true := hw _ (List.mem_of_getElem? (i := 44) rfl)
theorem own_w45 {Z : State} {a0 : Array Value} (hw : ∀ d ∈ tables_1, d.before a0 Z = true) : Jvm.Cond.before (Jvm.Cond.fieldLink own_K (7 : Nat) own_K "bytes" "[B") a0 Z = true := hw _ (List.mem_of_getElem? (i := 45) rfl)
theorem own_w46 {Z : State} {a0 : Array Value} (hw : ∀ d ∈ tables_1, d.before a0 Z = true) : Jvm.Cond.before (Jvm.Cond.laysFinal own_K own_K "bytes" "[B") a0 Z = true := hw _ (List.mem_of_getElem? (i := 46) rfl)
theorem own_w47 {Z : State} {a0 : Array Value} (hw : ∀ d ∈ tables_1, d.before a0 Z = true) : Jvm.Cond.before (Jvm.Cond.methodLink x.cls (24 : Nat) ({ cls := own_K, name := "length", desc := "()I" } : Jvm.MethodName)) a0 Z = true := hw _ (List.mem_of_getElem? (i := 47) rfl)
theorem own_w48 {Z : State} {a0 : Array Value} (hw : ∀ d ∈ tables_1, d.before a0 Z = true) : Jvm.Cond.before (Jvm.Cond.declares ({ cls := own_K, name := "length", desc := "()I" } : Jvm.MethodName)) a0 Z = true := hw _ (List.mem_of_getElem? (i := 48) rfl)
theorem own_w49 {Z : State} {a0 : Array Value} (hw : ∀ d ∈ tables_1, d.before a0 Z = true) : Jvm.Cond.before (Jvm.Cond.instanceMethod ({ cls := own_K, name := "length", desc := "()I" } : Jvm.MethodName)) a0 Z = true := hw _ (List.mem_of_getElem? (i := 49) rfl)
theorem own_w50 {Z : State} {a0 : Array Value} (hw : ∀ d ∈ tables_1, d.before a0 Z = true) : Jvm.Cond.before (Jvm.Cond.selects own_K ({ cls := own_K, name := "length", desc := "()I" } : Jvm.MethodName) ({ cls := own_K, name := "length", desc := "()I" } : Jvm.MethodName)) a0 Z = true := hw _ (List.mem_of_getElem? (i := 50) rfl)
theorem own_w51 {Z : State} {a0 : Array Value} (hw : ∀ d ∈ tables_1, d.before a0 Z = true) : Jvm.Cond.before (Jvm.Cond.code ({ cls := own_K, name := "length", desc := "()I" } : Jvm.MethodName) prog_4_method_5_code (1 : Nat) (Option.some Jvm.ClassFile.FieldType.int)) a0 Z = true := hw _ (List.mem_of_getElem? (i := 51) rfl)
theorem own_w52 {Z : State} {a0 : Array Value} (hw : ∀ d ∈ tables_1, d.before a0 Z = true) : Jvm.Cond.before (Jvm.Cond.methodLink x.cls (28 : Nat) ({ cls := own_K, name := "toBytes", desc := "()[B" } : Jvm.MethodName)) a0 Z = true := hw _ (List.mem_of_getElem? (i := 52) rfl)
theorem own_w53 {Z : State} {a0 : Array Value} (hw : ∀ d ∈ tables_1, d.before a0 Z = true) : Jvm.Cond.before (Jvm.Cond.declares ({ cls := own_K, name := "toBytes", desc := "()[B" } : Jvm.MethodName)) a0 Z = true := hw _ (List.mem_of_getElem? (i := 53) rfl)
theorem own_w54 {Z : State} {a0 : Array Value} (hw : ∀ d ∈ tables_1, d.before a0 Z = true) : Jvm.Cond.before (Jvm.Cond.instanceMethod ({ cls := own_K, name := "toBytes", desc := "()[B" } : Jvm.MethodName)) a0 Z = true := hw _ (List.mem_of_getElem? (i := 54) rfl)
theorem own_w55 {Z : State} {a0 : Array Value} (hw : ∀ d ∈ tables_1, d.before a0 Z = true) : Jvm.Cond.before (Jvm.Cond.selects own_K ({ cls := own_K, name := "toBytes", desc := "()[B" } : Jvm.MethodName) ({ cls := own_K, name := "toBytes", desc := "()[B" } : Jvm.MethodName)) a0 Z = true := hw _ (List.mem_of_getElem? (i := 55) rfl)
theorem own_w56 {Z : State} {a0 : Array Value} (hw : ∀ d ∈ tables_1, d.before a0 Z = true) : Jvm.Cond.before (Jvm.Cond.code ({ cls := own_K, name := "toBytes", desc := "()[B" } : Jvm.MethodName) prog_4_method_6_code (1 : Nat) (Option.some (Jvm.ClassFile.FieldType.array Jvm.ClassFile.FieldType.byte))) a0 Z = true := hw _ (List.mem_of_getElem? (i := 56) rfl)
theorem own_w57 {Z : State} {a0 : Array Value} (hw : ∀ d ∈ tables_1, d.before a0 Z = true) : Jvm.Cond.before (Jvm.Cond.methodLink x.cls (32 : Nat) ({ cls := x.cls, name := "same", desc := "([BII)Z" } : Jvm.MethodName)) a0 Z = true := hw _ (List.mem_of_getElem? (i := 57) rfl)
theorem own_w58 {Z : State} {a0 : Array Value} (hw : ∀ d ∈ tables_1, d.before a0 Z = true) : Jvm.Cond.before (Jvm.Cond.static ({ cls := x.cls, name := "same", desc := "([BII)Z" } : Jvm.MethodName)) a0 Z = true := hw _ (List.mem_of_getElem? (i := 58) rfl)
theorem own_w59 {Z : State} {a0 : Array Value} (hw : ∀ d ∈ tables_1, d.before a0 Z = true) : Jvm.Cond.before (Jvm.Cond.code ({ cls := x.cls, name := "same", desc := "([BII)Z" } : Jvm.MethodName) method_4_code (3 : Nat) (Option.some Jvm.ClassFile.FieldType.boolean)) a0 Z = true := hw _ (List.mem_of_getElem? (i := 59) rfl)
theorem pd_0 : parseMethodDescriptor "(II)B" = some ⟨[.int, .int], some .byte⟩ := by decide +kernel
theorem pd_1 : parseMethodDescriptor "([B)V" = some ⟨[(.array .byte)], none⟩ := by decide +kernel
theorem pd_2 : parseMethodDescriptor "(Ljava/lang/Object;Ljava/lang/String;)Ljava/lang/Object;" = some ⟨[(.object "java/lang/Object"), (.object "java/lang/String")], some (.object "java/lang/Object")⟩ := by decide +kernel
theorem pd_3 : parseMethodDescriptor "([B)Lcom/example/splitpoint/splitpoint/keys/Key;" = some ⟨[(.array .byte)], some (.object own_K)⟩ := by decide +kernel
theorem pd_4 : parseMethodDescriptor "(II)[B" = some ⟨[.int, .int], some (.array .byte)⟩ := by decide +kernel
theorem pd_5 : parseMethodDescriptor "()I" = some ⟨[], some .int⟩ := by decide +kernel
theorem pd_6 : parseMethodDescriptor "()[B" = some ⟨[], some (.array .byte)⟩ := by decide +kernel
theorem pd_7 : parseMethodDescriptor "([BII)Z" = some ⟨[(.array .byte), .int, .int], some .boolean⟩ := by decide +kernel
theorem d1_0 : decode method_2_code 0 = .ok (.iload_n 0, 1) := by decide +kernel
theorem d1_1 : decode method_2_code 1 = .ok (.bipush 8, 2) := by decide +kernel
theorem d1_3 : decode method_2_code 3 = .ok (.iload_n 1, 1) := by decide +kernel
theorem d1_4 : decode method_2_code 4 = .ok (.imul, 1) := by decide +kernel
theorem d1_5 : decode method_2_code 5 = .ok (.iushr, 1) := by decide +kernel
theorem d1_6 : decode method_2_code 6 = .ok (.i2b, 1) := by decide +kernel
theorem d1_7 : decode method_2_code 7 = .ok (.ireturn, 1) := by decide +kernel
theorem ef_1 (m : MethodId) (ua : Int32) (ui : Int32) : entryFrame m #[(.int ua), (.int ui)] 2 = mkF m 0 #[.val (.int ua), .val (.int ui)] [] := by first | (simp [entryFrame, mkF, argsToLocals, Value.category]; done) | rfl
theorem pn_1 : plainName x.cls = true := by first | decide +kernel | (simp [plainName, overriddenIn]; done)
set_option maxRecDepth 65536 in
set_option maxHeartbeats 40000000 in
theorem rm1 (l : Launch) (Z : State) (a0 : Array Value) (hw : ∀ d ∈ tables_1, d.before a0 Z = true) (ws : List Jvm.Cond) (ua : Int32) (ui : Int32) (h0 : Heap) (n0 : Nat) (Z0 : n0 ≤ h0.size) :
    MetFree l (⟨x.cls, "at", "(II)B"⟩ : MethodName) (head1 (Jvm.Cond.code (⟨x.cls, "at", "(II)B"⟩ : MethodName) method_2_code 2 (some .byte) :: ws) ({ frames := 0, cells := 0, slots := 0, locals := 0 } : Room)) (fun a_ U_ => a_ = #[(.int ua), (.int ui)] ∧ Z.Warmed39 U_.vm ∧ U_.heap = h0) (fun _ _ _ _ _ => True) (fun _ U_ o_ W_ => ∃ v_ L_, o_ = .returned v_ ∧ own_QI (own_at ua ui) h0 n0 v_ W_.heap L_ ∧ FrameEnd U_ o_ W_ L_ ({ frames := 0, cells := 0, slots := 0, locals := 0 } : Room).cells ({ frames := 0, cells := 0, slots := 0, locals := 0 } : Room).slots) := by
  refine MetFree.of_bodySF (plainFor_of_name pn_1) hisR ?_
  intro p e s m args below meth c s₁ Bd hml0 hP hK
  obtain ⟨rfl, hZ, hh⟩ := hP
  have hx := Bd.exec
  have hby := Bd.bytes
  have hml : c.maxLocals = 2 := hml0
  have hown : s.vm.findClass x.cls = some m.cls := by have z := findClass_of_methodNamed Bd.named; exact z
  have hnm := (name_of_methodNamed Bd.named Bd.method).1
  have X0 : Stand p l e ({ frames := 0, cells := 0, slots := 0, locals := 0 } : Room) s m #[(.int ua), (.int ui)] below meth c s₁ [] 0 0 := Stand.of_body Bd
  have e0 : s₁.heap = h0 := by rw [← hh, Bd.state]; rfl
  have N0 := Fr.nil n0
  obtain ⟨G, hG, hst, hend⟩ := own_abs p e below s (own_QI (own_at ua ui) h0 n0) ({ frames := 0, cells := 0, slots := 0, locals := 0 } : Room).cells ({ frames := 0, cells := 0, slots := 0, locals := 0 } : Room).slots
  refine hG (S := s₁.setTop (entryFrame m #[(.int ua), (.int ui)] 2)) (hst (fun t k => castTop (ef_1 m ua ui) k) ?_)
  show G (s₁.setTop (mkF m 0 #[.val (.int ua), .val (.int ui)] []))
  refine hst (fun _ kt => XS.iloadN X0.here hx rfl (hb hby d1_0) rfl kt) ?_
  show G (s₁.setTop (mkF m 1 #[.val (.int ua), .val (.int ui)] [(.int ua)]))
  refine hst (fun _ kt => XS.bipush X0.here hx rfl (hb hby d1_1) kt) ?_
  show G (s₁.setTop (mkF m 3 #[.val (.int ua), .val (.int ui)] [(.int (8 : Int32)), (.int ua)]))
  refine hst (fun _ kt => XS.iloadN X0.here hx rfl (hb hby d1_3) rfl kt) ?_
  show G (s₁.setTop (mkF m 4 #[.val (.int ua), .val (.int ui)] [(.int ui), (.int (8 : Int32)), (.int ua)]))
  refine hst (fun _ kt => XS.imul X0.here hx rfl (hb hby d1_4) rfl kt) ?_
  show G (s₁.setTop (mkF m 5 #[.val (.int ua), .val (.int ui)] [(.int ((8 : Int32) * ui)), (.int ua)]))
  refine hst (fun _ kt => XS.iushr X0.here hx rfl (hb hby d1_5) rfl kt) ?_
  show G (s₁.setTop (mkF m 6 #[.val (.int ua), .val (.int ui)] [(.int ((ua.toUInt32 >>> (((8 : Int32) * ui) &&& 31).toUInt32).toInt32))]))
  refine hst (fun _ kt => XS.i2b X0.here hx rfl (hb hby d1_6) rfl kt) ?_
  show G (s₁.setTop (mkF m 7 #[.val (.int ua), .val (.int ui)] [(.int (((ua.toUInt32 >>> (((8 : Int32) * ui) &&& 31).toUInt32).toInt32).toInt8.toInt32))]))
  exact hend (own_goRet X0 hx Bd.returns (Jvm.Free.XT.narrow_b _) (Or.inl ⟨rfl, by simp, _, rfl⟩) (hb hby d1_7) Bd.notSynchronized (by rw [e0]; exact ⟨rfl, N0, rfl⟩) (by decide) (by decide))
theorem d2_0 : decode method_3_code 0 = .ok (.iload_n 1, 1) := by decide +kernel
theorem d2_1 : decode method_3_code 1 = .ok (.iconst 0, 1) := by decide +kernel
theorem d2_2 : decode method_3_code 2 = .ok (.invokestatic 7, 3) := by decide +kernel
theorem d2_5 : decode method_3_code 5 = .ok (.istore_n 2, 1) := by decide +kernel
theorem d2_6 : decode method_3_code 6 = .ok (.iload_n 1, 1) := by decide +kernel
theorem d2_7 : decode method_3_code 7 = .ok (.iconst 1, 1) := by decide +kernel
theorem d2_8 : decode method_3_code 8 = .ok (.invokestatic 7, 3) := by decide +kernel
theorem d2_11 : decode method_3_code 11 = .ok (.istore_n 3, 1) := by decide +kernel
theorem d2_12 : decode method_3_code 12 = .ok (.iload_n 1, 1) := by decide +kernel
theorem d2_13 : decode method_3_code 13 = .ok (.iconst 2, 1) := by decide +kernel
theorem d2_14 : decode method_3_code 14 = .ok (.invokestatic 7, 3) := by decide +kernel
theorem d2_17 : decode method_3_code 17 = .ok (.istore 4, 2) := by decide +kernel
theorem d2_19 : decode method_3_code 19 = .ok (.iload_n 1, 1) := by decide +kernel
theorem d2_20 : decode method_3_code 20 = .ok (.iconst 3, 1) := by decide +kernel
theorem d2_21 : decode method_3_code 21 = .ok (.invokestatic 7, 3) := by decide +kernel
theorem d2_24 : decode method_3_code 24 = .ok (.istore 5, 2) := by decide +kernel
theorem d2_26 : decode method_3_code 26 = .ok (.iload_n 0, 1) := by decide +kernel
theorem d2_27 : decode method_3_code 27 = .ok (.ifCond .ne 7, 3) := by decide +kernel
theorem d2_30 : decode method_3_code 30 = .ok (.iconst 0, 1) := by decide +kernel
theorem d2_31 : decode method_3_code 31 = .ok (.newarray .byte, 2) := by decide +kernel
theorem d2_33 : decode method_3_code 33 = .ok (.areturn, 1) := by decide +kernel
theorem d2_34 : decode method_3_code 34 = .ok (.iload_n 0, 1) := by decide +kernel
theorem d2_35 : decode method_3_code 35 = .ok (.iconst 1, 1) := by decide +kernel
theorem d2_36 : decode method_3_code 36 = .ok (.if_icmp .ne 11, 3) := by decide +kernel
theorem d2_39 : decode method_3_code 39 = .ok (.iconst 1, 1) := by decide +kernel
theorem d2_40 : decode method_3_code 40 = .ok (.newarray .byte, 2) := by decide +kernel
theorem d2_42 : decode method_3_code 42 = .ok (.dup, 1) := by decide +kernel
theorem d2_43 : decode method_3_code 43 = .ok (.iconst 0, 1) := by decide +kernel
theorem d2_44 : decode method_3_code 44 = .ok (.iload_n 2, 1) := by decide +kernel
theorem d2_45 : decode method_3_code 45 = .ok (.bastore, 1) := by decide +kernel
theorem d2_46 : decode method_3_code 46 = .ok (.areturn, 1) := by decide +kernel
theorem d2_47 : decode method_3_code 47 = .ok (.iload_n 0, 1) := by decide +kernel
theorem d2_48 : decode method_3_code 48 = .ok (.iconst 2, 1) := by decide +kernel
theorem d2_49 : decode method_3_code 49 = .ok (.if_icmp .ne 15, 3) := by decide +kernel
theorem d2_52 : decode method_3_code 52 = .ok (.iconst 2, 1) := by decide +kernel
theorem d2_53 : decode method_3_code 53 = .ok (.newarray .byte, 2) := by decide +kernel
theorem d2_55 : decode method_3_code 55 = .ok (.dup, 1) := by decide +kernel
theorem d2_56 : decode method_3_code 56 = .ok (.iconst 0, 1) := by decide +kernel
theorem d2_57 : decode method_3_code 57 = .ok (.iload_n 2, 1) := by decide +kernel
theorem d2_58 : decode method_3_code 58 = .ok (.bastore, 1) := by decide +kernel
theorem d2_59 : decode method_3_code 59 = .ok (.dup, 1) := by decide +kernel
theorem d2_60 : decode method_3_code 60 = .ok (.iconst 1, 1) := by decide +kernel
theorem d2_61 : decode method_3_code 61 = .ok (.iload_n 3, 1) := by decide +kernel
theorem d2_62 : decode method_3_code 62 = .ok (.bastore, 1) := by decide +kernel
theorem d2_63 : decode method_3_code 63 = .ok (.areturn, 1) := by decide +kernel
theorem d2_64 : decode method_3_code 64 = .ok (.iload_n 0, 1) := by decide +kernel
theorem d2_65 : decode method_3_code 65 = .ok (.iconst 3, 1) := by decide +kernel
theorem d2_66 : decode method_3_code 66 = .ok (.if_icmp .ne 20, 3) := by decide +kernel
theorem d2_69 : decode method_3_code 69 = .ok (.iconst 3, 1) := by decide +kernel
theorem d2_70 : decode method_3_code 70 = .ok (.newarray .byte, 2) := by decide +kernel
theorem d2_72 : decode method_3_code 72 = .ok (.dup, 1) := by decide +kernel
theorem d2_73 : decode method_3_code 73 = .ok (.iconst 0, 1) := by decide +kernel
theorem d2_74 : decode method_3_code 74 = .ok (.iload_n 2, 1) := by decide +kernel
theorem d2_75 : decode method_3_code 75 = .ok (.bastore, 1) := by decide +kernel
theorem d2_76 : decode method_3_code 76 = .ok (.dup, 1) := by decide +kernel
theorem d2_77 : decode method_3_code 77 = .ok (.iconst 1, 1) := by decide +kernel
theorem d2_78 : decode method_3_code 78 = .ok (.iload_n 3, 1) := by decide +kernel
theorem d2_79 : decode method_3_code 79 = .ok (.bastore, 1) := by decide +kernel
theorem d2_80 : decode method_3_code 80 = .ok (.dup, 1) := by decide +kernel
theorem d2_81 : decode method_3_code 81 = .ok (.iconst 2, 1) := by decide +kernel
theorem d2_82 : decode method_3_code 82 = .ok (.iload 4, 2) := by decide +kernel
theorem d2_84 : decode method_3_code 84 = .ok (.bastore, 1) := by decide +kernel
theorem d2_85 : decode method_3_code 85 = .ok (.areturn, 1) := by decide +kernel
theorem d2_86 : decode method_3_code 86 = .ok (.iconst 4, 1) := by decide +kernel
theorem d2_87 : decode method_3_code 87 = .ok (.newarray .byte, 2) := by decide +kernel
theorem d2_89 : decode method_3_code 89 = .ok (.dup, 1) := by decide +kernel
theorem d2_90 : decode method_3_code 90 = .ok (.iconst 0, 1) := by decide +kernel
theorem d2_91 : decode method_3_code 91 = .ok (.iload_n 2, 1) := by decide +kernel
theorem d2_92 : decode method_3_code 92 = .ok (.bastore, 1) := by decide +kernel
theorem d2_93 : decode method_3_code 93 = .ok (.dup, 1) := by decide +kernel
theorem d2_94 : decode method_3_code 94 = .ok (.iconst 1, 1) := by decide +kernel
theorem d2_95 : decode method_3_code 95 = .ok (.iload_n 3, 1) := by decide +kernel
theorem d2_96 : decode method_3_code 96 = .ok (.bastore, 1) := by decide +kernel
theorem d2_97 : decode method_3_code 97 = .ok (.dup, 1) := by decide +kernel
theorem d2_98 : decode method_3_code 98 = .ok (.iconst 2, 1) := by decide +kernel
theorem d2_99 : decode method_3_code 99 = .ok (.iload 4, 2) := by decide +kernel
theorem d2_101 : decode method_3_code 101 = .ok (.bastore, 1) := by decide +kernel
theorem d2_102 : decode method_3_code 102 = .ok (.dup, 1) := by decide +kernel
theorem d2_103 : decode method_3_code 103 = .ok (.iconst 3, 1) := by decide +kernel
theorem d2_104 : decode method_3_code 104 = .ok (.iload 5, 2) := by decide +kernel
theorem d2_106 : decode method_3_code 106 = .ok (.bastore, 1) := by decide +kernel
theorem d2_107 : decode method_3_code 107 = .ok (.areturn, 1) := by decide +kernel
theorem ef_2 (m : MethodId) (un : Int32) (ua : Int32) : entryFrame m #[(.int un), (.int ua)] 6 = mkF m 0 #[.val (.int un), .val (.int ua), .unset, .unset, .unset, .unset] [] := by first | (simp [entryFrame, mkF, argsToLocals, Value.category]; done) | rfl
theorem pn_2 : plainName x.cls = true := by first | decide +kernel | (simp [plainName, overriddenIn]; done)
set_option maxRecDepth 65536 in
set_option maxHeartbeats 40000000 in
theorem rm2 (l : Launch) (Z : State) (a0 : Array Value) (hw : ∀ d ∈ tables_1, d.before a0 Z = true) (ws : List Jvm.Cond) (un : Int32) (ua : Int32) (h0 : Heap) (n0 : Nat) (Z0 : n0 ≤ h0.size) (hin : own_In un) :
    MetFree l (⟨x.cls, "make", "(II)[B"⟩ : MethodName) (head1 (Jvm.Cond.code (⟨x.cls, "make", "(II)[B"⟩ : MethodName) method_3_code 6 (some (.array .byte)) :: ws) ({ frames := 1, cells := 1, slots := 4, locals := 26 } : Room)) (fun a_ U_ => a_ = #[(.int un), (.int ua)] ∧ Z.Warmed39 U_.vm ∧ U_.heap = h0) (fun _ _ _ _ _ => True) (fun _ U_ o_ W_ => ∃ v_ L_, o_ = .returned v_ ∧ own_Qm Z un ua h0 n0 v_ W_.heap L_ ∧ FrameEnd U_ o_ W_ L_ ({ frames := 1, cells := 1, slots := 4, locals := 26 } : Room).cells ({ frames := 1, cells := 1, slots := 4, locals := 26 } : Room).slots) := by
  refine MetFree.of_bodySF (plainFor_of_name pn_2) hisR ?_
  intro p e s m args below meth c s₁ Bd hml0 hP hK
  obtain ⟨rfl, hZ, hh⟩ := hP
  have hx := Bd.exec
  have hby := Bd.bytes
  have hml : c.maxLocals = 6 := hml0
  have hown : s.vm.findClass x.cls = some m.cls := by have z := findClass_of_methodNamed Bd.named; exact z
  have hnm := (name_of_methodNamed Bd.named Bd.method).1
  have X0 : Stand p l e ({ frames := 1, cells := 1, slots := 4, locals := 26 } : Room) s m #[(.int un), (.int ua)] below meth c s₁ [] 0 0 := Stand.of_body Bd
  have e0 : s₁.heap = h0 := by rw [← hh, Bd.state]; rfl
  have N0 := Fr.nil n0
  obtain ⟨G, hG, hst, hend⟩ := own_abs p e below s (own_Qm Z un ua h0 n0) ({ frames := 1, cells := 1, slots := 4, locals := 26 } : Room).cells ({ frames := 1, cells := 1, slots := 4, locals := 26 } : Room).slots
  refine hG (S := s₁.setTop (entryFrame m #[(.int un), (.int ua)] 6)) (hst (fun t k => castTop (ef_2 m un ua) k) ?_)
  have Z1 := Nat.le_refl h0.size
  have K0 := Keep.refl h0 []
  show G (s₁.setTop (mkF m 0 #[.val (.int un), .val (.int ua), .unset, .unset, .unset, .unset] []))
  refine hst (fun _ kt => XS.iloadN X0.here hx rfl (hb hby d2_0) rfl kt) ?_
  show G (s₁.setTop (mkF m 1 #[.val (.int un), .val (.int ua), .unset, .unset, .unset, .unset] [(.int ua)]))
  refine hst (fun _ kt => XS.iconst X0.here hx rfl (hb hby d2_1) kt) ?_
  show G (s₁.setTop (mkF m 2 #[.val (.int un), .val (.int ua), .unset, .unset, .unset, .unset] [(.int (0 : Int32)), (.int ua)]))
  obtain ⟨_, _, ⟨T_1, L_1, k_1, n_1⟩, -, X_1, ⟨Lc_1, hQ_1, l_1, y_1, z_1⟩, st_1⟩ := Jvm.LawKit.callS X0 hx (y := (⟨x.cls, "at", "(II)B"⟩ : MethodName)) hown (mvT hZ (own_w5 hw)) (mvT hZ (own_w6 hw)) (mvT hZ (own_w3 hw)) (mvT hZ (own_w7 hw)) (by decide) (backOf (W := 0) (rm1 l Z a0 hw [] ua (0 : Int32)  h0 n0 Z0) hZ (own_w7 hw) (own_w3 hw) (by decide) (by decide)) (g := (mkF m 2 #[.val (.int un), .val (.int ua), .unset, .unset, .unset, .unset] [(.int (0 : Int32)), (.int ua)])) rfl (by rw [hml]; rfl) (argsL := [(.int ua), (.int (0 : Int32))]) (rest := []) (lenOf pd_0 rfl) rfl (by show 2 * 0 + _ ≤ _; exact Nat.le_of_eq rfl) (hb hby d2_2) (fun _ _ => ⟨rfl, e0, (by decide : 0 + 0 ≤ _), (by decide : 0 + 0 ≤ _)⟩)
  dsimp only [Pt.U, Pt.locs, Pt.cells, Pt.slots] at X_1 l_1 y_1 z_1 st_1 hQ_1
  subst l_1 y_1 z_1
  obtain ⟨rfl, N_1q, eh_1⟩ := hQ_1
  have N_1 := Fr.app N0 N_1q
  refine hst (fun _ kt => st_1 _ kt) ?_
  show G (T_1.setTop (mkF m 5 #[.val (.int un), .val (.int ua), .unset, .unset, .unset, .unset] [(.int (own_at ua (0 : Int32)))]))
  refine hst (fun _ kt => XS.istoreN X_1.here hx rfl (hb hby d2_5) rfl (l' := #[.val (.int un), .val (.int ua), .val (.int (own_at ua (0 : Int32))), .unset, .unset, .unset]) rfl kt) ?_
  show G (T_1.setTop (mkF m 6 #[.val (.int un), .val (.int ua), .val (.int (own_at ua (0 : Int32))), .unset, .unset, .unset] []))
  refine hst (fun _ kt => XS.iloadN X_1.here hx rfl (hb hby d2_6) rfl kt) ?_
  show G (T_1.setTop (mkF m 7 #[.val (.int un), .val (.int ua), .val (.int (own_at ua (0 : Int32))), .unset, .unset, .unset] [(.int ua)]))
  refine hst (fun _ kt => XS.iconst X_1.here hx rfl (hb hby d2_7) kt) ?_
  show G (T_1.setTop (mkF m 8 #[.val (.int un), .val (.int ua), .val (.int (own_at ua (0 : Int32))), .unset, .unset, .unset] [(.int (1 : Int32)), (.int ua)]))
  obtain ⟨_, _, ⟨T_2, L_2, k_2, n_2⟩, -, X_2, ⟨Lc_2, hQ_2, l_2, y_2, z_2⟩, st_2⟩ := Jvm.LawKit.callS X_1 hx (y := (⟨x.cls, "at", "(II)B"⟩ : MethodName)) hown (mvT hZ (own_w5 hw)) (mvT hZ (own_w6 hw)) (mvT hZ (own_w3 hw)) (mvT hZ (own_w7 hw)) (by decide) (backOf (W := 0) (rm1 l Z a0 hw [] ua (1 : Int32)  h0 n0 Z0) hZ (own_w7 hw) (own_w3 hw) (by decide) (by decide)) (g := (mkF m 8 #[.val (.int un), .val (.int ua), .val (.int (own_at ua (0 : Int32))), .unset, .unset, .unset] [(.int (1 : Int32)), (.int ua)])) rfl (by rw [hml]; rfl) (argsL := [(.int ua), (.int (1 : Int32))]) (rest := []) (lenOf pd_0 rfl) rfl (by show 2 * 0 + _ ≤ _; exact Nat.le_of_eq rfl) (hb hby d2_8) (fun _ _ => ⟨rfl, eh_1, (by decide : 0 + 0 ≤ _), (by decide : 0 + 0 ≤ _)⟩)
  dsimp only [Pt.U, Pt.locs, Pt.cells, Pt.slots] at X_2 l_2 y_2 z_2 st_2 hQ_2
  subst l_2 y_2 z_2
  obtain ⟨rfl, N_2q, eh_2⟩ := hQ_2
  have N_2 := Fr.app N_1 N_2q
  refine hst (fun _ kt => st_2 _ kt) ?_
  show G (T_2.setTop (mkF m 11 #[.val (.int un), .val (.int ua), .val (.int (own_at ua (0 : Int32))), .unset, .unset, .unset] [(.int (own_at ua (1 : Int32)))]))
  refine hst (fun _ kt => XS.istoreN X_2.here hx rfl (hb hby d2_11) rfl (l' := #[.val (.int un), .val (.int ua), .val (.int (own_at ua (0 : Int32))), .val (.int (own_at ua (1 : Int32))), .unset, .unset]) rfl kt) ?_
  show G (T_2.setTop (mkF m 12 #[.val (.int un), .val (.int ua), .val (.int (own_at ua (0 : Int32))), .val (.int (own_at ua (1 : Int32))), .unset, .unset] []))
  refine hst (fun _ kt => XS.iloadN X_2.here hx rfl (hb hby d2_12) rfl kt) ?_
  show G (T_2.setTop (mkF m 13 #[.val (.int un), .val (.int ua), .val (.int (own_at ua (0 : Int32))), .val (.int (own_at ua (1 : Int32))), .unset, .unset] [(.int ua)]))
  refine hst (fun _ kt => XS.iconst X_2.here hx rfl (hb hby d2_13) kt) ?_
  show G (T_2.setTop (mkF m 14 #[.val (.int un), .val (.int ua), .val (.int (own_at ua (0 : Int32))), .val (.int (own_at ua (1 : Int32))), .unset, .unset] [(.int (2 : Int32)), (.int ua)]))
  obtain ⟨_, _, ⟨T_3, L_3, k_3, n_3⟩, -, X_3, ⟨Lc_3, hQ_3, l_3, y_3, z_3⟩, st_3⟩ := Jvm.LawKit.callS X_2 hx (y := (⟨x.cls, "at", "(II)B"⟩ : MethodName)) hown (mvT hZ (own_w5 hw)) (mvT hZ (own_w6 hw)) (mvT hZ (own_w3 hw)) (mvT hZ (own_w7 hw)) (by decide) (backOf (W := 0) (rm1 l Z a0 hw [] ua (2 : Int32)  h0 n0 Z0) hZ (own_w7 hw) (own_w3 hw) (by decide) (by decide)) (g := (mkF m 14 #[.val (.int un), .val (.int ua), .val (.int (own_at ua (0 : Int32))), .val (.int (own_at ua (1 : Int32))), .unset, .unset] [(.int (2 : Int32)), (.int ua)])) rfl (by rw [hml]; rfl) (argsL := [(.int ua), (.int (2 : Int32))]) (rest := []) (lenOf pd_0 rfl) rfl (by show 2 * 0 + _ ≤ _; exact Nat.le_of_eq rfl) (hb hby d2_14) (fun _ _ => ⟨rfl, eh_2, (by decide : 0 + 0 ≤ _), (by decide : 0 + 0 ≤ _)⟩)
  dsimp only [Pt.U, Pt.locs, Pt.cells, Pt.slots] at X_3 l_3 y_3 z_3 st_3 hQ_3
  subst l_3 y_3 z_3
  obtain ⟨rfl, N_3q, eh_3⟩ := hQ_3
  have N_3 := Fr.app N_2 N_3q
  refine hst (fun _ kt => st_3 _ kt) ?_
  show G (T_3.setTop (mkF m 17 #[.val (.int un), .val (.int ua), .val (.int (own_at ua (0 : Int32))), .val (.int (own_at ua (1 : Int32))), .unset, .unset] [(.int (own_at ua (2 : Int32)))]))
  refine hst (fun _ kt => XS.istore X_3.here hx rfl (hb hby d2_17) rfl (l' := #[.val (.int un), .val (.int ua), .val (.int (own_at ua (0 : Int32))), .val (.int (own_at ua (1 : Int32))), .val (.int (own_at ua (2 : Int32))), .unset]) rfl kt) ?_
  show G (T_3.setTop (mkF m 19 #[.val (.int un), .val (.int ua), .val (.int (own_at ua (0 : Int32))), .val (.int (own_at ua (1 : Int32))), .val (.int (own_at ua (2 : Int32))), .unset] []))
  refine hst (fun _ kt => XS.iloadN X_3.here hx rfl (hb hby d2_19) rfl kt) ?_
  show G (T_3.setTop (mkF m 20 #[.val (.int un), .val (.int ua), .val (.int (own_at ua (0 : Int32))), .val (.int (own_at ua (1 : Int32))), .val (.int (own_at ua (2 : Int32))), .unset] [(.int ua)]))
  refine hst (fun _ kt => XS.iconst X_3.here hx rfl (hb hby d2_20) kt) ?_
  show G (T_3.setTop (mkF m 21 #[.val (.int un), .val (.int ua), .val (.int (own_at ua (0 : Int32))), .val (.int (own_at ua (1 : Int32))), .val (.int (own_at ua (2 : Int32))), .unset] [(.int (3 : Int32)), (.int ua)]))
  obtain ⟨_, _, ⟨T_4, L_4, k_4, n_4⟩, -, X_4, ⟨Lc_4, hQ_4, l_4, y_4, z_4⟩, st_4⟩ := Jvm.LawKit.callS X_3 hx (y := (⟨x.cls, "at", "(II)B"⟩ : MethodName)) hown (mvT hZ (own_w5 hw)) (mvT hZ (own_w6 hw)) (mvT hZ (own_w3 hw)) (mvT hZ (own_w7 hw)) (by decide) (backOf (W := 0) (rm1 l Z a0 hw [] ua (3 : Int32)  h0 n0 Z0) hZ (own_w7 hw) (own_w3 hw) (by decide) (by decide)) (g := (mkF m 21 #[.val (.int un), .val (.int ua), .val (.int (own_at ua (0 : Int32))), .val (.int (own_at ua (1 : Int32))), .val (.int (own_at ua (2 : Int32))), .unset] [(.int (3 : Int32)), (.int ua)])) rfl (by rw [hml]; rfl) (argsL := [(.int ua), (.int (3 : Int32))]) (rest := []) (lenOf pd_0 rfl) rfl (by show 2 * 0 + _ ≤ _; exact Nat.le_of_eq rfl) (hb hby d2_21) (fun _ _ => ⟨rfl, eh_3, (by decide : 0 + 0 ≤ _), (by decide : 0 + 0 ≤ _)⟩)
  dsimp only [Pt.U, Pt.locs, Pt.cells, Pt.slots] at X_4 l_4 y_4 z_4 st_4 hQ_4
  subst l_4 y_4 z_4
  obtain ⟨rfl, N_4q, eh_4⟩ := hQ_4
  have N_4 := Fr.app N_3 N_4q
  refine hst (fun _ kt => st_4 _ kt) ?_
  show G (T_4.setTop (mkF m 24 #[.val (.int un), .val (.int ua), .val (.int (own_at ua (0 : Int32))), .val (.int (own_at ua (1 : Int32))), .val (.int (own_at ua (2 : Int32))), .unset] [(.int (own_at ua (3 : Int32)))]))
  refine hst (fun _ kt => XS.istore X_4.here hx rfl (hb hby d2_24) rfl (l' := #[.val (.int un), .val (.int ua), .val (.int (own_at ua (0 : Int32))), .val (.int (own_at ua (1 : Int32))), .val (.int (own_at ua (2 : Int32))), .val (.int (own_at ua (3 : Int32)))]) rfl kt) ?_
  show G (T_4.setTop (mkF m 26 #[.val (.int un), .val (.int ua), .val (.int (own_at ua (0 : Int32))), .val (.int (own_at ua (1 : Int32))), .val (.int (own_at ua (2 : Int32))), .val (.int (own_at ua (3 : Int32)))] []))
  refine hst (fun _ kt => XS.iloadN X_4.here hx rfl (hb hby d2_26) rfl kt) ?_
  show G (T_4.setTop (mkF m 27 #[.val (.int un), .val (.int ua), .val (.int (own_at ua (0 : Int32))), .val (.int (own_at ua (1 : Int32))), .val (.int (own_at ua (2 : Int32))), .val (.int (own_at ua (3 : Int32)))] [(.int un)]))
  rcases hin with rfl | rfl | rfl | rfl | rfl
  ·
    show G (T_4.setTop (mkF m 27 #[.val (.int (0 : Int32)), .val (.int ua), .val (.int (own_at ua (0 : Int32))), .val (.int (own_at ua (1 : Int32))), .val (.int (own_at ua (2 : Int32))), .val (.int (own_at ua (3 : Int32)))] [(.int (0 : Int32))]))
    have hq0 : (0 : Int32) = (0 : Int32) := by decide
    refine hst (fun _ kt => XS.ifNo X_4.here hx rfl (hb hby d2_27) rfl ((if0 _ _).trans (teq hq0).2) kt) ?_
    show G (T_4.setTop (mkF m 30 #[.val (.int (0 : Int32)), .val (.int ua), .val (.int (own_at ua (0 : Int32))), .val (.int (own_at ua (1 : Int32))), .val (.int (own_at ua (2 : Int32))), .val (.int (own_at ua (3 : Int32)))] []))
    refine hst (fun _ kt => XS.iconst X_4.here hx rfl (hb hby d2_30) kt) ?_
    show G (T_4.setTop (mkF m 31 #[.val (.int (0 : Int32)), .val (.int ua), .val (.int (own_at ua (0 : Int32))), .val (.int (own_at ua (1 : Int32))), .val (.int (own_at ua (2 : Int32))), .val (.int (own_at ua (3 : Int32)))] [(.int (0 : Int32))]))
    obtain ⟨T_5, h_5, k_b, X_5, e_5, E_5, A_5, Ax_5, st_5⟩ := newPE (aty := .byte) X_4 hx hZ (own_w8 hw) eh_4 (g := (mkF m 31 #[.val (.int (0 : Int32)), .val (.int ua), .val (.int (own_at ua (0 : Int32))), .val (.int (own_at ua (1 : Int32))), .val (.int (own_at ua (2 : Int32))), .val (.int (own_at ua (3 : Int32)))] [(.int (0 : Int32))])) rfl (hb hby d2_31) rfl (by decide) (cap := 0) (by decide) (by decide) (by decide) (by decide) (ad := "[B") (by decide)
    obtain ⟨b, g_b⟩ : ∃ z, z = h0.size := ⟨_, rfl⟩
    rw [← g_b] at A_5 Ax_5 st_5
    have le_n0_b : n0 ≤ b := Nat.le_trans Z0 (Nat.le_of_eq g_b.symm)
    have le_hh_b : h0.size ≤ b := Nat.le_trans Z1 (Nat.le_of_eq g_b.symm)
    have Z0 := Nat.le_trans Z0 E_5.1
    have Z1 := Nat.le_trans Z1 E_5.1
    have K0 := K0.ext E_5
    have V_b : Arv Z h_5 b k_b .byte (0 : Int32) [] (.int (0 : Int32)) := Arv.new A_5 (by decide)
    have E_b : Exa Z h_5 b "[B" := Ax_5
    refine hst st_5 ?_
    show G (T_5.setTop (mkF m 33 #[.val (.int (0 : Int32)), .val (.int ua), .val (.int (own_at ua (0 : Int32))), .val (.int (own_at ua (1 : Int32))), .val (.int (own_at ua (2 : Int32))), .val (.int (own_at ua (3 : Int32)))] [(.ref b)]))
    exact hend (own_goRet X_5 hx Bd.returns rfl (Or.inr (Or.inr (Or.inr (Or.inr ⟨rfl, rfl, rfl⟩)))) (hb hby d2_33) Bd.notSynchronized (by rw [e_5]; exact ⟨b, k_b, rfl, N_4, K0, le_n0_b, le_hh_b, E_b, V_b⟩) (by decide) (by decide))
  ·
    show G (T_4.setTop (mkF m 27 #[.val (.int (1 : Int32)), .val (.int ua), .val (.int (own_at ua (0 : Int32))), .val (.int (own_at ua (1 : Int32))), .val (.int (own_at ua (2 : Int32))), .val (.int (own_at ua (3 : Int32)))] [(.int (1 : Int32))]))
    have hq0 : ¬ ((1 : Int32) = (0 : Int32)) := by decide
    refine hst (fun _ kt => XS.ifYes X_4.here hx rfl (pc0 := 27) (pc' := 34) rfl (hb hby d2_27) rfl ((if0 _ _).trans (feq hq0).2) (by decide) (by decide) kt) ?_
    show G (T_4.setTop (mkF m 34 #[.val (.int (1 : Int32)), .val (.int ua), .val (.int (own_at ua (0 : Int32))), .val (.int (own_at ua (1 : Int32))), .val (.int (own_at ua (2 : Int32))), .val (.int (own_at ua (3 : Int32)))] []))
    refine hst (fun _ kt => XS.iloadN X_4.here hx rfl (hb hby d2_34) rfl kt) ?_
    show G (T_4.setTop (mkF m 35 #[.val (.int (1 : Int32)), .val (.int ua), .val (.int (own_at ua (0 : Int32))), .val (.int (own_at ua (1 : Int32))), .val (.int (own_at ua (2 : Int32))), .val (.int (own_at ua (3 : Int32)))] [(.int (1 : Int32))]))
    refine hst (fun _ kt => XS.iconst X_4.here hx rfl (hb hby d2_35) kt) ?_
    show G (T_4.setTop (mkF m 36 #[.val (.int (1 : Int32)), .val (.int ua), .val (.int (own_at ua (0 : Int32))), .val (.int (own_at ua (1 : Int32))), .val (.int (own_at ua (2 : Int32))), .val (.int (own_at ua (3 : Int32)))] [(.int (1 : Int32)), (.int (1 : Int32))]))
    have hq1 : (1 : Int32) = (1 : Int32) := by decide
    refine hst (fun _ kt => XS.icmpNo X_4.here hx rfl (hb hby d2_36) rfl (teq hq1).2 kt) ?_
    show G (T_4.setTop (mkF m 39 #[.val (.int (1 : Int32)), .val (.int ua), .val (.int (own_at ua (0 : Int32))), .val (.int (own_at ua (1 : Int32))), .val (.int (own_at ua (2 : Int32))), .val (.int (own_at ua (3 : Int32)))] []))
    refine hst (fun _ kt => XS.iconst X_4.here hx rfl (hb hby d2_39) kt) ?_
    show G (T_4.setTop (mkF m 40 #[.val (.int (1 : Int32)), .val (.int ua), .val (.int (own_at ua (0 : Int32))), .val (.int (own_at ua (1 : Int32))), .val (.int (own_at ua (2 : Int32))), .val (.int (own_at ua (3 : Int32)))] [(.int (1 : Int32))]))
    obtain ⟨T_6, h_6, k_b, X_6, e_6, E_6, A_6, Ax_6, st_6⟩ := newPE (aty := .byte) X_4 hx hZ (own_w8 hw) eh_4 (g := (mkF m 40 #[.val (.int (1 : Int32)), .val (.int ua), .val (.int (own_at ua (0 : Int32))), .val (.int (own_at ua (1 : Int32))), .val (.int (own_at ua (2 : Int32))), .val (.int (own_at ua (3 : Int32)))] [(.int (1 : Int32))])) rfl (hb hby d2_40) rfl (by decide) (cap := 1) (by decide) (by decide) (by decide) (by decide) (ad := "[B") (by decide)
    obtain ⟨b, g_b⟩ : ∃ z, z = h0.size := ⟨_, rfl⟩
    rw [← g_b] at A_6 Ax_6 st_6
    have le_n0_b : n0 ≤ b := Nat.le_trans Z0 (Nat.le_of_eq g_b.symm)
    have le_hh_b : h0.size ≤ b := Nat.le_trans Z1 (Nat.le_of_eq g_b.symm)
    have Z0 := Nat.le_trans Z0 E_6.1
    have Z1 := Nat.le_trans Z1 E_6.1
    have K0 := K0.ext E_6
    have V_b : Arv Z h_6 b k_b .byte (1 : Int32) [(.int (0 : Int32))] (.int (0 : Int32)) := (Arv.new A_6 (by decide)).pad (pad_rep [] (.int (0 : Int32)) 1)
    have E_b : Exa Z h_6 b "[B" := Ax_6
    refine hst st_6 ?_
    show G (T_6.setTop (mkF m 42 #[.val (.int (1 : Int32)), .val (.int ua), .val (.int (own_at ua (0 : Int32))), .val (.int (own_at ua (1 : Int32))), .val (.int (own_at ua (2 : Int32))), .val (.int (own_at ua (3 : Int32)))] [(.ref b)]))
    refine hst (fun _ kt => XS.dup X_6.here hx rfl (hb hby d2_42) rfl rfl kt) ?_
    show G (T_6.setTop (mkF m 43 #[.val (.int (1 : Int32)), .val (.int ua), .val (.int (own_at ua (0 : Int32))), .val (.int (own_at ua (1 : Int32))), .val (.int (own_at ua (2 : Int32))), .val (.int (own_at ua (3 : Int32)))] [(.ref b), (.ref b)]))
    refine hst (fun _ kt => XS.iconst X_6.here hx rfl (hb hby d2_43) kt) ?_
    show G (T_6.setTop (mkF m 44 #[.val (.int (1 : Int32)), .val (.int ua), .val (.int (own_at ua (0 : Int32))), .val (.int (own_at ua (1 : Int32))), .val (.int (own_at ua (2 : Int32))), .val (.int (own_at ua (3 : Int32)))] [(.int (0 : Int32)), (.ref b), (.ref b)]))
    refine hst (fun _ kt => XS.iloadN X_6.here hx rfl (hb hby d2_44) rfl kt) ?_
    show G (T_6.setTop (mkF m 45 #[.val (.int (1 : Int32)), .val (.int ua), .val (.int (own_at ua (0 : Int32))), .val (.int (own_at ua (1 : Int32))), .val (.int (own_at ua (2 : Int32))), .val (.int (own_at ua (3 : Int32)))] [(.int (own_at ua (0 : Int32))), (.int (0 : Int32)), (.ref b), (.ref b)]))
    obtain ⟨cl_7, Ar_7, q_7, S_7, M_7, Hs_7, Gs_7⟩ := V_b
    have hin_7 : ¬ ((0 : Int32) < 0 ∨ cl_7.slots.size ≤ ((0 : Int32)).toNatClampNeg) := inb_of S_7 ⟨by decide, by decide⟩
    obtain ⟨T_7, h_7, X_7, e_7, W_7, st_7⟩ := stB X_6 hx hZ e_6 Ar_7 (j := (0 : Int32)) hin_7 (g := (mkF m 45 #[.val (.int (1 : Int32)), .val (.int ua), .val (.int (own_at ua (0 : Int32))), .val (.int (own_at ua (1 : Int32))), .val (.int (own_at ua (2 : Int32))), .val (.int (own_at ua (3 : Int32)))] [(.int (own_at ua (0 : Int32))), (.int (0 : Int32)), (.ref b), (.ref b)])) rfl rfl (hb hby d2_45)
    have V_b := Arv.set Ar_7 q_7 S_7 M_7 Hs_7 Gs_7 (fits_nar_byte _) W_7 0 rfl (Nat.le_of_ble_eq_true rfl)
    have V_b : Arv Z h_7 b k_b .byte (1 : Int32) [(.int (own_nb ua (0 : Int32)))] (.int (0 : Int32)) := V_b
    have Z0 := Nat.le_trans Z0 (Keep.of_wr W_7).1
    have Z1 := Nat.le_trans Z1 (Keep.of_wr W_7).1
    have K0 := K0.wr W_7 (Or.inr le_hh_b)
    have E_b := E_b.wr W_7
    have N_7 := Fr.snoc X_7 N_4 le_n0_b
    refine hst st_7 ?_
    show G (T_7.setTop (mkF m 46 #[.val (.int (1 : Int32)), .val (.int ua), .val (.int (own_at ua (0 : Int32))), .val (.int (own_at ua (1 : Int32))), .val (.int (own_at ua (2 : Int32))), .val (.int (own_at ua (3 : Int32)))] [(.ref b)]))
    exact hend (own_goRet X_7 hx Bd.returns rfl (Or.inr (Or.inr (Or.inr (Or.inr ⟨rfl, rfl, rfl⟩)))) (hb hby d2_46) Bd.notSynchronized (by rw [e_7]; exact ⟨b, k_b, rfl, N_7, K0, le_n0_b, le_hh_b, E_b, V_b⟩) (by decide) (by decide))
  ·
    show G (T_4.setTop (mkF m 27 #[.val (.int (2 : Int32)), .val (.int ua), .val (.int (own_at ua (0 : Int32))), .val (.int (own_at ua (1 : Int32))), .val (.int (own_at ua (2 : Int32))), .val (.int (own_at ua (3 : Int32)))] [(.int (2 : Int32))]))
    have hq0 : ¬ ((2 : Int32) = (0 : Int32)) := by decide
    refine hst (fun _ kt => XS.ifYes X_4.here hx rfl (pc0 := 27) (pc' := 34) rfl (hb hby d2_27) rfl ((if0 _ _).trans (feq hq0).2) (by decide) (by decide) kt) ?_
    show G (T_4.setTop (mkF m 34 #[.val (.int (2 : Int32)), .val (.int ua), .val (.int (own_at ua (0 : Int32))), .val (.int (own_at ua (1 : Int32))), .val (.int (own_at ua (2 : Int32))), .val (.int (own_at ua (3 : Int32)))] []))
    refine hst (fun _ kt => XS.iloadN X_4.here hx rfl (hb hby d2_34) rfl kt) ?_
    show G (T_4.setTop (mkF m 35 #[.val (.int (2 : Int32)), .val (.int ua), .val (.int (own_at ua (0 : Int32))), .val (.int (own_at ua (1 : Int32))), .val (.int (own_at ua (2 : Int32))), .val (.int (own_at ua (3 : Int32)))] [(.int (2 : Int32))]))
    refine hst (fun _ kt => XS.iconst X_4.here hx rfl (hb hby d2_35) kt) ?_
    show G (T_4.setTop (mkF m 36 #[.val (.int (2 : Int32)), .val (.int ua), .val (.int (own_at ua (0 : Int32))), .val (.int (own_at ua (1 : Int32))), .val (.int (own_at ua (2 : Int32))), .val (.int (own_at ua (3 : Int32)))] [(.int (1 : Int32)), (.int (2 : Int32))]))
    have hq1 : ¬ ((2 : Int32) = (1 : Int32)) := by decide
    refine hst (fun _ kt => XS.icmpYes X_4.here hx rfl (pc0 := 36) (pc' := 47) rfl (hb hby d2_36) rfl (feq hq1).2 (by decide) (by decide) kt) ?_
    show G (T_4.setTop (mkF m 47 #[.val (.int (2 : Int32)), .val (.int ua), .val (.int (own_at ua (0 : Int32))), .val (.int (own_at ua (1 : Int32))), .val (.int (own_at ua (2 : Int32))), .val (.int (own_at ua (3 : Int32)))] []))
    refine hst (fun _ kt => XS.iloadN X_4.here hx rfl (hb hby d2_47) rfl kt) ?_
    show G (T_4.setTop (mkF m 48 #[.val (.int (2 : Int32)), .val (.int ua), .val (.int (own_at ua (0 : Int32))), .val (.int (own_at ua (1 : Int32))), .val (.int (own_at ua (2 : Int32))), .val (.int (own_at ua (3 : Int32)))] [(.int (2 : Int32))]))
    refine hst (fun _ kt => XS.iconst X_4.here hx rfl (hb hby d2_48) kt) ?_
    show G (T_4.setTop (mkF m 49 #[.val (.int (2 : Int32)), .val (.int ua), .val (.int (own_at ua (0 : Int32))), .val (.int (own_at ua (1 : Int32))), .val (.int (own_at ua (2 : Int32))), .val (.int (own_at ua (3 : Int32)))] [(.int (2 : Int32)), (.int (2 : Int32))]))
    have hq2 : (2 : Int32) = (2 : Int32) := by decide
    refine hst (fun _ kt => XS.icmpNo X_4.here hx rfl (hb hby d2_49) rfl (teq hq2).2 kt) ?_
    show G (T_4.setTop (mkF m 52 #[.val (.int (2 : Int32)), .val (.int ua), .val (.int (own_at ua (0 : Int32))), .val (.int (own_at ua (1 : Int32))), .val (.int (own_at ua (2 : Int32))), .val (.int (own_at ua (3 : Int32)))] []))
    refine hst (fun _ kt => XS.iconst X_4.here hx rfl (hb hby d2_52) kt) ?_
    show G (T_4.setTop (mkF m 53 #[.val (.int (2 : Int32)), .val (.int ua), .val (.int (own_at ua (0 : Int32))), .val (.int (own_at ua (1 : Int32))), .val (.int (own_at ua (2 : Int32))), .val (.int (own_at ua (3 : Int32)))] [(.int (2 : Int32))]))
    obtain ⟨T_8, h_8, k_b, X_8, e_8, E_8, A_8, Ax_8, st_8⟩ := newPE (aty := .byte) X_4 hx hZ (own_w8 hw) eh_4 (g := (mkF m 53 #[.val (.int (2 : Int32)), .val (.int ua), .val (.int (own_at ua (0 : Int32))), .val (.int (own_at ua (1 : Int32))), .val (.int (own_at ua (2 : Int32))), .val (.int (own_at ua (3 : Int32)))] [(.int (2 : Int32))])) rfl (hb hby d2_53) rfl (by decide) (cap := 2) (by decide) (by decide) (by decide) (by decide) (ad := "[B") (by decide)
    obtain ⟨b, g_b⟩ : ∃ z, z = h0.size := ⟨_, rfl⟩
    rw [← g_b] at A_8 Ax_8 st_8
    have le_n0_b : n0 ≤ b := Nat.le_trans Z0 (Nat.le_of_eq g_b.symm)
    have le_hh_b : h0.size ≤ b := Nat.le_trans Z1 (Nat.le_of_eq g_b.symm)
    have Z0 := Nat.le_trans Z0 E_8.1
    have Z1 := Nat.le_trans Z1 E_8.1
    have K0 := K0.ext E_8
    have V_b : Arv Z h_8 b k_b .byte (2 : Int32) [(.int (0 : Int32)), (.int (0 : Int32))] (.int (0 : Int32)) := (Arv.new A_8 (by decide)).pad (pad_rep [] (.int (0 : Int32)) 2)
    have E_b : Exa Z h_8 b "[B" := Ax_8
    refine hst st_8 ?_
    show G (T_8.setTop (mkF m 55 #[.val (.int (2 : Int32)), .val (.int ua), .val (.int (own_at ua (0 : Int32))), .val (.int (own_at ua (1 : Int32))), .val (.int (own_at ua (2 : Int32))), .val (.int (own_at ua (3 : Int32)))] [(.ref b)]))
    refine hst (fun _ kt => XS.dup X_8.here hx rfl (hb hby d2_55) rfl rfl kt) ?_
    show G (T_8.setTop (mkF m 56 #[.val (.int (2 : Int32)), .val (.int ua), .val (.int (own_at ua (0 : Int32))), .val (.int (own_at ua (1 : Int32))), .val (.int (own_at ua (2 : Int32))), .val (.int (own_at ua (3 : Int32)))] [(.ref b), (.ref b)]))
    refine hst (fun _ kt => XS.iconst X_8.here hx rfl (hb hby d2_56) kt) ?_
    show G (T_8.setTop (mkF m 57 #[.val (.int (2 : Int32)), .val (.int ua), .val (.int (own_at ua (0 : Int32))), .val (.int (own_at ua (1 : Int32))), .val (.int (own_at ua (2 : Int32))), .val (.int (own_at ua (3 : Int32)))] [(.int (0 : Int32)), (.ref b), (.ref b)]))
    refine hst (fun _ kt => XS.iloadN X_8.here hx rfl (hb hby d2_57) rfl kt) ?_
    show G (T_8.setTop (mkF m 58 #[.val (.int (2 : Int32)), .val (.int ua), .val (.int (own_at ua (0 : Int32))), .val (.int (own_at ua (1 : Int32))), .val (.int (own_at ua (2 : Int32))), .val (.int (own_at ua (3 : Int32)))] [(.int (own_at ua (0 : Int32))), (.int (0 : Int32)), (.ref b), (.ref b)]))
    obtain ⟨cl_9, Ar_9, q_9, S_9, M_9, Hs_9, Gs_9⟩ := V_b
    have hin_9 : ¬ ((0 : Int32) < 0 ∨ cl_9.slots.size ≤ ((0 : Int32)).toNatClampNeg) := inb_of S_9 ⟨by decide, by decide⟩
    obtain ⟨T_9, h_9, X_9, e_9, W_9, st_9⟩ := stB X_8 hx hZ e_8 Ar_9 (j := (0 : Int32)) hin_9 (g := (mkF m 58 #[.val (.int (2 : Int32)), .val (.int ua), .val (.int (own_at ua (0 : Int32))), .val (.int (own_at ua (1 : Int32))), .val (.int (own_at ua (2 : Int32))), .val (.int (own_at ua (3 : Int32)))] [(.int (own_at ua (0 : Int32))), (.int (0 : Int32)), (.ref b), (.ref b)])) rfl rfl (hb hby d2_58)
    have V_b := Arv.set Ar_9 q_9 S_9 M_9 Hs_9 Gs_9 (fits_nar_byte _) W_9 0 rfl (Nat.le_of_ble_eq_true rfl)
    have V_b : Arv Z h_9 b k_b .byte (2 : Int32) [(.int (own_nb ua (0 : Int32))), (.int (0 : Int32))] (.int (0 : Int32)) := V_b
    have Z0 := Nat.le_trans Z0 (Keep.of_wr W_9).1
    have Z1 := Nat.le_trans Z1 (Keep.of_wr W_9).1
    have K0 := K0.wr W_9 (Or.inr le_hh_b)
    have E_b := E_b.wr W_9
    have N_9 := Fr.snoc X_9 N_4 le_n0_b
    refine hst st_9 ?_
    show G (T_9.setTop (mkF m 59 #[.val (.int (2 : Int32)), .val (.int ua), .val (.int (own_at ua (0 : Int32))), .val (.int (own_at ua (1 : Int32))), .val (.int (own_at ua (2 : Int32))), .val (.int (own_at ua (3 : Int32)))] [(.ref b)]))
    refine hst (fun _ kt => XS.dup X_9.here hx rfl (hb hby d2_59) rfl rfl kt) ?_
    show G (T_9.setTop (mkF m 60 #[.val (.int (2 : Int32)), .val (.int ua), .val (.int (own_at ua (0 : Int32))), .val (.int (own_at ua (1 : Int32))), .val (.int (own_at ua (2 : Int32))), .val (.int (own_at ua (3 : Int32)))] [(.ref b), (.ref b)]))
    refine hst (fun _ kt => XS.iconst X_9.here hx rfl (hb hby d2_60) kt) ?_
    show G (T_9.setTop (mkF m 61 #[.val (.int (2 : Int32)), .val (.int ua), .val (.int (own_at ua (0 : Int32))), .val (.int (own_at ua (1 : Int32))), .val (.int (own_at ua (2 : Int32))), .val (.int (own_at ua (3 : Int32)))] [(.int (1 : Int32)), (.ref b), (.ref b)]))
    refine hst (fun _ kt => XS.iloadN X_9.here hx rfl (hb hby d2_61) rfl kt) ?_
    show G (T_9.setTop (mkF m 62 #[.val (.int (2 : Int32)), .val (.int ua), .val (.int (own_at ua (0 : Int32))), .val (.int (own_at ua (1 : Int32))), .val (.int (own_at ua (2 : Int32))), .val (.int (own_at ua (3 : Int32)))] [(.int (own_at ua (1 : Int32))), (.int (1 : Int32)), (.ref b), (.ref b)]))
    obtain ⟨cl_10, Ar_10, q_10, S_10, M_10, Hs_10, Gs_10⟩ := V_b
    have hin_10 : ¬ ((1 : Int32) < 0 ∨ cl_10.slots.size ≤ ((1 : Int32)).toNatClampNeg) := inb_of S_10 ⟨by decide, by decide⟩
    obtain ⟨T_10, h_10, X_10, e_10, W_10, st_10⟩ := stB X_9 hx hZ e_9 Ar_10 (j := (1 : Int32)) hin_10 (g := (mkF m 62 #[.val (.int (2 : Int32)), .val (.int ua), .val (.int (own_at ua (0 : Int32))), .val (.int (own_at ua (1 : Int32))), .val (.int (own_at ua (2 : Int32))), .val (.int (own_at ua (3 : Int32)))] [(.int (own_at ua (1 : Int32))), (.int (1 : Int32)), (.ref b), (.ref b)])) rfl rfl (hb hby d2_62)
    have V_b := Arv.set Ar_10 q_10 S_10 M_10 Hs_10 Gs_10 (fits_nar_byte _) W_10 1 rfl (Nat.le_of_ble_eq_true rfl)
    have V_b : Arv Z h_10 b k_b .byte (2 : Int32) [(.int (own_nb ua (0 : Int32))), (.int (own_nb ua (1 : Int32)))] (.int (0 : Int32)) := V_b
    have Z0 := Nat.le_trans Z0 (Keep.of_wr W_10).1
    have Z1 := Nat.le_trans Z1 (Keep.of_wr W_10).1
    have K0 := K0.wr W_10 (Or.inr le_hh_b)
    have E_b := E_b.wr W_10
    have N_10 := Fr.snoc X_10 N_9 le_n0_b
    refine hst st_10 ?_
    show G (T_10.setTop (mkF m 63 #[.val (.int (2 : Int32)), .val (.int ua), .val (.int (own_at ua (0 : Int32))), .val (.int (own_at ua (1 : Int32))), .val (.int (own_at ua (2 : Int32))), .val (.int (own_at ua (3 : Int32)))] [(.ref b)]))
    exact hend (own_goRet X_10 hx Bd.returns rfl (Or.inr (Or.inr (Or.inr (Or.inr ⟨rfl, rfl, rfl⟩)))) (hb hby d2_63) Bd.notSynchronized (by rw [e_10]; exact ⟨b, k_b, rfl, N_10, K0, le_n0_b, le_hh_b, E_b, V_b⟩) (by decide) (by decide))
  ·
    show G (T_4.setTop (mkF m 27 #[.val (.int (3 : Int32)), .val (.int ua), .val (.int (own_at ua (0 : Int32))), .val (.int (own_at ua (1 : Int32))), .val (.int (own_at ua (2 : Int32))), .val (.int (own_at ua (3 : Int32)))] [(.int (3 : Int32))]))
    have hq0 : ¬ ((3 : Int32) = (0 : Int32)) := by decide
    refine hst (fun _ kt => XS.ifYes X_4.here hx rfl (pc0 := 27) (pc' := 34) rfl (hb hby d2_27) rfl ((if0 _ _).trans (feq hq0).2) (by decide) (by decide) kt) ?_
    show G (T_4.setTop (mkF m 34 #[.val (.int (3 : Int32)), .val (.int ua), .val (.int (own_at ua (0 : Int32))), .val (.int (own_at ua (1 : Int32))), .val (.int (own_at ua (2 : Int32))), .val (.int (own_at ua (3 : Int32)))] []))
    refine hst (fun _ kt => XS.iloadN X_4.here hx rfl (hb hby d2_34) rfl kt) ?_
    show G (T_4.setTop (mkF m 35 #[.val (.int (3 : Int32)), .val (.int ua), .val (.int (own_at ua (0 : Int32))), .val (.int (own_at ua (1 : Int32))), .val (.int (own_at ua (2 : Int32))), .val (.int (own_at ua (3 : Int32)))] [(.int (3 : Int32))]))
    refine hst (fun _ kt => XS.iconst X_4.here hx rfl (hb hby d2_35) kt) ?_
    show G (T_4.setTop (mkF m 36 #[.val (.int (3 : Int32)), .val (.int ua), .val (.int (own_at ua (0 : Int32))), .val (.int (own_at ua (1 : Int32))), .val (.int (own_at ua (2 : Int32))), .val (.int (own_at ua (3 : Int32)))] [(.int (1 : Int32)), (.int (3 : Int32))]))
    have hq1 : ¬ ((3 : Int32) = (1 : Int32)) := by decide
    refine hst (fun _ kt => XS.icmpYes X_4.here hx rfl (pc0 := 36) (pc' := 47) rfl (hb hby d2_36) rfl (feq hq1).2 (by decide) (by decide) kt) ?_
    show G (T_4.setTop (mkF m 47 #[.val (.int (3 : Int32)), .val (.int ua), .val (.int (own_at ua (0 : Int32))), .val (.int (own_at ua (1 : Int32))), .val (.int (own_at ua (2 : Int32))), .val (.int (own_at ua (3 : Int32)))] []))
    refine hst (fun _ kt => XS.iloadN X_4.here hx rfl (hb hby d2_47) rfl kt) ?_
    show G (T_4.setTop (mkF m 48 #[.val (.int (3 : Int32)), .val (.int ua), .val (.int (own_at ua (0 : Int32))), .val (.int (own_at ua (1 : Int32))), .val (.int (own_at ua (2 : Int32))), .val (.int (own_at ua (3 : Int32)))] [(.int (3 : Int32))]))
    refine hst (fun _ kt => XS.iconst X_4.here hx rfl (hb hby d2_48) kt) ?_
    show G (T_4.setTop (mkF m 49 #[.val (.int (3 : Int32)), .val (.int ua), .val (.int (own_at ua (0 : Int32))), .val (.int (own_at ua (1 : Int32))), .val (.int (own_at ua (2 : Int32))), .val (.int (own_at ua (3 : Int32)))] [(.int (2 : Int32)), (.int (3 : Int32))]))
    have hq2 : ¬ ((3 : Int32) = (2 : Int32)) := by decide
    refine hst (fun _ kt => XS.icmpYes X_4.here hx rfl (pc0 := 49) (pc' := 64) rfl (hb hby d2_49) rfl (feq hq2).2 (by decide) (by decide) kt) ?_
    show G (T_4.setTop (mkF m 64 #[.val (.int (3 : Int32)), .val (.int ua), .val (.int (own_at ua (0 : Int32))), .val (.int (own_at ua (1 : Int32))), .val (.int (own_at ua (2 : Int32))), .val (.int (own_at ua (3 : Int32)))] []))
    refine hst (fun _ kt => XS.iloadN X_4.here hx rfl (hb hby d2_64) rfl kt) ?_
    show G (T_4.setTop (mkF m 65 #[.val (.int (3 : Int32)), .val (.int ua), .val (.int (own_at ua (0 : Int32))), .val (.int (own_at ua (1 : Int32))), .val (.int (own_at ua (2 : Int32))), .val (.int (own_at ua (3 : Int32)))] [(.int (3 : Int32))]))
    refine hst (fun _ kt => XS.iconst X_4.here hx rfl (hb hby d2_65) kt) ?_
    show G (T_4.setTop (mkF m 66 #[.val (.int (3 : Int32)), .val (.int ua), .val (.int (own_at ua (0 : Int32))), .val (.int (own_at ua (1 : Int32))), .val (.int (own_at ua (2 : Int32))), .val (.int (own_at ua (3 : Int32)))] [(.int (3 : Int32)), (.int (3 : Int32))]))
    have hq3 : (3 : Int32) = (3 : Int32) := by decide
    refine hst (fun _ kt => XS.icmpNo X_4.here hx rfl (hb hby d2_66) rfl (teq hq3).2 kt) ?_
    show G (T_4.setTop (mkF m 69 #[.val (.int (3 : Int32)), .val (.int ua), .val (.int (own_at ua (0 : Int32))), .val (.int (own_at ua (1 : Int32))), .val (.int (own_at ua (2 : Int32))), .val (.int (own_at ua (3 : Int32)))] []))
    refine hst (fun _ kt => XS.iconst X_4.here hx rfl (hb hby d2_69) kt) ?_
    show G (T_4.setTop (mkF m 70 #[.val (.int (3 : Int32)), .val (.int ua), .val (.int (own_at ua (0 : Int32))), .val (.int (own_at ua (1 : Int32))), .val (.int (own_at ua (2 : Int32))), .val (.int (own_at ua (3 : Int32)))] [(.int (3 : Int32))]))
    obtain ⟨T_11, h_11, k_b, X_11, e_11, E_11, A_11, Ax_11, st_11⟩ := newPE (aty := .byte) X_4 hx hZ (own_w8 hw) eh_4 (g := (mkF m 70 #[.val (.int (3 : Int32)), .val (.int ua), .val (.int (own_at ua (0 : Int32))), .val (.int (own_at ua (1 : Int32))), .val (.int (own_at ua (2 : Int32))), .val (.int (own_at ua (3 : Int32)))] [(.int (3 : Int32))])) rfl (hb hby d2_70) rfl (by decide) (cap := 3) (by decide) (by decide) (by decide) (by decide) (ad := "[B") (by decide)
    obtain ⟨b, g_b⟩ : ∃ z, z = h0.size := ⟨_, rfl⟩
    rw [← g_b] at A_11 Ax_11 st_11
    have le_n0_b : n0 ≤ b := Nat.le_trans Z0 (Nat.le_of_eq g_b.symm)
    have le_hh_b : h0.size ≤ b := Nat.le_trans Z1 (Nat.le_of_eq g_b.symm)
    have Z0 := Nat.le_trans Z0 E_11.1
    have Z1 := Nat.le_trans Z1 E_11.1
    have K0 := K0.ext E_11
    have V_b : Arv Z h_11 b k_b .byte (3 : Int32) [(.int (0 : Int32)), (.int (0 : Int32)), (.int (0 : Int32))] (.int (0 : Int32)) := (Arv.new A_11 (by decide)).pad (pad_rep [] (.int (0 : Int32)) 3)
    have E_b : Exa Z h_11 b "[B" := Ax_11
    refine hst st_11 ?_
    show G (T_11.setTop (mkF m 72 #[.val (.int (3 : Int32)), .val (.int ua), .val (.int (own_at ua (0 : Int32))), .val (.int (own_at ua (1 : Int32))), .val (.int (own_at ua (2 : Int32))), .val (.int (own_at ua (3 : Int32)))] [(.ref b)]))
    refine hst (fun _ kt => XS.dup X_11.here hx rfl (hb hby d2_72) rfl rfl kt) ?_
    show G (T_11.setTop (mkF m 73 #[.val (.int (3 : Int32)), .val (.int ua), .val (.int (own_at ua (0 : Int32))), .val (.int (own_at ua (1 : Int32))), .val (.int (own_at ua (2 : Int32))), .val (.int (own_at ua (3 : Int32)))] [(.ref b), (.ref b)]))
    refine hst (fun _ kt => XS.iconst X_11.here hx rfl (hb hby d2_73) kt) ?_
    show G (T_11.setTop (mkF m 74 #[.val (.int (3 : Int32)), .val (.int ua), .val (.int (own_at ua (0 : Int32))), .val (.int (own_at ua (1 : Int32))), .val (.int (own_at ua (2 : Int32))), .val (.int (own_at ua (3 : Int32)))] [(.int (0 : Int32)), (.ref b), (.ref b)]))
    refine hst (fun _ kt => XS.iloadN X_11.here hx rfl (hb hby d2_74) rfl kt) ?_
    show G (T_11.setTop (mkF m 75 #[.val (.int (3 : Int32)), .val (.int ua), .val (.int (own_at ua (0 : Int32))), .val (.int (own_at ua (1 : Int32))), .val (.int (own_at ua (2 : Int32))), .val (.int (own_at ua (3 : Int32)))] [(.int (own_at ua (0 : Int32))), (.int (0 : Int32)), (.ref b), (.ref b)]))
    obtain ⟨cl_12, Ar_12, q_12, S_12, M_12, Hs_12, Gs_12⟩ := V_b
    have hin_12 : ¬ ((0 : Int32) < 0 ∨ cl_12.slots.size ≤ ((0 : Int32)).toNatClampNeg) := inb_of S_12 ⟨by decide, by decide⟩
    obtain ⟨T_12, h_12, X_12, e_12, W_12, st_12⟩ := stB X_11 hx hZ e_11 Ar_12 (j := (0 : Int32)) hin_12 (g := (mkF m 75 #[.val (.int (3 : Int32)), .val (.int ua), .val (.int (own_at ua (0 : Int32))), .val (.int (own_at ua (1 : Int32))), .val (.int (own_at ua (2 : Int32))), .val (.int (own_at ua (3 : Int32)))] [(.int (own_at ua (0 : Int32))), (.int (0 : Int32)), (.ref b), (.ref b)])) rfl rfl (hb hby d2_75)
    have V_b := Arv.set Ar_12 q_12 S_12 M_12 Hs_12 Gs_12 (fits_nar_byte _) W_12 0 rfl (Nat.le_of_ble_eq_true rfl)
    have V_b : Arv Z h_12 b k_b .byte (3 : Int32) [(.int (own_nb ua (0 : Int32))), (.int (0 : Int32)), (.int (0 : Int32))] (.int (0 : Int32)) := V_b
    have Z0 := Nat.le_trans Z0 (Keep.of_wr W_12).1
    have Z1 := Nat.le_trans Z1 (Keep.of_wr W_12).1
    have K0 := K0.wr W_12 (Or.inr le_hh_b)
    have E_b := E_b.wr W_12
    have N_12 := Fr.snoc X_12 N_4 le_n0_b
    refine hst st_12 ?_
    show G (T_12.setTop (mkF m 76 #[.val (.int (3 : Int32)), .val (.int ua), .val (.int (own_at ua (0 : Int32))), .val (.int (own_at ua (1 : Int32))), .val (.int (own_at ua (2 : Int32))), .val (.int (own_at ua (3 : Int32)))] [(.ref b)]))
    refine hst (fun _ kt => XS.dup X_12.here hx rfl (hb hby d2_76) rfl rfl kt) ?_
    show G (T_12.setTop (mkF m 77 #[.val (.int (3 : Int32)), .val (.int ua), .val (.int (own_at ua (0 : Int32))), .val (.int (own_at ua (1 : Int32))), .val (.int (own_at ua (2 : Int32))), .val (.int (own_at ua (3 : Int32)))] [(.ref b), (.ref b)]))
    refine hst (fun _ kt => XS.iconst X_12.here hx rfl (hb hby d2_77) kt) ?_
    show G (T_12.setTop (mkF m 78 #[.val (.int (3 : Int32)), .val (.int ua), .val (.int (own_at ua (0 : Int32))), .val (.int (own_at ua (1 : Int32))), .val (.int (own_at ua (2 : Int32))), .val (.int (own_at ua (3 : Int32)))] [(.int (1 : Int32)), (.ref b), (.ref b)]))
    refine hst (fun _ kt => XS.iloadN X_12.here hx rfl (hb hby d2_78) rfl kt) ?_
    show G (T_12.setTop (mkF m 79 #[.val (.int (3 : Int32)), .val (.int ua), .val (.int (own_at ua (0 : Int32))), .val (.int (own_at ua (1 : Int32))), .val (.int (own_at ua (2 : Int32))), .val (.int (own_at ua (3 : Int32)))] [(.int (own_at ua (1 : Int32))), (.int (1 : Int32)), (.ref b), (.ref b)]))
    obtain ⟨cl_13, Ar_13, q_13, S_13, M_13, Hs_13, Gs_13⟩ := V_b
    have hin_13 : ¬ ((1 : Int32) < 0 ∨ cl_13.slots.size ≤ ((1 : Int32)).toNatClampNeg) := inb_of S_13 ⟨by decide, by decide⟩
    obtain ⟨T_13, h_13, X_13, e_13, W_13, st_13⟩ := stB X_12 hx hZ e_12 Ar_13 (j := (1 : Int32)) hin_13 (g := (mkF m 79 #[.val (.int (3 : Int32)), .val (.int ua), .val (.int (own_at ua (0 : Int32))), .val (.int (own_at ua (1 : Int32))), .val (.int (own_at ua (2 : Int32))), .val (.int (own_at ua (3 : Int32)))] [(.int (own_at ua (1 : Int32))), (.int (1 : Int32)), (.ref b), (.ref b)])) rfl rfl (hb hby d2_79)
    have V_b := Arv.set Ar_13 q_13 S_13 M_13 Hs_13 Gs_13 (fits_nar_byte _) W_13 1 rfl (Nat.le_of_ble_eq_true rfl)
    have V_b : Arv Z h_13 b k_b .byte (3 : Int32) [(.int (own_nb ua (0 : Int32))), (.int (own_nb ua (1 : Int32))), (.int (0 : Int32))] (.int (0 : Int32)) := V_b
    have Z0 := Nat.le_trans Z0 (Keep.of_wr W_13).1
    have Z1 := Nat.le_trans Z1 (Keep.of_wr W_13).1
    have K0 := K0.wr W_13 (Or.inr le_hh_b)
    have E_b := E_b.wr W_13
    have N_13 := Fr.snoc X_13 N_12 le_n0_b
    refine hst st_13 ?_
    show G (T_13.setTop (mkF m 80 #[.val (.int (3 : Int32)), .val (.int ua), .val (.int (own_at ua (0 : Int32))), .val (.int (own_at ua (1 : Int32))), .val (.int (own_at ua (2 : Int32))), .val (.int (own_at ua (3 : Int32)))] [(.ref b)]))
    refine hst (fun _ kt => XS.dup X_13.here hx rfl (hb hby d2_80) rfl rfl kt) ?_
    show G (T_13.setTop (mkF m 81 #[.val (.int (3 : Int32)), .val (.int ua), .val (.int (own_at ua (0 : Int32))), .val (.int (own_at ua (1 : Int32))), .val (.int (own_at ua (2 : Int32))), .val (.int (own_at ua (3 : Int32)))] [(.ref b), (.ref b)]))
    refine hst (fun _ kt => XS.iconst X_13.here hx rfl (hb hby d2_81) kt) ?_
    show G (T_13.setTop (mkF m 82 #[.val (.int (3 : Int32)), .val (.int ua), .val (.int (own_at ua (0 : Int32))), .val (.int (own_at ua (1 : Int32))), .val (.int (own_at ua (2 : Int32))), .val (.int (own_at ua (3 : Int32)))] [(.int (2 : Int32)), (.ref b), (.ref b)]))
    refine hst (fun _ kt => XS.iload X_13.here hx rfl (hb hby d2_82) rfl kt) ?_
    show G (T_13.setTop (mkF m 84 #[.val (.int (3 : Int32)), .val (.int ua), .val (.int (own_at ua (0 : Int32))), .val (.int (own_at ua (1 : Int32))), .val (.int (own_at ua (2 : Int32))), .val (.int (own_at ua (3 : Int32)))] [(.int (own_at ua (2 : Int32))), (.int (2 : Int32)), (.ref b), (.ref b)]))
    obtain ⟨cl_14, Ar_14, q_14, S_14, M_14, Hs_14, Gs_14⟩ := V_b
    have hin_14 : ¬ ((2 : Int32) < 0 ∨ cl_14.slots.size ≤ ((2 : Int32)).toNatClampNeg) := inb_of S_14 ⟨by decide, by decide⟩
    obtain ⟨T_14, h_14, X_14, e_14, W_14, st_14⟩ := stB X_13 hx hZ e_13 Ar_14 (j := (2 : Int32)) hin_14 (g := (mkF m 84 #[.val (.int (3 : Int32)), .val (.int ua), .val (.int (own_at ua (0 : Int32))), .val (.int (own_at ua (1 : Int32))), .val (.int (own_at ua (2 : Int32))), .val (.int (own_at ua (3 : Int32)))] [(.int (own_at ua (2 : Int32))), (.int (2 : Int32)), (.ref b), (.ref b)])) rfl rfl (hb hby d2_84)
    have V_b := Arv.set Ar_14 q_14 S_14 M_14 Hs_14 Gs_14 (fits_nar_byte _) W_14 2 rfl (Nat.le_of_ble_eq_true rfl)
    have V_b : Arv Z h_14 b k_b .byte (3 : Int32) [(.int (own_nb ua (0 : Int32))), (.int (own_nb ua (1 : Int32))), (.int (own_nb ua (2 : Int32)))] (.int (0 : Int32)) := V_b
    have Z0 := Nat.le_trans Z0 (Keep.of_wr W_14).1
    have Z1 := Nat.le_trans Z1 (Keep.of_wr W_14).1
    have K0 := K0.wr W_14 (Or.inr le_hh_b)
    have E_b := E_b.wr W_14
    have N_14 := Fr.snoc X_14 N_13 le_n0_b
    refine hst st_14 ?_
    show G (T_14.setTop (mkF m 85 #[.val (.int (3 : Int32)), .val (.int ua), .val (.int (own_at ua (0 : Int32))), .val (.int (own_at ua (1 : Int32))), .val (.int (own_at ua (2 : Int32))), .val (.int (own_at ua (3 : Int32)))] [(.ref b)]))
    exact hend (own_goRet X_14 hx Bd.returns rfl (Or.inr (Or.inr (Or.inr (Or.inr ⟨rfl, rfl, rfl⟩)))) (hb hby d2_85) Bd.notSynchronized (by rw [e_14]; exact ⟨b, k_b, rfl, N_14, K0, le_n0_b, le_hh_b, E_b, V_b⟩) (by decide) (by decide))
  ·
    show G (T_4.setTop (mkF m 27 #[.val (.int (4 : Int32)), .val (.int ua), .val (.int (own_at ua (0 : Int32))), .val (.int (own_at ua (1 : Int32))), .val (.int (own_at ua (2 : Int32))), .val (.int (own_at ua (3 : Int32)))] [(.int (4 : Int32))]))
    have hq0 : ¬ ((4 : Int32) = (0 : Int32)) := by decide
    refine hst (fun _ kt => XS.ifYes X_4.here hx rfl (pc0 := 27) (pc' := 34) rfl (hb hby d2_27) rfl ((if0 _ _).trans (feq hq0).2) (by decide) (by decide) kt) ?_
    show G (T_4.setTop (mkF m 34 #[.val (.int (4 : Int32)), .val (.int ua), .val (.int (own_at ua (0 : Int32))), .val (.int (own_at ua (1 : Int32))), .val (.int (own_at ua (2 : Int32))), .val (.int (own_at ua (3 : Int32)))] []))
    refine hst (fun _ kt => XS.iloadN X_4.here hx rfl (hb hby d2_34) rfl kt) ?_
    show G (T_4.setTop (mkF m 35 #[.val (.int (4 : Int32)), .val (.int ua), .val (.int (own_at ua (0 : Int32))), .val (.int (own_at ua (1 : Int32))), .val (.int (own_at ua (2 : Int32))), .val (.int (own_at ua (3 : Int32)))] [(.int (4 : Int32))]))
    refine hst (fun _ kt => XS.iconst X_4.here hx rfl (hb hby d2_35) kt) ?_
    show G (T_4.setTop (mkF m 36 #[.val (.int (4 : Int32)), .val (.int ua), .val (.int (own_at ua (0 : Int32))), .val (.int (own_at ua (1 : Int32))), .val (.int (own_at ua (2 : Int32))), .val (.int (own_at ua (3 : Int32)))] [(.int (1 : Int32)), (.int (4 : Int32))]))
    have hq1 : ¬ ((4 : Int32) = (1 : Int32)) := by decide
    refine hst (fun _ kt => XS.icmpYes X_4.here hx rfl (pc0 := 36) (pc' := 47) rfl (hb hby d2_36) rfl (feq hq1).2 (by decide) (by decide) kt) ?_
    show G (T_4.setTop (mkF m 47 #[.val (.int (4 : Int32)), .val (.int ua), .val (.int (own_at ua (0 : Int32))), .val (.int (own_at ua (1 : Int32))), .val (.int (own_at ua (2 : Int32))), .val (.int (own_at ua (3 : Int32)))] []))
    refine hst (fun _ kt => XS.iloadN X_4.here hx rfl (hb hby d2_47) rfl kt) ?_
    show G (T_4.setTop (mkF m 48 #[.val (.int (4 : Int32)), .val (.int ua), .val (.int (own_at ua (0 : Int32))), .val (.int (own_at ua (1 : Int32))), .val (.int (own_at ua (2 : Int32))), .val (.int (own_at ua (3 : Int32)))] [(.int (4 : Int32))]))
    refine hst (fun _ kt => XS.iconst X_4.here hx rfl (hb hby d2_48) kt) ?_
    show G (T_4.setTop (mkF m 49 #[.val (.int (4 : Int32)), .val (.int ua), .val (.int (own_at ua (0 : Int32))), .val (.int (own_at ua (1 : Int32))), .val (.int (own_at ua (2 : Int32))), .val (.int (own_at ua (3 : Int32)))] [(.int (2 : Int32)), (.int (4 : Int32))]))
    have hq2 : ¬ ((4 : Int32) = (2 : Int32)) := by decide
    refine hst (fun _ kt => XS.icmpYes X_4.here hx rfl (pc0 := 49) (pc' := 64) rfl (hb hby d2_49) rfl (feq hq2).2 (by decide) (by decide) kt) ?_
    show G (T_4.setTop (mkF m 64 #[.val (.int (4 : Int32)), .val (.int ua), .val (.int (own_at ua (0 : Int32))), .val (.int (own_at ua (1 : Int32))), .val (.int (own_at ua (2 : Int32))), .val (.int (own_at ua (3 : Int32)))] []))
    refine hst (fun _ kt => XS.iloadN X_4.here hx rfl (hb hby d2_64) rfl kt) ?_
    show G (T_4.setTop (mkF m 65 #[.val (.int (4 : Int32)), .val (.int ua), .val (.int (own_at ua (0 : Int32))), .val (.int (own_at ua (1 : Int32))), .val (.int (own_at ua (2 : Int32))), .val (.int (own_at ua (3 : Int32)))] [(.int (4 : Int32))]))
    refine hst (fun _ kt => XS.iconst X_4.here hx rfl (hb hby d2_65) kt) ?_
    show G (T_4.setTop (mkF m 66 #[.val (.int (4 : Int32)), .val (.int ua), .val (.int (own_at ua (0 : Int32))), .val (.int (own_at ua (1 : Int32))), .val (.int (own_at ua (2 : Int32))), .val (.int (own_at ua (3 : Int32)))] [(.int (3 : Int32)), (.int (4 : Int32))]))
    have hq3 : ¬ ((4 : Int32) = (3 : Int32)) := by decide
    refine hst (fun _ kt => XS.icmpYes X_4.here hx rfl (pc0 := 66) (pc' := 86) rfl (hb hby d2_66) rfl (feq hq3).2 (by decide) (by decide) kt) ?_
    show G (T_4.setTop (mkF m 86 #[.val (.int (4 : Int32)), .val (.int ua), .val (.int (own_at ua (0 : Int32))), .val (.int (own_at ua (1 : Int32))), .val (.int (own_at ua (2 : Int32))), .val (.int (own_at ua (3 : Int32)))] []))
    refine hst (fun _ kt => XS.iconst X_4.here hx rfl (hb hby d2_86) kt) ?_
    show G (T_4.setTop (mkF m 87 #[.val (.int (4 : Int32)), .val (.int ua), .val (.int (own_at ua (0 : Int32))), .val (.int (own_at ua (1 : Int32))), .val (.int (own_at ua (2 : Int32))), .val (.int (own_at ua (3 : Int32)))] [(.int (4 : Int32))]))
    obtain ⟨T_15, h_15, k_b, X_15, e_15, E_15, A_15, Ax_15, st_15⟩ := newPE (aty := .byte) X_4 hx hZ (own_w8 hw) eh_4 (g := (mkF m 87 #[.val (.int (4 : Int32)), .val (.int ua), .val (.int (own_at ua (0 : Int32))), .val (.int (own_at ua (1 : Int32))), .val (.int (own_at ua (2 : Int32))), .val (.int (own_at ua (3 : Int32)))] [(.int (4 : Int32))])) rfl (hb hby d2_87) rfl (by decide) (cap := 4) (by decide) (by decide) (by decide) (by decide) (ad := "[B") (by decide)
    obtain ⟨b, g_b⟩ : ∃ z, z = h0.size := ⟨_, rfl⟩
    rw [← g_b] at A_15 Ax_15 st_15
    have le_n0_b : n0 ≤ b := Nat.le_trans Z0 (Nat.le_of_eq g_b.symm)
    have le_hh_b : h0.size ≤ b := Nat.le_trans Z1 (Nat.le_of_eq g_b.symm)
    have Z0 := Nat.le_trans Z0 E_15.1
    have Z1 := Nat.le_trans Z1 E_15.1
    have K0 := K0.ext E_15
    have V_b : Arv Z h_15 b k_b .byte (4 : Int32) [(.int (0 : Int32)), (.int (0 : Int32)), (.int (0 : Int32)), (.int (0 : Int32))] (.int (0 : Int32)) := (Arv.new A_15 (by decide)).pad (pad_rep [] (.int (0 : Int32)) 4)
    have E_b : Exa Z h_15 b "[B" := Ax_15
    refine hst st_15 ?_
    show G (T_15.setTop (mkF m 89 #[.val (.int (4 : Int32)), .val (.int ua), .val (.int (own_at ua (0 : Int32))), .val (.int (own_at ua (1 : Int32))), .val (.int (own_at ua (2 : Int32))), .val (.int (own_at ua (3 : Int32)))] [(.ref b)]))
    refine hst (fun _ kt => XS.dup X_15.here hx rfl (hb hby d2_89) rfl rfl kt) ?_
    show G (T_15.setTop (mkF m 90 #[.val (.int (4 : Int32)), .val (.int ua), .val (.int (own_at ua (0 : Int32))), .val (.int (own_at ua (1 : Int32))), .val (.int (own_at ua (2 : Int32))), .val (.int (own_at ua (3 : Int32)))] [(.ref b), (.ref b)]))
    refine hst (fun _ kt => XS.iconst X_15.here hx rfl (hb hby d2_90) kt) ?_
    show G (T_15.setTop (mkF m 91 #[.val (.int (4 : Int32)), .val (.int ua), .val (.int (own_at ua (0 : Int32))), .val (.int (own_at ua (1 : Int32))), .val (.int (own_at ua (2 : Int32))), .val (.int (own_at ua (3 : Int32)))] [(.int (0 : Int32)), (.ref b), (.ref b)]))
    refine hst (fun _ kt => XS.iloadN X_15.here hx rfl (hb hby d2_91) rfl kt) ?_
    show G (T_15.setTop (mkF m 92 #[.val (.int (4 : Int32)), .val (.int ua), .val (.int (own_at ua (0 : Int32))), .val (.int (own_at ua (1 : Int32))), .val (.int (own_at ua (2 : Int32))), .val (.int (own_at ua (3 : Int32)))] [(.int (own_at ua (0 : Int32))), (.int (0 : Int32)), (.ref b), (.ref b)]))
    obtain ⟨cl_16, Ar_16, q_16, S_16, M_16, Hs_16, Gs_16⟩ := V_b
    have hin_16 : ¬ ((0 : Int32) < 0 ∨ cl_16.slots.size ≤ ((0 : Int32)).toNatClampNeg) := inb_of S_16 ⟨by decide, by decide⟩
    obtain ⟨T_16, h_16, X_16, e_16, W_16, st_16⟩ := stB X_15 hx hZ e_15 Ar_16 (j := (0 : Int32)) hin_16 (g := (mkF m 92 #[.val (.int (4 : Int32)), .val (.int ua), .val (.int (own_at ua (0 : Int32))), .val (.int (own_at ua (1 : Int32))), .val (.int (own_at ua (2 : Int32))), .val (.int (own_at ua (3 : Int32)))] [(.int (own_at ua (0 : Int32))), (.int (0 : Int32)), (.ref b), (.ref b)])) rfl rfl (hb hby d2_92)
    have V_b := Arv.set Ar_16 q_16 S_16 M_16 Hs_16 Gs_16 (fits_nar_byte _) W_16 0 rfl (Nat.le_of_ble_eq_true rfl)
    have V_b : Arv Z h_16 b k_b .byte (4 : Int32) [(.int (own_nb ua (0 : Int32))), (.int (0 : Int32)), (.int (0 : Int32)), (.int (0 : Int32))] (.int (0 : Int32)) := V_b
    have Z0 := Nat.le_trans Z0 (Keep.of_wr W_16).1
    have Z1 := Nat.le_trans Z1 (Keep.of_wr W_16).1
    have K0 := K0.wr W_16 (Or.inr le_hh_b)
    have E_b := E_b.wr W_16
    have N_16 := Fr.snoc X_16 N_4 le_n0_b
    refine hst st_16 ?_
    show G (T_16.setTop (mkF m 93 #[.val (.int (4 : Int32)), .val (.int ua), .val (.int (own_at ua (0 : Int32))), .val (.int (own_at ua (1 : Int32))), .val (.int (own_at ua (2 : Int32))), .val (.int (own_at ua (3 : Int32)))] [(.ref b)]))
    refine hst (fun _ kt => XS.dup X_16.here hx rfl (hb hby d2_93) rfl rfl kt) ?_
    show G (T_16.setTop (mkF m 94 #[.val (.int (4 : Int32)), .val (.int ua), .val (.int (own_at ua (0 : Int32))), .val (.int (own_at ua (1 : Int32))), .val (.int (own_at ua (2 : Int32))), .val (.int (own_at ua (3 : Int32)))] [(.ref b), (.ref b)]))
    refine hst (fun _ kt => XS.iconst X_16.here hx rfl (hb hby d2_94) kt) ?_
    show G (T_16.setTop (mkF m 95 #[.val (.int (4 : Int32)), .val (.int ua), .val (.int (own_at ua (0 : Int32))), .val (.int (own_at ua (1 : Int32))), .val (.int (own_at ua (2 : Int32))), .val (.int (own_at ua (3 : Int32)))] [(.int (1 : Int32)), (.ref b), (.ref b)]))
    refine hst (fun _ kt => XS.iloadN X_16.here hx rfl (hb hby d2_95) rfl kt) ?_
    show G (T_16.setTop (mkF m 96 #[.val (.int (4 : Int32)), .val (.int ua), .val (.int (own_at ua (0 : Int32))), .val (.int (own_at ua (1 : Int32))), .val (.int (own_at ua (2 : Int32))), .val (.int (own_at ua (3 : Int32)))] [(.int (own_at ua (1 : Int32))), (.int (1 : Int32)), (.ref b), (.ref b)]))
    obtain ⟨cl_17, Ar_17, q_17, S_17, M_17, Hs_17, Gs_17⟩ := V_b
    have hin_17 : ¬ ((1 : Int32) < 0 ∨ cl_17.slots.size ≤ ((1 : Int32)).toNatClampNeg) := inb_of S_17 ⟨by decide, by decide⟩
    obtain ⟨T_17, h_17, X_17, e_17, W_17, st_17⟩ := stB X_16 hx hZ e_16 Ar_17 (j := (1 : Int32)) hin_17 (g := (mkF m 96 #[.val (.int (4 : Int32)), .val (.int ua), .val (.int (own_at ua (0 : Int32))), .val (.int (own_at ua (1 : Int32))), .val (.int (own_at ua (2 : Int32))), .val (.int (own_at ua (3 : Int32)))] [(.int (own_at ua (1 : Int32))), (.int (1 : Int32)), (.ref b), (.ref b)])) rfl rfl (hb hby d2_96)
    have V_b := Arv.set Ar_17 q_17 S_17 M_17 Hs_17 Gs_17 (fits_nar_byte _) W_17 1 rfl (Nat.le_of_ble_eq_true rfl)
    have V_b : Arv Z h_17 b k_b .byte (4 : Int32) [(.int (own_nb ua (0 : Int32))), (.int (own_nb ua (1 : Int32))), (.int (0 : Int32)), (.int (0 : Int32))] (.int (0 : Int32)) := V_b
    have Z0 := Nat.le_trans Z0 (Keep.of_wr W_17).1
    have Z1 := Nat.le_trans Z1 (Keep.of_wr W_17).1
    have K0 := K0.wr W_17 (Or.inr le_hh_b)
    have E_b := E_b.wr W_17
    have N_17 := Fr.snoc X_17 N_16 le_n0_b
    refine hst st_17 ?_
    show G (T_17.setTop (mkF m 97 #[.val (.int (4 : Int32)), .val (.int ua), .val (.int (own_at ua (0 : Int32))), .val (.int (own_at ua (1 : Int32))), .val (.int (own_at ua (2 : Int32))), .val (.int (own_at ua (3 : Int32)))] [(.ref b)]))
    refine hst (fun _ kt => XS.dup X_17.here hx rfl (hb hby d2_97) rfl rfl kt) ?_
    show G (T_17.setTop (mkF m 98 #[.val (.int (4 : Int32)), .val (.int ua), .val (.int (own_at ua (0 : Int32))), .val (.int (own_at ua (1 : Int32))), .val (.int (own_at ua (2 : Int32))), .val (.int (own_at ua (3 : Int32)))] [(.ref b), (.ref b)]))
    refine hst (fun _ kt => XS.iconst X_17.here hx rfl (hb hby d2_98) kt) ?_
    show G (T_17.setTop (mkF m 99 #[.val (.int (4 : Int32)), .val (.int ua), .val (.int (own_at ua (0 : Int32))), .val (.int (own_at ua (1 : Int32))), .val (.int (own_at ua (2 : Int32))), .val (.int (own_at ua (3 : Int32)))] [(.int (2 : Int32)), (.ref b), (.ref b)]))
    refine hst (fun _ kt => XS.iload X_17.here hx rfl (hb hby d2_99) rfl kt) ?_
    show G (T_17.setTop (mkF m 101 #[.val (.int (4 : Int32)), .val (.int ua), .val (.int (own_at ua (0 : Int32))), .val (.int (own_at ua (1 : Int32))), .val (.int (own_at ua (2 : Int32))), .val (.int (own_at ua (3 : Int32)))] [(.int (own_at ua (2 : Int32))), (.int (2 : Int32)), (.ref b), (.ref b)]))
    obtain ⟨cl_18, Ar_18, q_18, S_18, M_18, Hs_18, Gs_18⟩ := V_b
    have hin_18 : ¬ ((2 : Int32) < 0 ∨ cl_18.slots.size ≤ ((2 : Int32)).toNatClampNeg) := inb_of S_18 ⟨by decide, by decide⟩
    obtain ⟨T_18, h_18, X_18, e_18, W_18, st_18⟩ := stB X_17 hx hZ e_17 Ar_18 (j := (2 : Int32)) hin_18 (g := (mkF m 101 #[.val (.int (4 : Int32)), .val (.int ua), .val (.int (own_at ua (0 : Int32))), .val (.int (own_at ua (1 : Int32))), .val (.int (own_at ua (2 : Int32))), .val (.int (own_at ua (3 : Int32)))] [(.int (own_at ua (2 : Int32))), (.int (2 : Int32)), (.ref b), (.ref b)])) rfl rfl (hb hby d2_101)
    have V_b := Arv.set Ar_18 q_18 S_18 M_18 Hs_18 Gs_18 (fits_nar_byte _) W_18 2 rfl (Nat.le_of_ble_eq_true rfl)
    have V_b : Arv Z h_18 b k_b .byte (4 : Int32) [(.int (own_nb ua (0 : Int32))), (.int (own_nb ua (1 : Int32))), (.int (own_nb ua (2 : Int32))), (.int (0 : Int32))] (.int (0 : Int32)) := V_b
    have Z0 := Nat.le_trans Z0 (Keep.of_wr W_18).1
    have Z1 := Nat.le_trans Z1 (Keep.of_wr W_18).1
    have K0 := K0.wr W_18 (Or.inr le_hh_b)
    have E_b := E_b.wr W_18
    have N_18 := Fr.snoc X_18 N_17 le_n0_b
    refine hst st_18 ?_
    show G (T_18.setTop (mkF m 102 #[.val (.int (4 : Int32)), .val (.int ua), .val (.int (own_at ua (0 : Int32))), .val (.int (own_at ua (1 : Int32))), .val (.int (own_at ua (2 : Int32))), .val (.int (own_at ua (3 : Int32)))] [(.ref b)]))
    refine hst (fun _ kt => XS.dup X_18.here hx rfl (hb hby d2_102) rfl rfl kt) ?_
    show G (T_18.setTop (mkF m 103 #[.val (.int (4 : Int32)), .val (.int ua), .val (.int (own_at ua (0 : Int32))), .val (.int (own_at ua (1 : Int32))), .val (.int (own_at ua (2 : Int32))), .val (.int (own_at ua (3 : Int32)))] [(.ref b), (.ref b)]))
    refine hst (fun _ kt => XS.iconst X_18.here hx rfl (hb hby d2_103) kt) ?_
    show G (T_18.setTop (mkF m 104 #[.val (.int (4 : Int32)), .val (.int ua), .val (.int (own_at ua (0 : Int32))), .val (.int (own_at ua (1 : Int32))), .val (.int (own_at ua (2 : Int32))), .val (.int (own_at ua (3 : Int32)))] [(.int (3 : Int32)), (.ref b), (.ref b)]))
    refine hst (fun _ kt => XS.iload X_18.here hx rfl (hb hby d2_104) rfl kt) ?_
    show G (T_18.setTop (mkF m 106 #[.val (.int (4 : Int32)), .val (.int ua), .val (.int (own_at ua (0 : Int32))), .val (.int (own_at ua (1 : Int32))), .val (.int (own_at ua (2 : Int32))), .val (.int (own_at ua (3 : Int32)))] [(.int (own_at ua (3 : Int32))), (.int (3 : Int32)), (.ref b), (.ref b)]))
    obtain ⟨cl_19, Ar_19, q_19, S_19, M_19, Hs_19, Gs_19⟩ := V_b
    have hin_19 : ¬ ((3 : Int32) < 0 ∨ cl_19.slots.size ≤ ((3 : Int32)).toNatClampNeg) := inb_of S_19 ⟨by decide, by decide⟩
    obtain ⟨T_19, h_19, X_19, e_19, W_19, st_19⟩ := stB X_18 hx hZ e_18 Ar_19 (j := (3 : Int32)) hin_19 (g := (mkF m 106 #[.val (.int (4 : Int32)), .val (.int ua), .val (.int (own_at ua (0 : Int32))), .val (.int (own_at ua (1 : Int32))), .val (.int (own_at ua (2 : Int32))), .val (.int (own_at ua (3 : Int32)))] [(.int (own_at ua (3 : Int32))), (.int (3 : Int32)), (.ref b), (.ref b)])) rfl rfl (hb hby d2_106)
    have V_b := Arv.set Ar_19 q_19 S_19 M_19 Hs_19 Gs_19 (fits_nar_byte _) W_19 3 rfl (Nat.le_of_ble_eq_true rfl)
    have V_b : Arv Z h_19 b k_b .byte (4 : Int32) [(.int (own_nb ua (0 : Int32))), (.int (own_nb ua (1 : Int32))), (.int (own_nb ua (2 : Int32))), (.int (own_nb ua (3 : Int32)))] (.int (0 : Int32)) := V_b
    have Z0 := Nat.le_trans Z0 (Keep.of_wr W_19).1
    have Z1 := Nat.le_trans Z1 (Keep.of_wr W_19).1
    have K0 := K0.wr W_19 (Or.inr le_hh_b)
    have E_b := E_b.wr W_19
    have N_19 := Fr.snoc X_19 N_18 le_n0_b
    refine hst st_19 ?_
    show G (T_19.setTop (mkF m 107 #[.val (.int (4 : Int32)), .val (.int ua), .val (.int (own_at ua (0 : Int32))), .val (.int (own_at ua (1 : Int32))), .val (.int (own_at ua (2 : Int32))), .val (.int (own_at ua (3 : Int32)))] [(.ref b)]))
    exact hend (own_goRet X_19 hx Bd.returns rfl (Or.inr (Or.inr (Or.inr (Or.inr ⟨rfl, rfl, rfl⟩)))) (hb hby d2_107) Bd.notSynchronized (by rw [e_19]; exact ⟨b, k_b, rfl, N_19, K0, le_n0_b, le_hh_b, E_b, V_b⟩) (by decide) (by decide))
theorem d3_0 : decode jdk_31_method_11_code 0 = .ok (.aload_n 0, 1) := by decide +kernel
theorem d3_1 : decode jdk_31_method_11_code 1 = .ok (.ifnonnull 12, 3) := by decide +kernel
theorem d3_13 : decode jdk_31_method_11_code 13 = .ok (.aload_n 0, 1) := by decide +kernel
theorem d3_14 : decode jdk_31_method_11_code 14 = .ok (.areturn, 1) := by decide +kernel
theorem ef_3 (m : MethodId) (y : Addr) (ys : Addr) : entryFrame m #[(.ref y), (.ref ys)] 2 = mkF m 0 #[.val (.ref y), .val (.ref ys)] [] := by first | (simp [entryFrame, mkF, argsToLocals, Value.category]; done) | rfl
theorem pn_3 : plainName "java/util/Objects" = true := by first | decide +kernel | (simp [plainName, overriddenIn]; done)
set_option maxRecDepth 65536 in
set_option maxHeartbeats 40000000 in
theorem rm3 (l : Launch) (Z : State) (a0 : Array Value) (hw : ∀ d ∈ tables_1, d.before a0 Z = true) (ws : List Jvm.Cond) (y : Addr) (ys : Addr) (h0 : Heap) (n0 : Nat) (Z0 : n0 ≤ h0.size) :
    MetFree l (⟨"java/util/Objects", "requireNonNull", "(Ljava/lang/Object;Ljava/lang/String;)Ljava/lang/Object;"⟩ : MethodName) (head1 (Jvm.Cond.code (⟨"java/util/Objects", "requireNonNull", "(Ljava/lang/Object;Ljava/lang/String;)Ljava/lang/Object;"⟩ : MethodName) jdk_31_method_11_code 2 (some (.object "java/lang/Object")) :: ws) ({ frames := 0, cells := 0, slots := 0, locals := 0 } : Room)) (fun a_ U_ => a_ = #[(.ref y), (.ref ys)] ∧ Z.Warmed39 U_.vm ∧ U_.heap = h0) (fun _ _ _ _ _ => True) (fun _ U_ o_ W_ => ∃ v_ L_, o_ = .returned v_ ∧ own_QR y h0 n0 v_ W_.heap L_ ∧ FrameEnd U_ o_ W_ L_ ({ frames := 0, cells := 0, slots := 0, locals := 0 } : Room).cells ({ frames := 0, cells := 0, slots := 0, locals := 0 } : Room).slots) := by
  refine MetFree.of_bodySF (plainFor_of_name pn_3) hisR ?_
  intro p e s m args below meth c s₁ Bd hml0 hP hK
  obtain ⟨rfl, hZ, hh⟩ := hP
  have hx := Bd.exec
  have hby := Bd.bytes
  have hml : c.maxLocals = 2 := hml0
  have hown : s.vm.findClass "java/util/Objects" = some m.cls := by have z := findClass_of_methodNamed Bd.named; exact z
  have hnm := (name_of_methodNamed Bd.named Bd.method).1
  have X0 : Stand p l e ({ frames := 0, cells := 0, slots := 0, locals := 0 } : Room) s m #[(.ref y), (.ref ys)] below meth c s₁ [] 0 0 := Stand.of_body Bd
  have e0 : s₁.heap = h0 := by rw [← hh, Bd.state]; rfl
  have N0 := Fr.nil n0
  obtain ⟨G, hG, hst, hend⟩ := own_abs p e below s (own_QR y h0 n0) ({ frames := 0, cells := 0, slots := 0, locals := 0 } : Room).cells ({ frames := 0, cells := 0, slots := 0, locals := 0 } : Room).slots
  refine hG (S := s₁.setTop (entryFrame m #[(.ref y), (.ref ys)] 2)) (hst (fun t k => castTop (ef_3 m y ys) k) ?_)
  show G (s₁.setTop (mkF m 0 #[.val (.ref y), .val (.ref ys)] []))
  refine hst (fun _ kt => XS.aloadN X0.here hx rfl (hb hby d3_0) rfl rfl kt) ?_
  show G (s₁.setTop (mkF m 1 #[.val (.ref y), .val (.ref ys)] [(.ref y)]))
  refine hst (fun _ kt => XS.ifnonnullYes X0.here hx rfl (pc0 := 1) (pc' := 13) rfl (hb hby d3_1) rfl (by decide) (by decide) kt) ?_
  show G (s₁.setTop (mkF m 13 #[.val (.ref y), .val (.ref ys)] []))
  refine hst (fun _ kt => XS.aloadN X0.here hx rfl (hb hby d3_13) rfl rfl kt) ?_
  show G (s₁.setTop (mkF m 14 #[.val (.ref y), .val (.ref ys)] [(.ref y)]))
  exact hend (own_goRet X0 hx Bd.returns rfl (Or.inr (Or.inr (Or.inr (Or.inr ⟨rfl, rfl, rfl⟩)))) (hb hby d3_14) Bd.notSynchronized (by rw [e0]; exact ⟨rfl, N0, rfl⟩) (by decide) (by decide))
theorem d4_0 : decode prog_4_method_1_code 0 = .ok (.aload_n 0, 1) := by decide +kernel
theorem d4_1 : decode prog_4_method_1_code 1 = .ok (.invokespecial 1, 3) := by decide +kernel
theorem d4_4 : decode prog_4_method_1_code 4 = .ok (.aload_n 0, 1) := by decide +kernel
theorem d4_5 : decode prog_4_method_1_code 5 = .ok (.aload_n 1, 1) := by decide +kernel
theorem d4_6 : decode prog_4_method_1_code 6 = .ok (.putfield 7, 3) := by decide +kernel
theorem d4_9 : decode prog_4_method_1_code 9 = .ok (.return_, 1) := by decide +kernel
theorem ef_4 (m : MethodId) (o : Addr) (b : Addr) : entryFrame m #[(.ref o), (.ref b)] 2 = mkF m 0 #[.val (.ref o), .val (.ref b)] [] := by first | (simp [entryFrame, mkF, argsToLocals, Value.category]; done) | rfl
theorem pn_4 : plainName own_K = true := by first | decide +kernel | (simp [plainName, overriddenIn]; done)
set_option maxRecDepth 65536 in
set_option maxHeartbeats 40000000 in
theorem rm4 (l : Launch) (Z : State) (a0 : Array Value) (hw : ∀ d ∈ tables_1, d.before a0 Z = true) (ws : List Jvm.Cond) (o : Addr) (b : Addr) (h0 : Heap) (n0 : Nat) (Z0 : n0 ≤ h0.size) (F_bytes_o : Fld Z h0 o own_K "bytes" "[B" .null) (E_o : Exa Z h0 o own_K) (le_n0_o : n0 ≤ o) :
    MetFree l (⟨own_K, "<init>", "([B)V"⟩ : MethodName) (head1 (Jvm.Cond.code (⟨own_K, "<init>", "([B)V"⟩ : MethodName) prog_4_method_1_code 2 none :: ws) ({ frames := 1, cells := 0, slots := 0, locals := 12 } : Room)) (fun a_ U_ => a_ = #[(.ref o), (.ref b)] ∧ Z.Warmed39 U_.vm ∧ U_.heap = h0) (fun _ _ _ _ _ => True) (fun _ U_ o_ W_ => ∃ v_ L_, o_ = .returned v_ ∧ own_Qi Z o b h0 n0 v_ W_.heap L_ ∧ FrameEnd U_ o_ W_ L_ ({ frames := 1, cells := 0, slots := 0, locals := 12 } : Room).cells ({ frames := 1, cells := 0, slots := 0, locals := 12 } : Room).slots) := by
  refine MetFree.of_bodySF (plainFor_of_name pn_4) hisR ?_
  intro p e s m args below meth c s₁ Bd hml0 hP hK
  obtain ⟨rfl, hZ, hh⟩ := hP
  have hx := Bd.exec
  have hby := Bd.bytes
  have hml : c.maxLocals = 2 := hml0
  have hown : s.vm.findClass own_K = some m.cls := by have z := findClass_of_methodNamed Bd.named; exact z
  have hnm := (name_of_methodNamed Bd.named Bd.method).1
  have X0 : Stand p l e ({ frames := 1, cells := 0, slots := 0, locals := 12 } : Room) s m #[(.ref o), (.ref b)] below meth c s₁ [] 0 0 := Stand.of_body Bd
  have e0 : s₁.heap = h0 := by rw [← hh, Bd.state]; rfl
  have N0 := Fr.nil n0
  obtain ⟨G, hG, hst, hend⟩ := own_abs p e below s (own_Qi Z o b h0 n0) ({ frames := 1, cells := 0, slots := 0, locals := 12 } : Room).cells ({ frames := 1, cells := 0, slots := 0, locals := 12 } : Room).slots
  refine hG (S := s₁.setTop (entryFrame m #[(.ref o), (.ref b)] 2)) (hst (fun t k => castTop (ef_4 m o b) k) ?_)
  have Z1 := Nat.le_refl h0.size
  have K0 := Keep.refl h0 [o]
  show G (s₁.setTop (mkF m 0 #[.val (.ref o), .val (.ref b)] []))
  refine hst (fun _ kt => XS.aloadN X0.here hx rfl (hb hby d4_0) rfl rfl kt) ?_
  show G (s₁.setTop (mkF m 1 #[.val (.ref o), .val (.ref b)] [(.ref o)]))
  obtain ⟨T_1, X_1, e_1, st_1⟩ := initO X0 hx hZ hown (own_w42 hw) (own_w43 hw) (own_w44 hw) e0 (g := (mkF m 1 #[.val (.ref o), .val (.ref b)] [(.ref o)])) rfl (by rw [hml]; rfl) rfl (hb hby d4_1) (by decide) (W := 0) (by show 2 * 0 + _ ≤ _; exact Nat.le_of_eq rfl) (by decide)
  refine hst st_1 ?_
  show G (T_1.setTop (mkF m 4 #[.val (.ref o), .val (.ref b)] []))
  refine hst (fun _ kt => XS.aloadN X_1.here hx rfl (hb hby d4_4) rfl rfl kt) ?_
  show G (T_1.setTop (mkF m 5 #[.val (.ref o), .val (.ref b)] [(.ref o)]))
  refine hst (fun _ kt => XS.aloadN X_1.here hx rfl (hb hby d4_5) rfl rfl kt) ?_
  show G (T_1.setTop (mkF m 6 #[.val (.ref o), .val (.ref b)] [(.ref b), (.ref o)]))
  obtain ⟨T_2, h_2, X_2, e_2, W_2, st_2⟩ := putF X_1 hx hZ hown (host := "") (Or.inl (own_w45 hw)) Via.refl e_1 F_bytes_o E_o (Or.inr ⟨(own_w46 hw), rfl, hnm⟩) (own_w38 hw) (ty := (.array .byte)) (by decide) rfl rfl (g := (mkF m 6 #[.val (.ref o), .val (.ref b)] [(.ref b), (.ref o)])) rfl rfl (hb hby d4_6)
  have Z0 := Nat.le_trans Z0 (Keep.of_wr W_2).1
  have Z1 := Nat.le_trans Z1 (Keep.of_wr W_2).1
  have F_bytes_o := F_bytes_o.same W_2
  have E_o := E_o.wr W_2
  have K0 := K0.wr W_2 (Or.inl (List.mem_of_getElem? (i := 0) rfl))
  have N_2 := Fr.snoc X_2 N0 le_n0_o
  refine hst st_2 ?_
  show G (T_2.setTop (mkF m 9 #[.val (.ref o), .val (.ref b)] []))
  exact hend (own_goVoid X_2 hx Bd.returns (hb hby d4_9) Bd.notSynchronized (by rw [e_2]; exact ⟨rfl, N_2, K0, E_o, F_bytes_o⟩) (by decide) (by decide))
theorem d5_0 : decode prog_4_method_4_code 0 = .ok (.aload_n 0, 1) := by decide +kernel
theorem d5_1 : decode prog_4_method_4_code 1 = .ok (.arraylength, 1) := by decide +kernel
theorem d5_2 : decode prog_4_method_4_code 2 = .ok (.ldc 70, 2) := by decide +kernel
theorem d5_4 : decode prog_4_method_4_code 4 = .ok (.if_icmp .le 18, 3) := by decide +kernel
theorem d5_22 : decode prog_4_method_4_code 22 = .ok (.new 8, 3) := by decide +kernel
theorem d5_25 : decode prog_4_method_4_code 25 = .ok (.dup, 1) := by decide +kernel
theorem d5_26 : decode prog_4_method_4_code 26 = .ok (.aload_n 0, 1) := by decide +kernel
theorem d5_27 : decode prog_4_method_4_code 27 = .ok (.invokespecial 75, 3) := by decide +kernel
theorem d5_30 : decode prog_4_method_4_code 30 = .ok (.areturn, 1) := by decide +kernel
theorem ef_5 (m : MethodId) (b : Addr) : entryFrame m #[(.ref b)] 1 = mkF m 0 #[.val (.ref b)] [] := by first | (simp [entryFrame, mkF, argsToLocals, Value.category]; done) | rfl
theorem pn_5 : plainName own_K = true := by first | decide +kernel | (simp [plainName, overriddenIn]; done)
set_option maxRecDepth 65536 in
set_option maxHeartbeats 40000000 in
theorem rm5 (l : Launch) (Z : State) (a0 : Array Value) (hw : ∀ d ∈ tables_1, d.before a0 Z = true) (ws : List Jvm.Cond) (b : Addr) (kb : ClassId) (un : Int32) (ua : Int32) (h0 : Heap) (n0 : Nat) (Z0 : n0 ≤ h0.size) (hin : own_In un) (V_b : Arv Z h0 b kb .byte un (own_l un ua) (.int (0 : Int32))) :
    MetFree l (⟨own_K, "checked", "([B)Lcom/example/splitpoint/splitpoint/keys/Key;"⟩ : MethodName) (head1 (Jvm.Cond.code (⟨own_K, "checked", "([B)Lcom/example/splitpoint/splitpoint/keys/Key;"⟩ : MethodName) prog_4_method_4_code 1 (some (.object own_K)) :: ws) ({ frames := 2, cells := 1, slots := 1, locals := 26 } : Room)) (fun a_ U_ => a_ = #[(.ref b)] ∧ Z.Warmed39 U_.vm ∧ U_.heap = h0) (fun _ _ _ _ _ => True) (fun _ U_ o_ W_ => ∃ v_ L_, o_ = .returned v_ ∧ own_Qc Z b h0 n0 v_ W_.heap L_ ∧ FrameEnd U_ o_ W_ L_ ({ frames := 2, cells := 1, slots := 1, locals := 26 } : Room).cells ({ frames := 2, cells := 1, slots := 1, locals := 26 } : Room).slots) := by
  refine MetFree.of_bodySF (plainFor_of_name pn_5) hisR ?_
  intro p e s m args below meth c s₁ Bd hml0 hP hK
  obtain ⟨rfl, hZ, hh⟩ := hP
  have hx := Bd.exec
  have hby := Bd.bytes
  have hml : c.maxLocals = 1 := hml0
  have hown : s.vm.findClass own_K = some m.cls := by have z := findClass_of_methodNamed Bd.named; exact z
  have hnm := (name_of_methodNamed Bd.named Bd.method).1
  have X0 : Stand p l e ({ frames := 2, cells := 1, slots := 1, locals := 26 } : Room) s m #[(.ref b)] below meth c s₁ [] 0 0 := Stand.of_body Bd
  have e0 : s₁.heap = h0 := by rw [← hh, Bd.state]; rfl
  have N0 := Fr.nil n0
  obtain ⟨G, hG, hst, hend⟩ := own_abs p e below s (own_Qc Z b h0 n0) ({ frames := 2, cells := 1, slots := 1, locals := 26 } : Room).cells ({ frames := 2, cells := 1, slots := 1, locals := 26 } : Room).slots
  refine hG (S := s₁.setTop (entryFrame m #[(.ref b)] 1)) (hst (fun t k => castTop (ef_5 m b) k) ?_)
  have Z1 := Nat.le_refl h0.size
  have K0 := Keep.refl h0 []
  show G (s₁.setTop (mkF m 0 #[.val (.ref b)] []))
  refine hst (fun _ kt => XS.aloadN X0.here hx rfl (hb hby d5_0) rfl rfl kt) ?_
  show G (s₁.setTop (mkF m 1 #[.val (.ref b)] [(.ref b)]))
  obtain ⟨cl_1, Ar_1, -, S_1, M_1, -, -⟩ := id V_b
  refine hst (X0.arraylength hx (by rw [e0]; exact Ar_1.1) (State.isArrayOf_alike hZ.alike Ar_1.2.1) (g := (mkF m 1 #[.val (.ref b)] [(.ref b)])) rfl rfl (hb hby d5_1)) ?_
  rw [len_of S_1 M_1]
  show G (s₁.setTop (mkF m 2 #[.val (.ref b)] [(.int un)]))
  refine hst (X0.ldcInt hx hown (mvT hZ (own_w36 hw)) (g := (mkF m 2 #[.val (.ref b)] [(.int un)])) rfl (hb hby d5_2)) ?_
  show G (s₁.setTop (mkF m 4 #[.val (.ref b)] [(.int (65535 : Int32)), (.int un)]))
  have hc4 : ¬ ((65535 : Int32) < un) := own_In_le hin
  refine hst (fun _ kt => XS.icmpYes X0.here hx rfl (pc0 := 4) (pc' := 22) rfl (hb hby d5_4) rfl (flt hc4).2.2.2 (by decide) (by decide) kt) ?_
  show G (s₁.setTop (mkF m 22 #[.val (.ref b)] []))
  obtain ⟨T_2, h_2, X_2, e_2, E_2, A_2, D_2, -, st_2⟩ := newO X0 hx hZ hown (own_w37 hw) (own_w38 hw) (own_w11 hw) e0 (g := (mkF m 22 #[.val (.ref b)] [])) rfl (hb hby d5_22) (by decide) (by decide)
  obtain ⟨o, g_o⟩ : ∃ z, z = h0.size := ⟨_, rfl⟩
  rw [← g_o] at A_2 D_2 st_2
  have ne_b_o : b ≠ o := Nat.ne_of_lt (Nat.lt_of_lt_of_le V_b.lt (Nat.le_of_eq g_o.symm))
  have le_n0_o : n0 ≤ o := Nat.le_trans Z0 (Nat.le_of_eq g_o.symm)
  have le_hh_o : h0.size ≤ o := Nat.le_trans Z1 (Nat.le_of_eq g_o.symm)
  have Z0 := Nat.le_trans Z0 E_2.1
  have Z1 := Nat.le_trans Z1 E_2.1
  have V_b := V_b.ext E_2
  have K0 := K0.ext E_2
  have E_o : Exa Z h_2 o own_K := A_2
  have F_bytes_o : Fld Z h_2 o own_K "bytes" "[B" .null := D_2 (Or.inr (own_w46 hw)) (ty := (.array .byte)) (by decide)
  refine hst st_2 ?_
  show G (T_2.setTop (mkF m 25 #[.val (.ref b)] [(.ref o)]))
  refine hst (fun _ kt => XS.dup X_2.here hx rfl (hb hby d5_25) rfl rfl kt) ?_
  show G (T_2.setTop (mkF m 26 #[.val (.ref b)] [(.ref o), (.ref o)]))
  refine hst (fun _ kt => XS.aloadN X_2.here hx rfl (hb hby d5_26) rfl rfl kt) ?_
  show G (T_2.setTop (mkF m 27 #[.val (.ref b)] [(.ref b), (.ref o), (.ref o)]))
  obtain ⟨_, _, ⟨T_3, L_3, k_3, n_3⟩, -, X_3, ⟨Lc_3, hQ_3, l_3, y_3, z_3⟩, st_3⟩ := X_2.specialBack hx (y := (⟨own_K, "<init>", "([B)V"⟩ : MethodName)) rfl hown (mvT hZ (own_w39 hw)) (mvT hZ (own_w40 hw)) (mvT hZ (own_w41 hw)) (by decide) (backOf (W := 1) (rm4 l Z a0 hw [] o b  h_2 n0 Z0 F_bytes_o E_o le_n0_o) hZ (own_w41 hw) (own_w11 hw) (by decide) (by decide)) (g := (mkF m 27 #[.val (.ref b)] [(.ref b), (.ref o), (.ref o)])) rfl (by rw [hml]; rfl) (Steps.refl _) (a := o) (argsL := [(.ref b)]) (rest := [(.ref o)]) (lenOf pd_1 rfl) rfl (by show 2 * 0 + _ ≤ _; exact Nat.le_of_eq rfl) (hb hby d5_27) (fun _ _ => ⟨rfl, e_2, (by decide : 1 + 0 ≤ _), (by decide : 1 + 0 ≤ _)⟩)
  dsimp only [Pt.U, Pt.locs, Pt.cells, Pt.slots] at X_3 l_3 y_3 z_3 st_3 hQ_3
  subst l_3 y_3 z_3
  obtain ⟨rfl, N_3q, K_3, Ex_3, Fb_3⟩ := hQ_3
  have Z0 := Nat.le_trans Z0 K_3.1
  have Z1 := Nat.le_trans Z1 K_3.1
  have V_b := V_b.keep K_3 (ninS ne_b_o nin0)
  have K0 := K0.trans K_3 (allS (Or.inr le_hh_o) all0)
  have E_o := E_o.keep K_3
  have F_bytes_o := Fb_3
  have N_3 := Fr.app N0 N_3q
  refine hst (fun _ kt => st_3.trans kt) ?_
  show G (T_3.setTop (mkF m 30 #[.val (.ref b)] [(.ref o)]))
  exact hend (own_goRet X_3 hx Bd.returns rfl (Or.inr (Or.inr (Or.inr (Or.inr ⟨rfl, rfl, rfl⟩)))) (hb hby d5_30) Bd.notSynchronized (by exact ⟨o, rfl, N_3, K0, le_hh_o, E_o, F_bytes_o⟩) (by decide) (by decide))
theorem d6_0 : decode prog_4_method_2_code 0 = .ok (.aload_n 0, 1) := by decide +kernel
theorem d6_1 : decode prog_4_method_2_code 1 = .ok (.ldc 13, 2) := by decide +kernel
theorem d6_3 : decode prog_4_method_2_code 3 = .ok (.invokestatic 14, 3) := by decide +kernel
theorem d6_6 : decode prog_4_method_2_code 6 = .ok (.pop, 1) := by decide +kernel
theorem d6_7 : decode prog_4_method_2_code 7 = .ok (.aload_n 0, 1) := by decide +kernel
theorem d6_8 : decode prog_4_method_2_code 8 = .ok (.invokevirtual 20, 3) := by decide +kernel
theorem d6_11 : decode prog_4_method_2_code 11 = .ok (.checkcast 21, 3) := by decide +kernel
theorem d6_14 : decode prog_4_method_2_code 14 = .ok (.invokestatic 25, 3) := by decide +kernel
theorem d6_17 : decode prog_4_method_2_code 17 = .ok (.areturn, 1) := by decide +kernel
theorem ef_6 (m : MethodId) (y : Addr) : entryFrame m #[(.ref y)] 1 = mkF m 0 #[.val (.ref y)] [] := by first | (simp [entryFrame, mkF, argsToLocals, Value.category]; done) | rfl
theorem pn_6 : plainName own_K = true := by first | decide +kernel | (simp [plainName, overriddenIn]; done)
set_option maxRecDepth 65536 in
set_option maxHeartbeats 40000000 in
theorem rm6 (l : Launch) (Z : State) (a0 : Array Value) (hw : ∀ d ∈ tables_1, d.before a0 Z = true) (ws : List Jvm.Cond) (y : Addr) (ky : ClassId) (un : Int32) (ua : Int32) (h0 : Heap) (n0 : Nat) (Z0 : n0 ≤ h0.size) (hin : own_In un) (E_y : Exa Z h0 y "[B") (V_y : Arv Z h0 y ky .byte un (own_l un ua) (.int (0 : Int32))) :
    MetFree l (⟨own_K, "of", "([B)Lcom/example/splitpoint/splitpoint/keys/Key;"⟩ : MethodName) (head1 (Jvm.Cond.code (⟨own_K, "of", "([B)Lcom/example/splitpoint/splitpoint/keys/Key;"⟩ : MethodName) prog_4_method_2_code 1 (some (.object own_K)) :: ws) ({ frames := 3, cells := 4, slots := 29, locals := 38 } : Room)) (fun a_ U_ => a_ = #[(.ref y)] ∧ Z.Warmed39 U_.vm ∧ U_.heap = h0) (fun _ _ _ _ _ => True) (fun _ U_ o_ W_ => ∃ v_ L_, o_ = .returned v_ ∧ own_Qk Z un ua h0 n0 v_ W_.heap L_ ∧ ReturnedEndW U_ o_ W_ L_ ({ frames := 3, cells := 4, slots := 29, locals := 38 } : Room).cells ({ frames := 3, cells := 4, slots := 29, locals := 38 } : Room).slots) := by
  refine MetFree.of_bodySF (plainFor_of_name pn_6) hisR ?_
  intro p e s m args below meth c s₁ Bd hml0 hP hK
  obtain ⟨rfl, hZ, hh⟩ := hP
  have hx := Bd.exec
  have hby := Bd.bytes
  have hml : c.maxLocals = 1 := hml0
  have hown : s.vm.findClass own_K = some m.cls := by have z := findClass_of_methodNamed Bd.named; exact z
  have hnm := (name_of_methodNamed Bd.named Bd.method).1
  have X0 : Stand p l e ({ frames := 3, cells := 4, slots := 29, locals := 38 } : Room) s m #[(.ref y)] below meth c s₁ [] 0 0 := Stand.of_body Bd
  have e0 : s₁.heap = h0 := by rw [← hh, Bd.state]; rfl
  have N0 := Fr.nil n0
  obtain ⟨G, hG, hst, hend⟩ := own_absW p e below s (own_Qk Z un ua h0 n0) ({ frames := 3, cells := 4, slots := 29, locals := 38 } : Room).cells ({ frames := 3, cells := 4, slots := 29, locals := 38 } : Room).slots
  refine hG (S := s₁.setTop (entryFrame m #[(.ref y)] 1)) (hst (fun t k => castTop (ef_6 m y) k) ?_)
  have Z1 := Nat.le_refl h0.size
  have K0 := Keep.refl h0 []
  have hS := X0.warmed.since h0.size
  have hkS : h0.size ≤ h0.size := Nat.le_refl _
  have hZ : Z.Warmed39 (s.setVm s₁.vm).vm := wtrans hZ X0.warmed
  have hown : (s.setVm s₁.vm).vm.findClass own_K = some m.cls := by rw [show (s.setVm s₁.vm).vm = s₁.vm from rfl, X0.warmed.alike.findClass]; exact hown
  have Xs_1 := X0.retabled X0.warmed.wide
  show G (s₁.setTop (mkF m 0 #[.val (.ref y)] []))
  refine hst (fun _ kt => XS.aloadN Xs_1.here hx rfl (hb hby d6_0) rfl rfl kt) ?_
  show G (s₁.setTop (mkF m 1 #[.val (.ref y)] [(.ref y)]))
  have hsa : ∀ d ∈ Bundle.stringAtoms, d.before a0 Z = true := fun d hd => hw d ((by decide +kernel : ∀ d ∈ Bundle.stringAtoms, d ∈ tables_1) d hd)
  obtain ⟨sc, T_2, h_2, ks_2, X_2, e_2, E_2, hS, hkS, hZ, hown, st_2⟩ := ldcS Xs_1 hx hZ hown (own_w13 hw) hsa e0 hS hkS (g := (mkF m 1 #[.val (.ref y)] [(.ref y)])) rfl (hb hby d6_1) (n := 20) (by decide) (by decide) (by decide) (by decide)
  have Z0 := Nat.le_trans Z0 E_2.1
  have Z1 := Nat.le_trans Z1 E_2.1
  have E_y := E_y.ext E_2
  have V_y := V_y.ext E_2
  have K0 := K0.ext E_2
  refine hst st_2 ?_
  show G (T_2.setTop (mkF m 3 #[.val (.ref y)] [(.ref sc), (.ref y)]))
  obtain ⟨_, _, ⟨T_3, L_3, k_3, n_3⟩, -, X_3, ⟨Lc_3, hQ_3, l_3, y_3, z_3⟩, st_3⟩ := Jvm.LawKit.callS X_2 hx (y := (⟨"java/util/Objects", "requireNonNull", "(Ljava/lang/Object;Ljava/lang/String;)Ljava/lang/Object;"⟩ : MethodName)) hown (mvT hZ (own_w20 hw)) (mvT hZ (own_w21 hw)) (mvT hZ (own_w22 hw)) (mvT hZ (own_w23 hw)) (by decide) (backOf (W := 0) (rm3 l Z a0 hw [] y sc  h_2 n0 Z0) hZ (own_w23 hw) (own_w22 hw) (by decide) (by decide)) (g := (mkF m 3 #[.val (.ref y)] [(.ref sc), (.ref y)])) rfl (by rw [hml]; rfl) (argsL := [(.ref y), (.ref sc)]) (rest := []) (lenOf pd_2 rfl) rfl (by show 2 * 0 + _ ≤ _; exact Nat.le_of_eq rfl) (hb hby d6_3) (fun _ _ => ⟨rfl, e_2, (by decide : 2 + 0 ≤ _), (by decide : 24 + 0 ≤ _)⟩)
  dsimp only [Pt.U, Pt.locs, Pt.cells, Pt.slots] at X_3 l_3 y_3 z_3 st_3 hQ_3
  subst l_3 y_3 z_3
  obtain ⟨rfl, N_3q, eh_3⟩ := hQ_3
  have N_3 := Fr.app N0 N_3q
  refine hst (fun _ kt => st_3 _ kt) ?_
  show G (T_3.setTop (mkF m 6 #[.val (.ref y)] [(.ref y)]))
  refine hst (fun _ kt => XS.pop X_3.here hx rfl (hb hby d6_6) rfl rfl kt) ?_
  show G (T_3.setTop (mkF m 7 #[.val (.ref y)] []))
  refine hst (fun _ kt => XS.aloadN X_3.here hx rfl (hb hby d6_7) rfl rfl kt) ?_
  show G (T_3.setTop (mkF m 8 #[.val (.ref y)] [(.ref y)]))
  obtain ⟨T_4, h_4, X_4, e_4, E_4, V_4, A_4, st_4⟩ := cloneH X_3 hx hZ hown (ad := "[B") (own_w24 hw) (own_w25 hw) (own_w29 hw) (own_w27 hw) (own_w28 hw) (own_w30 hw) eh_3 (own_arh V_y) E_y (g := (mkF m 8 #[.val (.ref y)] [(.ref y)])) rfl (by rw [hml]; rfl) rfl (hb hby d6_8) (by decide) (W := 0) (cap := 4) (by show 2 * 0 + _ ≤ _; exact Nat.le_of_eq rfl) (by decide) (own_In_cap hin) (by decide) (by decide)
  obtain ⟨b, g_b⟩ : ∃ z, z = h_2.size := ⟨_, rfl⟩
  rw [← g_b] at V_4 A_4 st_4
  have ne_y_b : y ≠ b := Nat.ne_of_lt (Nat.lt_of_lt_of_le E_y.lt (Nat.le_of_eq g_b.symm))
  have le_n0_b : n0 ≤ b := Nat.le_trans Z0 (Nat.le_of_eq g_b.symm)
  have le_hh_b : h0.size ≤ b := Nat.le_trans Z1 (Nat.le_of_eq g_b.symm)
  have le_kS_b : ks_2 ≤ b := Nat.le_trans hkS (Nat.le_of_eq g_b.symm)
  have Z0 := Nat.le_trans Z0 E_4.1
  have Z1 := Nat.le_trans Z1 E_4.1
  have E_y := E_y.ext E_4
  have V_y := V_y.ext E_4
  have K0 := K0.ext E_4
  have hkS := Nat.le_trans hkS E_4.1
  have V_b : Arv Z h_4 b ky .byte un (own_l un ua) (.int (0 : Int32)) := V_4
  have E_b : Exa Z h_4 b "[B" := A_4
  refine hst st_4 ?_
  show G (T_4.setTop (mkF m 11 #[.val (.ref y)] [(.ref b)]))
  obtain ⟨T_5, X_5, e_5, st_5⟩ := castY X_4 hx hZ hown (own_w31 hw) e_4 (Ins.self E_b) (g := (mkF m 11 #[.val (.ref y)] [(.ref b)])) rfl rfl (hb hby d6_11)
  refine hst st_5 ?_
  show G (T_5.setTop (mkF m 14 #[.val (.ref y)] [(.ref b)]))
  obtain ⟨_, _, ⟨T_6, L_6, k_6, n_6⟩, -, X_6, ⟨Lc_6, hQ_6, l_6, y_6, z_6⟩, st_6⟩ := Jvm.LawKit.callS X_5 hx (y := (⟨own_K, "checked", "([B)Lcom/example/splitpoint/splitpoint/keys/Key;"⟩ : MethodName)) hown (mvT hZ (own_w33 hw)) (mvT hZ (own_w34 hw)) (mvT hZ (own_w11 hw)) (mvT hZ (own_w35 hw)) (by decide) (backOf (W := 0) (rm5 l Z a0 hw [] b ky un ua h_4 n0 Z0 hin V_b) hZ (own_w35 hw) (own_w11 hw) (by decide) (by decide)) (g := (mkF m 14 #[.val (.ref y)] [(.ref b)])) rfl (by rw [hml]; rfl) (argsL := [(.ref b)]) (rest := []) (lenOf pd_3 rfl) rfl (by show 2 * 0 + _ ≤ _; exact Nat.le_of_eq rfl) (hb hby d6_14) (fun _ _ => ⟨rfl, e_5, (by decide : 3 + 1 ≤ _), (by decide : 28 + 1 ≤ _)⟩)
  dsimp only [Pt.U, Pt.locs, Pt.cells, Pt.slots] at X_6 l_6 y_6 z_6 st_6 hQ_6
  subst l_6 y_6 z_6
  obtain ⟨o, rfl, N_6q, K_6, le_o_6, E_o, F_o⟩ := hQ_6
  have le_hh_o := Nat.le_trans Z1 le_o_6
  have Z0 := Nat.le_trans Z0 K_6.1
  have Z1 := Nat.le_trans Z1 K_6.1
  have E_y := E_y.keep K_6
  have V_y := V_y.keep K_6 nin0
  have K0 := K0.trans K_6 all0
  have hkS := Nat.le_trans hkS K_6.1
  have V_b := V_b.keep K_6 nin0
  have E_b := E_b.keep K_6
  have N_6 := Fr.app N_3 N_6q
  refine hst (fun _ kt => st_6 _ kt) ?_
  show G (T_6.setTop (mkF m 17 #[.val (.ref y)] [(.ref o)]))
  exact hend (own_goRetW X_6 hS hkS hx Bd.returns rfl (Or.inr (Or.inr (Or.inr (Or.inr ⟨rfl, rfl, rfl⟩)))) (hb hby d6_17) Bd.notSynchronized (by exact ⟨o, b, ky, rfl, N_6, K0, le_hh_o, le_hh_b, E_o, F_o, E_b, V_b⟩) (by decide) (by decide))
theorem d7_0 : decode prog_4_method_5_code 0 = .ok (.aload_n 0, 1) := by decide +kernel
theorem d7_1 : decode prog_4_method_5_code 1 = .ok (.getfield 7, 3) := by decide +kernel
theorem d7_4 : decode prog_4_method_5_code 4 = .ok (.arraylength, 1) := by decide +kernel
theorem d7_5 : decode prog_4_method_5_code 5 = .ok (.ireturn, 1) := by decide +kernel
theorem ef_7 (m : MethodId) (o : Addr) : entryFrame m #[(.ref o)] 1 = mkF m 0 #[.val (.ref o)] [] := by first | (simp [entryFrame, mkF, argsToLocals, Value.category]; done) | rfl
theorem pn_7 : plainName own_K = true := by first | decide +kernel | (simp [plainName, overriddenIn]; done)
set_option maxRecDepth 65536 in
set_option maxHeartbeats 40000000 in
theorem rm7 (l : Launch) (Z : State) (a0 : Array Value) (hw : ∀ d ∈ tables_1, d.before a0 Z = true) (ws : List Jvm.Cond) (o : Addr) (b : Addr) (kb : ClassId) (un : Int32) (ua : Int32) (h0 : Heap) (n0 : Nat) (Z0 : n0 ≤ h0.size) (F_bytes_o : Fld Z h0 o own_K "bytes" "[B" (.ref b)) (V_b : Arv Z h0 b kb .byte un (own_l un ua) (.int (0 : Int32))) :
    MetFree l (⟨own_K, "length", "()I"⟩ : MethodName) (head1 (Jvm.Cond.code (⟨own_K, "length", "()I"⟩ : MethodName) prog_4_method_5_code 1 (some .int) :: ws) ({ frames := 0, cells := 0, slots := 0, locals := 0 } : Room)) (fun a_ U_ => a_ = #[(.ref o)] ∧ Z.Warmed39 U_.vm ∧ U_.heap = h0) (fun _ _ _ _ _ => True) (fun _ U_ o_ W_ => ∃ v_ L_, o_ = .returned v_ ∧ own_QI un h0 n0 v_ W_.heap L_ ∧ FrameEnd U_ o_ W_ L_ ({ frames := 0, cells := 0, slots := 0, locals := 0 } : Room).cells ({ frames := 0, cells := 0, slots := 0, locals := 0 } : Room).slots) := by
  refine MetFree.of_bodySF (plainFor_of_name pn_7) hisR ?_
  intro p e s m args below meth c s₁ Bd hml0 hP hK
  obtain ⟨rfl, hZ, hh⟩ := hP
  have hx := Bd.exec
  have hby := Bd.bytes
  have hml : c.maxLocals = 1 := hml0
  have hown : s.vm.findClass own_K = some m.cls := by have z := findClass_of_methodNamed Bd.named; exact z
  have hnm := (name_of_methodNamed Bd.named Bd.method).1
  have X0 : Stand p l e ({ frames := 0, cells := 0, slots := 0, locals := 0 } : Room) s m #[(.ref o)] below meth c s₁ [] 0 0 := Stand.of_body Bd
  have e0 : s₁.heap = h0 := by rw [← hh, Bd.state]; rfl
  have N0 := Fr.nil n0
  obtain ⟨G, hG, hst, hend⟩ := own_abs p e below s (own_QI un h0 n0) ({ frames := 0, cells := 0, slots := 0, locals := 0 } : Room).cells ({ frames := 0, cells := 0, slots := 0, locals := 0 } : Room).slots
  refine hG (S := s₁.setTop (entryFrame m #[(.ref o)] 1)) (hst (fun t k => castTop (ef_7 m o) k) ?_)
  show G (s₁.setTop (mkF m 0 #[.val (.ref o)] []))
  refine hst (fun _ kt => XS.aloadN X0.here hx rfl (hb hby d7_0) rfl rfl kt) ?_
  show G (s₁.setTop (mkF m 1 #[.val (.ref o)] [(.ref o)]))
  obtain ⟨T_1, X_1, e_1, st_1⟩ := getF X0 hx hZ hown (host := "") (Or.inl (own_w45 hw)) Via.refl e0 F_bytes_o (g := (mkF m 1 #[.val (.ref o)] [(.ref o)])) rfl rfl (hb hby d7_1)
  refine hst st_1 ?_
  show G (T_1.setTop (mkF m 4 #[.val (.ref o)] [(.ref b)]))
  obtain ⟨cl_2, Ar_2, -, S_2, M_2, -, -⟩ := id V_b
  refine hst (X_1.arraylength hx (by rw [e_1]; exact Ar_2.1) (State.isArrayOf_alike hZ.alike Ar_2.2.1) (g := (mkF m 4 #[.val (.ref o)] [(.ref b)])) rfl rfl (hb hby d7_4)) ?_
  rw [len_of S_2 M_2]
  show G (T_1.setTop (mkF m 5 #[.val (.ref o)] [(.int un)]))
  exact hend (own_goRet X_1 hx Bd.returns rfl (Or.inl ⟨rfl, by simp, _, rfl⟩) (hb hby d7_5) Bd.notSynchronized (by rw [e_1]; exact ⟨rfl, N0, rfl⟩) (by decide) (by decide))
theorem d8_0 : decode prog_4_method_6_code 0 = .ok (.aload_n 0, 1) := by decide +kernel
theorem d8_1 : decode prog_4_method_6_code 1 = .ok (.getfield 7, 3) := by decide +kernel
theorem d8_4 : decode prog_4_method_6_code 4 = .ok (.invokevirtual 20, 3) := by decide +kernel
theorem d8_7 : decode prog_4_method_6_code 7 = .ok (.checkcast 21, 3) := by decide +kernel
theorem d8_10 : decode prog_4_method_6_code 10 = .ok (.areturn, 1) := by decide +kernel
theorem ef_8 (m : MethodId) (o : Addr) : entryFrame m #[(.ref o)] 1 = mkF m 0 #[.val (.ref o)] [] := by first | (simp [entryFrame, mkF, argsToLocals, Value.category]; done) | rfl
theorem pn_8 : plainName own_K = true := by first | decide +kernel | (simp [plainName, overriddenIn]; done)
set_option maxRecDepth 65536 in
set_option maxHeartbeats 40000000 in
theorem rm8 (l : Launch) (Z : State) (a0 : Array Value) (hw : ∀ d ∈ tables_1, d.before a0 Z = true) (ws : List Jvm.Cond) (o : Addr) (b : Addr) (kb : ClassId) (un : Int32) (ua : Int32) (h0 : Heap) (n0 : Nat) (Z0 : n0 ≤ h0.size) (hin : own_In un) (F_bytes_o : Fld Z h0 o own_K "bytes" "[B" (.ref b)) (V_b : Arv Z h0 b kb .byte un (own_l un ua) (.int (0 : Int32))) (E_b : Exa Z h0 b "[B") :
    MetFree l (⟨own_K, "toBytes", "()[B"⟩ : MethodName) (head1 (Jvm.Cond.code (⟨own_K, "toBytes", "()[B"⟩ : MethodName) prog_4_method_6_code 1 (some (.array .byte)) :: ws) ({ frames := 1, cells := 1, slots := 4, locals := 14 } : Room)) (fun a_ U_ => a_ = #[(.ref o)] ∧ Z.Warmed39 U_.vm ∧ U_.heap = h0) (fun _ _ _ _ _ => True) (fun _ U_ o_ W_ => ∃ v_ L_, o_ = .returned v_ ∧ own_Qm Z un ua h0 n0 v_ W_.heap L_ ∧ FrameEnd U_ o_ W_ L_ ({ frames := 1, cells := 1, slots := 4, locals := 14 } : Room).cells ({ frames := 1, cells := 1, slots := 4, locals := 14 } : Room).slots) := by
  refine MetFree.of_bodySF (plainFor_of_name pn_8) hisR ?_
  intro p e s m args below meth c s₁ Bd hml0 hP hK
  obtain ⟨rfl, hZ, hh⟩ := hP
  have hx := Bd.exec
  have hby := Bd.bytes
  have hml : c.maxLocals = 1 := hml0
  have hown : s.vm.findClass own_K = some m.cls := by have z := findClass_of_methodNamed Bd.named; exact z
  have hnm := (name_of_methodNamed Bd.named Bd.method).1
  have X0 : Stand p l e ({ frames := 1, cells := 1, slots := 4, locals := 14 } : Room) s m #[(.ref o)] below meth c s₁ [] 0 0 := Stand.of_body Bd
  have e0 : s₁.heap = h0 := by rw [← hh, Bd.state]; rfl
  have N0 := Fr.nil n0
  obtain ⟨G, hG, hst, hend⟩ := own_abs p e below s (own_Qm Z un ua h0 n0) ({ frames := 1, cells := 1, slots := 4, locals := 14 } : Room).cells ({ frames := 1, cells := 1, slots := 4, locals := 14 } : Room).slots
  refine hG (S := s₁.setTop (entryFrame m #[(.ref o)] 1)) (hst (fun t k => castTop (ef_8 m o) k) ?_)
  have Z1 := Nat.le_refl h0.size
  have K0 := Keep.refl h0 []
  show G (s₁.setTop (mkF m 0 #[.val (.ref o)] []))
  refine hst (fun _ kt => XS.aloadN X0.here hx rfl (hb hby d8_0) rfl rfl kt) ?_
  show G (s₁.setTop (mkF m 1 #[.val (.ref o)] [(.ref o)]))
  obtain ⟨T_1, X_1, e_1, st_1⟩ := getF X0 hx hZ hown (host := "") (Or.inl (own_w45 hw)) Via.refl e0 F_bytes_o (g := (mkF m 1 #[.val (.ref o)] [(.ref o)])) rfl rfl (hb hby d8_1)
  refine hst st_1 ?_
  show G (T_1.setTop (mkF m 4 #[.val (.ref o)] [(.ref b)]))
  obtain ⟨T_2, h_2, X_2, e_2, E_2, V_2, A_2, st_2⟩ := cloneH X_1 hx hZ hown (ad := "[B") (own_w24 hw) (own_w25 hw) (own_w29 hw) (own_w27 hw) (own_w28 hw) (own_w30 hw) e_1 (own_arh V_b) E_b (g := (mkF m 4 #[.val (.ref o)] [(.ref b)])) rfl (by rw [hml]; rfl) rfl (hb hby d8_4) (by decide) (W := 0) (cap := 4) (by show 2 * 0 + _ ≤ _; exact Nat.le_of_eq rfl) (by decide) (own_In_cap hin) (by decide) (by decide)
  obtain ⟨d, g_d⟩ : ∃ z, z = h0.size := ⟨_, rfl⟩
  rw [← g_d] at V_2 A_2 st_2
  have ne_o_d : o ≠ d := Nat.ne_of_lt (Nat.lt_of_lt_of_le F_bytes_o.lt (Nat.le_of_eq g_d.symm))
  have ne_b_d : b ≠ d := Nat.ne_of_lt (Nat.lt_of_lt_of_le V_b.lt (Nat.le_of_eq g_d.symm))
  have le_n0_d : n0 ≤ d := Nat.le_trans Z0 (Nat.le_of_eq g_d.symm)
  have le_hh_d : h0.size ≤ d := Nat.le_trans Z1 (Nat.le_of_eq g_d.symm)
  have Z0 := Nat.le_trans Z0 E_2.1
  have Z1 := Nat.le_trans Z1 E_2.1
  have F_bytes_o := F_bytes_o.ext E_2
  have V_b := V_b.ext E_2
  have E_b := E_b.ext E_2
  have K0 := K0.ext E_2
  have V_d : Arv Z h_2 d kb .byte un (own_l un ua) (.int (0 : Int32)) := V_2
  have E_d : Exa Z h_2 d "[B" := A_2
  refine hst st_2 ?_
  show G (T_2.setTop (mkF m 7 #[.val (.ref o)] [(.ref d)]))
  obtain ⟨T_3, X_3, e_3, st_3⟩ := castY X_2 hx hZ hown (own_w31 hw) e_2 (Ins.self E_d) (g := (mkF m 7 #[.val (.ref o)] [(.ref d)])) rfl rfl (hb hby d8_7)
  refine hst st_3 ?_
  show G (T_3.setTop (mkF m 10 #[.val (.ref o)] [(.ref d)]))
  exact hend (own_goRet X_3 hx Bd.returns rfl (Or.inr (Or.inr (Or.inr (Or.inr ⟨rfl, rfl, rfl⟩)))) (hb hby d8_10) Bd.notSynchronized (by rw [e_3]; exact ⟨d, kb, rfl, N0, K0, le_n0_d, le_hh_d, E_d, V_d⟩) (by decide) (by decide))
theorem d9_0 : decode method_4_code 0 = .ok (.iload_n 1, 1) := by decide +kernel
theorem d9_1 : decode method_4_code 1 = .ok (.ifCond .le 14, 3) := by decide +kernel
theorem d9_4 : decode method_4_code 4 = .ok (.aload_n 0, 1) := by decide +kernel
theorem d9_5 : decode method_4_code 5 = .ok (.iconst 0, 1) := by decide +kernel
theorem d9_6 : decode method_4_code 6 = .ok (.baload, 1) := by decide +kernel
theorem d9_7 : decode method_4_code 7 = .ok (.iload_n 2, 1) := by decide +kernel
theorem d9_8 : decode method_4_code 8 = .ok (.iconst 0, 1) := by decide +kernel
theorem d9_9 : decode method_4_code 9 = .ok (.invokestatic 7, 3) := by decide +kernel
theorem d9_12 : decode method_4_code 12 = .ok (.if_icmp .ne 55, 3) := by decide +kernel
theorem d9_15 : decode method_4_code 15 = .ok (.iload_n 1, 1) := by decide +kernel
theorem d9_16 : decode method_4_code 16 = .ok (.iconst 1, 1) := by decide +kernel
theorem d9_17 : decode method_4_code 17 = .ok (.if_icmp .le 14, 3) := by decide +kernel
theorem d9_20 : decode method_4_code 20 = .ok (.aload_n 0, 1) := by decide +kernel
theorem d9_21 : decode method_4_code 21 = .ok (.iconst 1, 1) := by decide +kernel
theorem d9_22 : decode method_4_code 22 = .ok (.baload, 1) := by decide +kernel
theorem d9_23 : decode method_4_code 23 = .ok (.iload_n 2, 1) := by decide +kernel
theorem d9_24 : decode method_4_code 24 = .ok (.iconst 1, 1) := by decide +kernel
theorem d9_25 : decode method_4_code 25 = .ok (.invokestatic 7, 3) := by decide +kernel
theorem d9_28 : decode method_4_code 28 = .ok (.if_icmp .ne 39, 3) := by decide +kernel
theorem d9_31 : decode method_4_code 31 = .ok (.iload_n 1, 1) := by decide +kernel
theorem d9_32 : decode method_4_code 32 = .ok (.iconst 2, 1) := by decide +kernel
theorem d9_33 : decode method_4_code 33 = .ok (.if_icmp .le 14, 3) := by decide +kernel
theorem d9_36 : decode method_4_code 36 = .ok (.aload_n 0, 1) := by decide +kernel
theorem d9_37 : decode method_4_code 37 = .ok (.iconst 2, 1) := by decide +kernel
theorem d9_38 : decode method_4_code 38 = .ok (.baload, 1) := by decide +kernel
theorem d9_39 : decode method_4_code 39 = .ok (.iload_n 2, 1) := by decide +kernel
theorem d9_40 : decode method_4_code 40 = .ok (.iconst 2, 1) := by decide +kernel
theorem d9_41 : decode method_4_code 41 = .ok (.invokestatic 7, 3) := by decide +kernel
theorem d9_44 : decode method_4_code 44 = .ok (.if_icmp .ne 23, 3) := by decide +kernel
theorem d9_47 : decode method_4_code 47 = .ok (.iload_n 1, 1) := by decide +kernel
theorem d9_48 : decode method_4_code 48 = .ok (.iconst 3, 1) := by decide +kernel
theorem d9_49 : decode method_4_code 49 = .ok (.if_icmp .le 14, 3) := by decide +kernel
theorem d9_52 : decode method_4_code 52 = .ok (.aload_n 0, 1) := by decide +kernel
theorem d9_53 : decode method_4_code 53 = .ok (.iconst 3, 1) := by decide +kernel
theorem d9_54 : decode method_4_code 54 = .ok (.baload, 1) := by decide +kernel
theorem d9_55 : decode method_4_code 55 = .ok (.iload_n 2, 1) := by decide +kernel
theorem d9_56 : decode method_4_code 56 = .ok (.iconst 3, 1) := by decide +kernel
theorem d9_57 : decode method_4_code 57 = .ok (.invokestatic 7, 3) := by decide +kernel
theorem d9_60 : decode method_4_code 60 = .ok (.if_icmp .ne 7, 3) := by decide +kernel
theorem d9_63 : decode method_4_code 63 = .ok (.iconst 1, 1) := by decide +kernel
theorem d9_64 : decode method_4_code 64 = .ok (.goto 4, 3) := by decide +kernel
theorem d9_68 : decode method_4_code 68 = .ok (.ireturn, 1) := by decide +kernel
theorem ef_9 (m : MethodId) (b : Addr) (un : Int32) (ua : Int32) : entryFrame m #[(.ref b), (.int un), (.int ua)] 3 = mkF m 0 #[.val (.ref b), .val (.int un), .val (.int ua)] [] := by first | (simp [entryFrame, mkF, argsToLocals, Value.category]; done) | rfl
theorem pn_9 : plainName x.cls = true := by first | decide +kernel | (simp [plainName, overriddenIn]; done)
set_option maxRecDepth 65536 in
set_option maxHeartbeats 40000000 in
theorem rm9 (l : Launch) (Z : State) (a0 : Array Value) (hw : ∀ d ∈ tables_1, d.before a0 Z = true) (ws : List Jvm.Cond) (b : Addr) (un : Int32) (ua : Int32) (kb : ClassId) (h0 : Heap) (n0 : Nat) (Z0 : n0 ≤ h0.size) (hin : own_In un) (V_b : Arv Z h0 b kb .byte un (own_l un ua) (.int (0 : Int32))) :
    MetFree l (⟨x.cls, "same", "([BII)Z"⟩ : MethodName) (head1 (Jvm.Cond.code (⟨x.cls, "same", "([BII)Z"⟩ : MethodName) method_4_code 3 (some .boolean) :: ws) ({ frames := 1, cells := 0, slots := 0, locals := 15 } : Room)) (fun a_ U_ => a_ = #[(.ref b), (.int un), (.int ua)] ∧ Z.Warmed39 U_.vm ∧ U_.heap = h0) (fun _ _ _ _ _ => True) (fun _ U_ o_ W_ => ∃ v_ L_, o_ = .returned v_ ∧ own_QI (1 : Int32) h0 n0 v_ W_.heap L_ ∧ FrameEnd U_ o_ W_ L_ ({ frames := 1, cells := 0, slots := 0, locals := 15 } : Room).cells ({ frames := 1, cells := 0, slots := 0, locals := 15 } : Room).slots) := by
  refine MetFree.of_bodySF (plainFor_of_name pn_9) hisR ?_
  intro p e s m args below meth c s₁ Bd hml0 hP hK
  obtain ⟨rfl, hZ, hh⟩ := hP
  have hx := Bd.exec
  have hby := Bd.bytes
  have hml : c.maxLocals = 3 := hml0
  have hown : s.vm.findClass x.cls = some m.cls := by have z := findClass_of_methodNamed Bd.named; exact z
  have hnm := (name_of_methodNamed Bd.named Bd.method).1
  have X0 : Stand p l e ({ frames := 1, cells := 0, slots := 0, locals := 15 } : Room) s m #[(.ref b), (.int un), (.int ua)] below meth c s₁ [] 0 0 := Stand.of_body Bd
  have e0 : s₁.heap = h0 := by rw [← hh, Bd.state]; rfl
  have N0 := Fr.nil n0
  obtain ⟨G, hG, hst, hend⟩ := own_abs p e below s (own_QI (1 : Int32) h0 n0) ({ frames := 1, cells := 0, slots := 0, locals := 15 } : Room).cells ({ frames := 1, cells := 0, slots := 0, locals := 15 } : Room).slots
  refine hG (S := s₁.setTop (entryFrame m #[(.ref b), (.int un), (.int ua)] 3)) (hst (fun t k => castTop (ef_9 m b un ua) k) ?_)
  rcases hin with rfl | rfl | rfl | rfl | rfl
  ·
    have V_b : Arv Z h0 b kb .byte (0 : Int32) [] (.int (0 : Int32)) := V_b
    show G (s₁.setTop (mkF m 0 #[.val (.ref b), .val (.int (0 : Int32)), .val (.int ua)] []))
    refine hst (fun _ kt => XS.iloadN X0.here hx rfl (hb hby d9_0) rfl kt) ?_
    show G (s₁.setTop (mkF m 1 #[.val (.ref b), .val (.int (0 : Int32)), .val (.int ua)] [(.int (0 : Int32))]))
    have hq0 : ¬ ((0 : Int32) < (0 : Int32)) := by decide
    refine hst (fun _ kt => XS.ifYes X0.here hx rfl (pc0 := 1) (pc' := 15) rfl (hb hby d9_1) rfl ((if0 _ _).trans (flt hq0).2.2.2) (by decide) (by decide) kt) ?_
    show G (s₁.setTop (mkF m 15 #[.val (.ref b), .val (.int (0 : Int32)), .val (.int ua)] []))
    refine hst (fun _ kt => XS.iloadN X0.here hx rfl (hb hby d9_15) rfl kt) ?_
    show G (s₁.setTop (mkF m 16 #[.val (.ref b), .val (.int (0 : Int32)), .val (.int ua)] [(.int (0 : Int32))]))
    refine hst (fun _ kt => XS.iconst X0.here hx rfl (hb hby d9_16) kt) ?_
    show G (s₁.setTop (mkF m 17 #[.val (.ref b), .val (.int (0 : Int32)), .val (.int ua)] [(.int (1 : Int32)), (.int (0 : Int32))]))
    have hq1 : ¬ ((1 : Int32) < (0 : Int32)) := by decide
    refine hst (fun _ kt => XS.icmpYes X0.here hx rfl (pc0 := 17) (pc' := 31) rfl (hb hby d9_17) rfl (flt hq1).2.2.2 (by decide) (by decide) kt) ?_
    show G (s₁.setTop (mkF m 31 #[.val (.ref b), .val (.int (0 : Int32)), .val (.int ua)] []))
    refine hst (fun _ kt => XS.iloadN X0.here hx rfl (hb hby d9_31) rfl kt) ?_
    show G (s₁.setTop (mkF m 32 #[.val (.ref b), .val (.int (0 : Int32)), .val (.int ua)] [(.int (0 : Int32))]))
    refine hst (fun _ kt => XS.iconst X0.here hx rfl (hb hby d9_32) kt) ?_
    show G (s₁.setTop (mkF m 33 #[.val (.ref b), .val (.int (0 : Int32)), .val (.int ua)] [(.int (2 : Int32)), (.int (0 : Int32))]))
    have hq2 : ¬ ((2 : Int32) < (0 : Int32)) := by decide
    refine hst (fun _ kt => XS.icmpYes X0.here hx rfl (pc0 := 33) (pc' := 47) rfl (hb hby d9_33) rfl (flt hq2).2.2.2 (by decide) (by decide) kt) ?_
    show G (s₁.setTop (mkF m 47 #[.val (.ref b), .val (.int (0 : Int32)), .val (.int ua)] []))
    refine hst (fun _ kt => XS.iloadN X0.here hx rfl (hb hby d9_47) rfl kt) ?_
    show G (s₁.setTop (mkF m 48 #[.val (.ref b), .val (.int (0 : Int32)), .val (.int ua)] [(.int (0 : Int32))]))
    refine hst (fun _ kt => XS.iconst X0.here hx rfl (hb hby d9_48) kt) ?_
    show G (s₁.setTop (mkF m 49 #[.val (.ref b), .val (.int (0 : Int32)), .val (.int ua)] [(.int (3 : Int32)), (.int (0 : Int32))]))
    have hq3 : ¬ ((3 : Int32) < (0 : Int32)) := by decide
    refine hst (fun _ kt => XS.icmpYes X0.here hx rfl (pc0 := 49) (pc' := 63) rfl (hb hby d9_49) rfl (flt hq3).2.2.2 (by decide) (by decide) kt) ?_
    show G (s₁.setTop (mkF m 63 #[.val (.ref b), .val (.int (0 : Int32)), .val (.int ua)] []))
    refine hst (fun _ kt => XS.iconst X0.here hx rfl (hb hby d9_63) kt) ?_
    show G (s₁.setTop (mkF m 64 #[.val (.ref b), .val (.int (0 : Int32)), .val (.int ua)] [(.int (1 : Int32))]))
    refine hst (fun _ kt => XS.goto X0.here hx rfl (pc0 := 64) (pc' := 68) rfl (hb hby d9_64) (by decide) (by decide) kt) ?_
    show G (s₁.setTop (mkF m 68 #[.val (.ref b), .val (.int (0 : Int32)), .val (.int ua)] [(.int (1 : Int32))]))
    exact hend (own_goRet X0 hx Bd.returns rfl (Or.inl ⟨rfl, by simp, _, rfl⟩) (hb hby d9_68) Bd.notSynchronized (by rw [e0]; exact ⟨rfl, N0, rfl⟩) (by decide) (by decide))
  ·
    have V_b : Arv Z h0 b kb .byte (1 : Int32) [(.int (own_nb ua 0))] (.int (0 : Int32)) := V_b
    show G (s₁.setTop (mkF m 0 #[.val (.ref b), .val (.int (1 : Int32)), .val (.int ua)] []))
    refine hst (fun _ kt => XS.iloadN X0.here hx rfl (hb hby d9_0) rfl kt) ?_
    show G (s₁.setTop (mkF m 1 #[.val (.ref b), .val (.int (1 : Int32)), .val (.int ua)] [(.int (1 : Int32))]))
    have hq0 : (0 : Int32) < (1 : Int32) := by decide
    refine hst (fun _ kt => XS.ifNo X0.here hx rfl (hb hby d9_1) rfl ((if0 _ _).trans (tlt hq0).2.2.2) kt) ?_
    show G (s₁.setTop (mkF m 4 #[.val (.ref b), .val (.int (1 : Int32)), .val (.int ua)] []))
    refine hst (fun _ kt => XS.aloadN X0.here hx rfl (hb hby d9_4) rfl rfl kt) ?_
    show G (s₁.setTop (mkF m 5 #[.val (.ref b), .val (.int (1 : Int32)), .val (.int ua)] [(.ref b)]))
    refine hst (fun _ kt => XS.iconst X0.here hx rfl (hb hby d9_5) kt) ?_
    show G (s₁.setTop (mkF m 6 #[.val (.ref b), .val (.int (1 : Int32)), .val (.int ua)] [(.int (0 : Int32)), (.ref b)]))
    obtain ⟨cl_1, Ar_1, -, S_1, M_1, Hs_1, -⟩ := id V_b
    have hin_1 : ¬ ((0 : Int32) < 0 ∨ cl_1.slots.size ≤ ((0 : Int32)).toNatClampNeg) := inb_of S_1 ⟨by decide, by decide⟩
    have hat_1 : cl_1.slots[((0 : Int32)).toNatClampNeg]? = some (.int (own_nb ua 0)) := Has.at Hs_1 hin_1 rfl
    refine hst (X0.baloadBytes hx (j := (0 : Int32)) (v := (.int (own_nb ua 0))) (by rw [e0]; exact Ar_1.1) (State.isArrayOf_alike hZ.alike Ar_1.2.1) Ar_1.2.2 hin_1 hat_1 (g := (mkF m 6 #[.val (.ref b), .val (.int (1 : Int32)), .val (.int ua)] [(.int (0 : Int32)), (.ref b)])) rfl rfl (hb hby d9_6)) ?_
    show G (s₁.setTop (mkF m 7 #[.val (.ref b), .val (.int (1 : Int32)), .val (.int ua)] [(.int (own_nb ua 0))]))
    refine hst (fun _ kt => XS.iloadN X0.here hx rfl (hb hby d9_7) rfl kt) ?_
    show G (s₁.setTop (mkF m 8 #[.val (.ref b), .val (.int (1 : Int32)), .val (.int ua)] [(.int ua), (.int (own_nb ua 0))]))
    refine hst (fun _ kt => XS.iconst X0.here hx rfl (hb hby d9_8) kt) ?_
    show G (s₁.setTop (mkF m 9 #[.val (.ref b), .val (.int (1 : Int32)), .val (.int ua)] [(.int (0 : Int32)), (.int ua), (.int (own_nb ua 0))]))
    obtain ⟨_, _, ⟨T_2, L_2, k_2, n_2⟩, -, X_2, ⟨Lc_2, hQ_2, l_2, y_2, z_2⟩, st_2⟩ := Jvm.LawKit.callS X0 hx (y := (⟨x.cls, "at", "(II)B"⟩ : MethodName)) hown (mvT hZ (own_w5 hw)) (mvT hZ (own_w6 hw)) (mvT hZ (own_w3 hw)) (mvT hZ (own_w7 hw)) (by decide) (backOf (W := 1) (rm1 l Z a0 hw [] ua (0 : Int32)  h0 n0 Z0) hZ (own_w7 hw) (own_w3 hw) (by decide) (by decide)) (g := (mkF m 9 #[.val (.ref b), .val (.int (1 : Int32)), .val (.int ua)] [(.int (0 : Int32)), (.int ua), (.int (own_nb ua 0))])) rfl (by rw [hml]; rfl) (argsL := [(.int ua), (.int (0 : Int32))]) (rest := [(.int (own_nb ua 0))]) (lenOf pd_0 rfl) rfl (by show 2 * 0 + _ ≤ _; exact Nat.le_of_eq rfl) (hb hby d9_9) (fun _ _ => ⟨rfl, e0, (by decide : 0 + 0 ≤ _), (by decide : 0 + 0 ≤ _)⟩)
    dsimp only [Pt.U, Pt.locs, Pt.cells, Pt.slots] at X_2 l_2 y_2 z_2 st_2 hQ_2
    subst l_2 y_2 z_2
    obtain ⟨rfl, N_2q, eh_2⟩ := hQ_2
    have N_2 := Fr.app N0 N_2q
    refine hst (fun _ kt => st_2 _ kt) ?_
    show G (T_2.setTop (mkF m 12 #[.val (.ref b), .val (.int (1 : Int32)), .val (.int ua)] [(.int (own_at ua (0 : Int32))), (.int (own_nb ua 0))]))
    have hr0 : (own_nb ua 0) = (own_at ua (0 : Int32)) := own_nb_eq ua 0
    refine hst (fun _ kt => XS.icmpNo X_2.here hx rfl (hb hby d9_12) rfl (teq hr0).2 kt) ?_
    show G (T_2.setTop (mkF m 15 #[.val (.ref b), .val (.int (1 : Int32)), .val (.int ua)] []))
    refine hst (fun _ kt => XS.iloadN X_2.here hx rfl (hb hby d9_15) rfl kt) ?_
    show G (T_2.setTop (mkF m 16 #[.val (.ref b), .val (.int (1 : Int32)), .val (.int ua)] [(.int (1 : Int32))]))
    refine hst (fun _ kt => XS.iconst X_2.here hx rfl (hb hby d9_16) kt) ?_
    show G (T_2.setTop (mkF m 17 #[.val (.ref b), .val (.int (1 : Int32)), .val (.int ua)] [(.int (1 : Int32)), (.int (1 : Int32))]))
    have hq1 : ¬ ((1 : Int32) < (1 : Int32)) := by decide
    refine hst (fun _ kt => XS.icmpYes X_2.here hx rfl (pc0 := 17) (pc' := 31) rfl (hb hby d9_17) rfl (flt hq1).2.2.2 (by decide) (by decide) kt) ?_
    show G (T_2.setTop (mkF m 31 #[.val (.ref b), .val (.int (1 : Int32)), .val (.int ua)] []))
    refine hst (fun _ kt => XS.iloadN X_2.here hx rfl (hb hby d9_31) rfl kt) ?_
    show G (T_2.setTop (mkF m 32 #[.val (.ref b), .val (.int (1 : Int32)), .val (.int ua)] [(.int (1 : Int32))]))
    refine hst (fun _ kt => XS.iconst X_2.here hx rfl (hb hby d9_32) kt) ?_
    show G (T_2.setTop (mkF m 33 #[.val (.ref b), .val (.int (1 : Int32)), .val (.int ua)] [(.int (2 : Int32)), (.int (1 : Int32))]))
    have hq2 : ¬ ((2 : Int32) < (1 : Int32)) := by decide
    refine hst (fun _ kt => XS.icmpYes X_2.here hx rfl (pc0 := 33) (pc' := 47) rfl (hb hby d9_33) rfl (flt hq2).2.2.2 (by decide) (by decide) kt) ?_
    show G (T_2.setTop (mkF m 47 #[.val (.ref b), .val (.int (1 : Int32)), .val (.int ua)] []))
    refine hst (fun _ kt => XS.iloadN X_2.here hx rfl (hb hby d9_47) rfl kt) ?_
    show G (T_2.setTop (mkF m 48 #[.val (.ref b), .val (.int (1 : Int32)), .val (.int ua)] [(.int (1 : Int32))]))
    refine hst (fun _ kt => XS.iconst X_2.here hx rfl (hb hby d9_48) kt) ?_
    show G (T_2.setTop (mkF m 49 #[.val (.ref b), .val (.int (1 : Int32)), .val (.int ua)] [(.int (3 : Int32)), (.int (1 : Int32))]))
    have hq3 : ¬ ((3 : Int32) < (1 : Int32)) := by decide
    refine hst (fun _ kt => XS.icmpYes X_2.here hx rfl (pc0 := 49) (pc' := 63) rfl (hb hby d9_49) rfl (flt hq3).2.2.2 (by decide) (by decide) kt) ?_
    show G (T_2.setTop (mkF m 63 #[.val (.ref b), .val (.int (1 : Int32)), .val (.int ua)] []))
    refine hst (fun _ kt => XS.iconst X_2.here hx rfl (hb hby d9_63) kt) ?_
    show G (T_2.setTop (mkF m 64 #[.val (.ref b), .val (.int (1 : Int32)), .val (.int ua)] [(.int (1 : Int32))]))
    refine hst (fun _ kt => XS.goto X_2.here hx rfl (pc0 := 64) (pc' := 68) rfl (hb hby d9_64) (by decide) (by decide) kt) ?_
    show G (T_2.setTop (mkF m 68 #[.val (.ref b), .val (.int (1 : Int32)), .val (.int ua)] [(.int (1 : Int32))]))
    exact hend (own_goRet X_2 hx Bd.returns rfl (Or.inl ⟨rfl, by simp, _, rfl⟩) (hb hby d9_68) Bd.notSynchronized (by rw [eh_2]; exact ⟨rfl, N_2, rfl⟩) (by decide) (by decide))
  ·
    have V_b : Arv Z h0 b kb .byte (2 : Int32) [(.int (own_nb ua 0)), (.int (own_nb ua 1))] (.int (0 : Int32)) := V_b
    show G (s₁.setTop (mkF m 0 #[.val (.ref b), .val (.int (2 : Int32)), .val (.int ua)] []))
    refine hst (fun _ kt => XS.iloadN X0.here hx rfl (hb hby d9_0) rfl kt) ?_
    show G (s₁.setTop (mkF m 1 #[.val (.ref b), .val (.int (2 : Int32)), .val (.int ua)] [(.int (2 : Int32))]))
    have hq0 : (0 : Int32) < (2 : Int32) := by decide
    refine hst (fun _ kt => XS.ifNo X0.here hx rfl (hb hby d9_1) rfl ((if0 _ _).trans (tlt hq0).2.2.2) kt) ?_
    show G (s₁.setTop (mkF m 4 #[.val (.ref b), .val (.int (2 : Int32)), .val (.int ua)] []))
    refine hst (fun _ kt => XS.aloadN X0.here hx rfl (hb hby d9_4) rfl rfl kt) ?_
    show G (s₁.setTop (mkF m 5 #[.val (.ref b), .val (.int (2 : Int32)), .val (.int ua)] [(.ref b)]))
    refine hst (fun _ kt => XS.iconst X0.here hx rfl (hb hby d9_5) kt) ?_
    show G (s₁.setTop (mkF m 6 #[.val (.ref b), .val (.int (2 : Int32)), .val (.int ua)] [(.int (0 : Int32)), (.ref b)]))
    obtain ⟨cl_3, Ar_3, -, S_3, M_3, Hs_3, -⟩ := id V_b
    have hin_3 : ¬ ((0 : Int32) < 0 ∨ cl_3.slots.size ≤ ((0 : Int32)).toNatClampNeg) := inb_of S_3 ⟨by decide, by decide⟩
    have hat_3 : cl_3.slots[((0 : Int32)).toNatClampNeg]? = some (.int (own_nb ua 0)) := Has.at Hs_3 hin_3 rfl
    refine hst (X0.baloadBytes hx (j := (0 : Int32)) (v := (.int (own_nb ua 0))) (by rw [e0]; exact Ar_3.1) (State.isArrayOf_alike hZ.alike Ar_3.2.1) Ar_3.2.2 hin_3 hat_3 (g := (mkF m 6 #[.val (.ref b), .val (.int (2 : Int32)), .val (.int ua)] [(.int (0 : Int32)), (.ref b)])) rfl rfl (hb hby d9_6)) ?_
    show G (s₁.setTop (mkF m 7 #[.val (.ref b), .val (.int (2 : Int32)), .val (.int ua)] [(.int (own_nb ua 0))]))
    refine hst (fun _ kt => XS.iloadN X0.here hx rfl (hb hby d9_7) rfl kt) ?_
    show G (s₁.setTop (mkF m 8 #[.val (.ref b), .val (.int (2 : Int32)), .val (.int ua)] [(.int ua), (.int (own_nb ua 0))]))
    refine hst (fun _ kt => XS.iconst X0.here hx rfl (hb hby d9_8) kt) ?_
    show G (s₁.setTop (mkF m 9 #[.val (.ref b), .val (.int (2 : Int32)), .val (.int ua)] [(.int (0 : Int32)), (.int ua), (.int (own_nb ua 0))]))
    obtain ⟨_, _, ⟨T_4, L_4, k_4, n_4⟩, -, X_4, ⟨Lc_4, hQ_4, l_4, y_4, z_4⟩, st_4⟩ := Jvm.LawKit.callS X0 hx (y := (⟨x.cls, "at", "(II)B"⟩ : MethodName)) hown (mvT hZ (own_w5 hw)) (mvT hZ (own_w6 hw)) (mvT hZ (own_w3 hw)) (mvT hZ (own_w7 hw)) (by decide) (backOf (W := 1) (rm1 l Z a0 hw [] ua (0 : Int32)  h0 n0 Z0) hZ (own_w7 hw) (own_w3 hw) (by decide) (by decide)) (g := (mkF m 9 #[.val (.ref b), .val (.int (2 : Int32)), .val (.int ua)] [(.int (0 : Int32)), (.int ua), (.int (own_nb ua 0))])) rfl (by rw [hml]; rfl) (argsL := [(.int ua), (.int (0 : Int32))]) (rest := [(.int (own_nb ua 0))]) (lenOf pd_0 rfl) rfl (by show 2 * 0 + _ ≤ _; exact Nat.le_of_eq rfl) (hb hby d9_9) (fun _ _ => ⟨rfl, e0, (by decide : 0 + 0 ≤ _), (by decide : 0 + 0 ≤ _)⟩)
    dsimp only [Pt.U, Pt.locs, Pt.cells, Pt.slots] at X_4 l_4 y_4 z_4 st_4 hQ_4
    subst l_4 y_4 z_4
    obtain ⟨rfl, N_4q, eh_4⟩ := hQ_4
    have N_4 := Fr.app N0 N_4q
    refine hst (fun _ kt => st_4 _ kt) ?_
    show G (T_4.setTop (mkF m 12 #[.val (.ref b), .val (.int (2 : Int32)), .val (.int ua)] [(.int (own_at ua (0 : Int32))), (.int (own_nb ua 0))]))
    have hr0 : (own_nb ua 0) = (own_at ua (0 : Int32)) := own_nb_eq ua 0
    refine hst (fun _ kt => XS.icmpNo X_4.here hx rfl (hb hby d9_12) rfl (teq hr0).2 kt) ?_
    show G (T_4.setTop (mkF m 15 #[.val (.ref b), .val (.int (2 : Int32)), .val (.int ua)] []))
    refine hst (fun _ kt => XS.iloadN X_4.here hx rfl (hb hby d9_15) rfl kt) ?_
    show G (T_4.setTop (mkF m 16 #[.val (.ref b), .val (.int (2 : Int32)), .val (.int ua)] [(.int (2 : Int32))]))
    refine hst (fun _ kt => XS.iconst X_4.here hx rfl (hb hby d9_16) kt) ?_
    show G (T_4.setTop (mkF m 17 #[.val (.ref b), .val (.int (2 : Int32)), .val (.int ua)] [(.int (1 : Int32)), (.int (2 : Int32))]))
    have hq1 : (1 : Int32) < (2 : Int32) := by decide
    refine hst (fun _ kt => XS.icmpNo X_4.here hx rfl (hb hby d9_17) rfl (tlt hq1).2.2.2 kt) ?_
    show G (T_4.setTop (mkF m 20 #[.val (.ref b), .val (.int (2 : Int32)), .val (.int ua)] []))
    refine hst (fun _ kt => XS.aloadN X_4.here hx rfl (hb hby d9_20) rfl rfl kt) ?_
    show G (T_4.setTop (mkF m 21 #[.val (.ref b), .val (.int (2 : Int32)), .val (.int ua)] [(.ref b)]))
    refine hst (fun _ kt => XS.iconst X_4.here hx rfl (hb hby d9_21) kt) ?_
    show G (T_4.setTop (mkF m 22 #[.val (.ref b), .val (.int (2 : Int32)), .val (.int ua)] [(.int (1 : Int32)), (.ref b)]))
    obtain ⟨cl_5, Ar_5, -, S_5, M_5, Hs_5, -⟩ := id V_b
    have hin_5 : ¬ ((1 : Int32) < 0 ∨ cl_5.slots.size ≤ ((1 : Int32)).toNatClampNeg) := inb_of S_5 ⟨by decide, by decide⟩
    have hat_5 : cl_5.slots[((1 : Int32)).toNatClampNeg]? = some (.int (own_nb ua 1)) := Has.at Hs_5 hin_5 rfl
    refine hst (X_4.baloadBytes hx (j := (1 : Int32)) (v := (.int (own_nb ua 1))) (by rw [eh_4]; exact Ar_5.1) (State.isArrayOf_alike hZ.alike Ar_5.2.1) Ar_5.2.2 hin_5 hat_5 (g := (mkF m 22 #[.val (.ref b), .val (.int (2 : Int32)), .val (.int ua)] [(.int (1 : Int32)), (.ref b)])) rfl rfl (hb hby d9_22)) ?_
    show G (T_4.setTop (mkF m 23 #[.val (.ref b), .val (.int (2 : Int32)), .val (.int ua)] [(.int (own_nb ua 1))]))
    refine hst (fun _ kt => XS.iloadN X_4.here hx rfl (hb hby d9_23) rfl kt) ?_
    show G (T_4.setTop (mkF m 24 #[.val (.ref b), .val (.int (2 : Int32)), .val (.int ua)] [(.int ua), (.int (own_nb ua 1))]))
    refine hst (fun _ kt => XS.iconst X_4.here hx rfl (hb hby d9_24) kt) ?_
    show G (T_4.setTop (mkF m 25 #[.val (.ref b), .val (.int (2 : Int32)), .val (.int ua)] [(.int (1 : Int32)), (.int ua), (.int (own_nb ua 1))]))
    obtain ⟨_, _, ⟨T_6, L_6, k_6, n_6⟩, -, X_6, ⟨Lc_6, hQ_6, l_6, y_6, z_6⟩, st_6⟩ := Jvm.LawKit.callS X_4 hx (y := (⟨x.cls, "at", "(II)B"⟩ : MethodName)) hown (mvT hZ (own_w5 hw)) (mvT hZ (own_w6 hw)) (mvT hZ (own_w3 hw)) (mvT hZ (own_w7 hw)) (by decide) (backOf (W := 1) (rm1 l Z a0 hw [] ua (1 : Int32)  h0 n0 Z0) hZ (own_w7 hw) (own_w3 hw) (by decide) (by decide)) (g := (mkF m 25 #[.val (.ref b), .val (.int (2 : Int32)), .val (.int ua)] [(.int (1 : Int32)), (.int ua), (.int (own_nb ua 1))])) rfl (by rw [hml]; rfl) (argsL := [(.int ua), (.int (1 : Int32))]) (rest := [(.int (own_nb ua 1))]) (lenOf pd_0 rfl) rfl (by show 2 * 0 + _ ≤ _; exact Nat.le_of_eq rfl) (hb hby d9_25) (fun _ _ => ⟨rfl, eh_4, (by decide : 0 + 0 ≤ _), (by decide : 0 + 0 ≤ _)⟩)
    dsimp only [Pt.U, Pt.locs, Pt.cells, Pt.slots] at X_6 l_6 y_6 z_6 st_6 hQ_6
    subst l_6 y_6 z_6
    obtain ⟨rfl, N_6q, eh_6⟩ := hQ_6
    have N_6 := Fr.app N_4 N_6q
    refine hst (fun _ kt => st_6 _ kt) ?_
    show G (T_6.setTop (mkF m 28 #[.val (.ref b), .val (.int (2 : Int32)), .val (.int ua)] [(.int (own_at ua (1 : Int32))), (.int (own_nb ua 1))]))
    have hr1 : (own_nb ua 1) = (own_at ua (1 : Int32)) := own_nb_eq ua 1
    refine hst (fun _ kt => XS.icmpNo X_6.here hx rfl (hb hby d9_28) rfl (teq hr1).2 kt) ?_
    show G (T_6.setTop (mkF m 31 #[.val (.ref b), .val (.int (2 : Int32)), .val (.int ua)] []))
    refine hst (fun _ kt => XS.iloadN X_6.here hx rfl (hb hby d9_31) rfl kt) ?_
    show G (T_6.setTop (mkF m 32 #[.val (.ref b), .val (.int (2 : Int32)), .val (.int ua)] [(.int (2 : Int32))]))
    refine hst (fun _ kt => XS.iconst X_6.here hx rfl (hb hby d9_32) kt) ?_
    show G (T_6.setTop (mkF m 33 #[.val (.ref b), .val (.int (2 : Int32)), .val (.int ua)] [(.int (2 : Int32)), (.int (2 : Int32))]))
    have hq2 : ¬ ((2 : Int32) < (2 : Int32)) := by decide
    refine hst (fun _ kt => XS.icmpYes X_6.here hx rfl (pc0 := 33) (pc' := 47) rfl (hb hby d9_33) rfl (flt hq2).2.2.2 (by decide) (by decide) kt) ?_
    show G (T_6.setTop (mkF m 47 #[.val (.ref b), .val (.int (2 : Int32)), .val (.int ua)] []))
    refine hst (fun _ kt => XS.iloadN X_6.here hx rfl (hb hby d9_47) rfl kt) ?_
    show G (T_6.setTop (mkF m 48 #[.val (.ref b), .val (.int (2 : Int32)), .val (.int ua)] [(.int (2 : Int32))]))
    refine hst (fun _ kt => XS.iconst X_6.here hx rfl (hb hby d9_48) kt) ?_
    show G (T_6.setTop (mkF m 49 #[.val (.ref b), .val (.int (2 : Int32)), .val (.int ua)] [(.int (3 : Int32)), (.int (2 : Int32))]))
    have hq3 : ¬ ((3 : Int32) < (2 : Int32)) := by decide
    refine hst (fun _ kt => XS.icmpYes X_6.here hx rfl (pc0 := 49) (pc' := 63) rfl (hb hby d9_49) rfl (flt hq3).2.2.2 (by decide) (by decide) kt) ?_
    show G (T_6.setTop (mkF m 63 #[.val (.ref b), .val (.int (2 : Int32)), .val (.int ua)] []))
    refine hst (fun _ kt => XS.iconst X_6.here hx rfl (hb hby d9_63) kt) ?_
    show G (T_6.setTop (mkF m 64 #[.val (.ref b), .val (.int (2 : Int32)), .val (.int ua)] [(.int (1 : Int32))]))
    refine hst (fun _ kt => XS.goto X_6.here hx rfl (pc0 := 64) (pc' := 68) rfl (hb hby d9_64) (by decide) (by decide) kt) ?_
    show G (T_6.setTop (mkF m 68 #[.val (.ref b), .val (.int (2 : Int32)), .val (.int ua)] [(.int (1 : Int32))]))
    exact hend (own_goRet X_6 hx Bd.returns rfl (Or.inl ⟨rfl, by simp, _, rfl⟩) (hb hby d9_68) Bd.notSynchronized (by rw [eh_6]; exact ⟨rfl, N_6, rfl⟩) (by decide) (by decide))
  ·
    have V_b : Arv Z h0 b kb .byte (3 : Int32) [(.int (own_nb ua 0)), (.int (own_nb ua 1)), (.int (own_nb ua 2))] (.int (0 : Int32)) := V_b
    show G (s₁.setTop (mkF m 0 #[.val (.ref b), .val (.int (3 : Int32)), .val (.int ua)] []))
    refine hst (fun _ kt => XS.iloadN X0.here hx rfl (hb hby d9_0) rfl kt) ?_
    show G (s₁.setTop (mkF m 1 #[.val (.ref b), .val (.int (3 : Int32)), .val (.int ua)] [(.int (3 : Int32))]))
    have hq0 : (0 : Int32) < (3 : Int32) := by decide
    refine hst (fun _ kt => XS.ifNo X0.here hx rfl (hb hby d9_1) rfl ((if0 _ _).trans (tlt hq0).2.2.2) kt) ?_
    show G (s₁.setTop (mkF m 4 #[.val (.ref b), .val (.int (3 : Int32)), .val (.int ua)] []))
    refine hst (fun _ kt => XS.aloadN X0.here hx rfl (hb hby d9_4) rfl rfl kt) ?_
    show G (s₁.setTop (mkF m 5 #[.val (.ref b), .val (.int (3 : Int32)), .val (.int ua)] [(.ref b)]))
    refine hst (fun _ kt => XS.iconst X0.here hx rfl (hb hby d9_5) kt) ?_
    show G (s₁.setTop (mkF m 6 #[.val (.ref b), .val (.int (3 : Int32)), .val (.int ua)] [(.int (0 : Int32)), (.ref b)]))
    obtain ⟨cl_7, Ar_7, -, S_7, M_7, Hs_7, -⟩ := id V_b
    have hin_7 : ¬ ((0 : Int32) < 0 ∨ cl_7.slots.size ≤ ((0 : Int32)).toNatClampNeg) := inb_of S_7 ⟨by decide, by decide⟩
    have hat_7 : cl_7.slots[((0 : Int32)).toNatClampNeg]? = some (.int (own_nb ua 0)) := Has.at Hs_7 hin_7 rfl
    refine hst (X0.baloadBytes hx (j := (0 : Int32)) (v := (.int (own_nb ua 0))) (by rw [e0]; exact Ar_7.1) (State.isArrayOf_alike hZ.alike Ar_7.2.1) Ar_7.2.2 hin_7 hat_7 (g := (mkF m 6 #[.val (.ref b), .val (.int (3 : Int32)), .val (.int ua)] [(.int (0 : Int32)), (.ref b)])) rfl rfl (hb hby d9_6)) ?_
    show G (s₁.setTop (mkF m 7 #[.val (.ref b), .val (.int (3 : Int32)), .val (.int ua)] [(.int (own_nb ua 0))]))
    refine hst (fun _ kt => XS.iloadN X0.here hx rfl (hb hby d9_7) rfl kt) ?_
    show G (s₁.setTop (mkF m 8 #[.val (.ref b), .val (.int (3 : Int32)), .val (.int ua)] [(.int ua), (.int (own_nb ua 0))]))
    refine hst (fun _ kt => XS.iconst X0.here hx rfl (hb hby d9_8) kt) ?_
    show G (s₁.setTop (mkF m 9 #[.val (.ref b), .val (.int (3 : Int32)), .val (.int ua)] [(.int (0 : Int32)), (.int ua), (.int (own_nb ua 0))]))
    obtain ⟨_, _, ⟨T_8, L_8, k_8, n_8⟩, -, X_8, ⟨Lc_8, hQ_8, l_8, y_8, z_8⟩, st_8⟩ := Jvm.LawKit.callS X0 hx (y := (⟨x.cls, "at", "(II)B"⟩ : MethodName)) hown (mvT hZ (own_w5 hw)) (mvT hZ (own_w6 hw)) (mvT hZ (own_w3 hw)) (mvT hZ (own_w7 hw)) (by decide) (backOf (W := 1) (rm1 l Z a0 hw [] ua (0 : Int32)  h0 n0 Z0) hZ (own_w7 hw) (own_w3 hw) (by decide) (by decide)) (g := (mkF m 9 #[.val (.ref b), .val (.int (3 : Int32)), .val (.int ua)] [(.int (0 : Int32)), (.int ua), (.int (own_nb ua 0))])) rfl (by rw [hml]; rfl) (argsL := [(.int ua), (.int (0 : Int32))]) (rest := [(.int (own_nb ua 0))]) (lenOf pd_0 rfl) rfl (by show 2 * 0 + _ ≤ _; exact Nat.le_of_eq rfl) (hb hby d9_9) (fun _ _ => ⟨rfl, e0, (by decide : 0 + 0 ≤ _), (by decide : 0 + 0 ≤ _)⟩)
    dsimp only [Pt.U, Pt.locs, Pt.cells, Pt.slots] at X_8 l_8 y_8 z_8 st_8 hQ_8
    subst l_8 y_8 z_8
    obtain ⟨rfl, N_8q, eh_8⟩ := hQ_8
    have N_8 := Fr.app N0 N_8q
    refine hst (fun _ kt => st_8 _ kt) ?_
    show G (T_8.setTop (mkF m 12 #[.val (.ref b), .val (.int (3 : Int32)), .val (.int ua)] [(.int (own_at ua (0 : Int32))), (.int (own_nb ua 0))]))
    have hr0 : (own_nb ua 0) = (own_at ua (0 : Int32)) := own_nb_eq ua 0
    refine hst (fun _ kt => XS.icmpNo X_8.here hx rfl (hb hby d9_12) rfl (teq hr0).2 kt) ?_
    show G (T_8.setTop (mkF m 15 #[.val (.ref b), .val (.int (3 : Int32)), .val (.int ua)] []))
    refine hst (fun _ kt => XS.iloadN X_8.here hx rfl (hb hby d9_15) rfl kt) ?_
    show G (T_8.setTop (mkF m 16 #[.val (.ref b), .val (.int (3 : Int32)), .val (.int ua)] [(.int (3 : Int32))]))
    refine hst (fun _ kt => XS.iconst X_8.here hx rfl (hb hby d9_16) kt) ?_
    show G (T_8.setTop (mkF m 17 #[.val (.ref b), .val (.int (3 : Int32)), .val (.int ua)] [(.int (1 : Int32)), (.int (3 : Int32))]))
    have hq1 : (1 : Int32) < (3 : Int32) := by decide
    refine hst (fun _ kt => XS.icmpNo X_8.here hx rfl (hb hby d9_17) rfl (tlt hq1).2.2.2 kt) ?_
    show G (T_8.setTop (mkF m 20 #[.val (.ref b), .val (.int (3 : Int32)), .val (.int ua)] []))
    refine hst (fun _ kt => XS.aloadN X_8.here hx rfl (hb hby d9_20) rfl rfl kt) ?_
    show G (T_8.setTop (mkF m 21 #[.val (.ref b), .val (.int (3 : Int32)), .val (.int ua)] [(.ref b)]))
    refine hst (fun _ kt => XS.iconst X_8.here hx rfl (hb hby d9_21) kt) ?_
    show G (T_8.setTop (mkF m 22 #[.val (.ref b), .val (.int (3 : Int32)), .val (.int ua)] [(.int (1 : Int32)), (.ref b)]))
    obtain ⟨cl_9, Ar_9, -, S_9, M_9, Hs_9, -⟩ := id V_b
    have hin_9 : ¬ ((1 : Int32) < 0 ∨ cl_9.slots.size ≤ ((1 : Int32)).toNatClampNeg) := inb_of S_9 ⟨by decide, by decide⟩
    have hat_9 : cl_9.slots[((1 : Int32)).toNatClampNeg]? = some (.int (own_nb ua 1)) := Has.at Hs_9 hin_9 rfl
    refine hst (X_8.baloadBytes hx (j := (1 : Int32)) (v := (.int (own_nb ua 1))) (by rw [eh_8]; exact Ar_9.1) (State.isArrayOf_alike hZ.alike Ar_9.2.1) Ar_9.2.2 hin_9 hat_9 (g := (mkF m 22 #[.val (.ref b), .val (.int (3 : Int32)), .val (.int ua)] [(.int (1 : Int32)), (.ref b)])) rfl rfl (hb hby d9_22)) ?_
    show G (T_8.setTop (mkF m 23 #[.val (.ref b), .val (.int (3 : Int32)), .val (.int ua)] [(.int (own_nb ua 1))]))
    refine hst (fun _ kt => XS.iloadN X_8.here hx rfl (hb hby d9_23) rfl kt) ?_
    show G (T_8.setTop (mkF m 24 #[.val (.ref b), .val (.int (3 : Int32)), .val (.int ua)] [(.int ua), (.int (own_nb ua 1))]))
    refine hst (fun _ kt => XS.iconst X_8.here hx rfl (hb hby d9_24) kt) ?_
    show G (T_8.setTop (mkF m 25 #[.val (.ref b), .val (.int (3 : Int32)), .val (.int ua)] [(.int (1 : Int32)), (.int ua), (.int (own_nb ua 1))]))
    obtain ⟨_, _, ⟨T_10, L_10, k_10, n_10⟩, -, X_10, ⟨Lc_10, hQ_10, l_10, y_10, z_10⟩, st_10⟩ := Jvm.LawKit.callS X_8 hx (y := (⟨x.cls, "at", "(II)B"⟩ : MethodName)) hown (mvT hZ (own_w5 hw)) (mvT hZ (own_w6 hw)) (mvT hZ (own_w3 hw)) (mvT hZ (own_w7 hw)) (by decide) (backOf (W := 1) (rm1 l Z a0 hw [] ua (1 : Int32)  h0 n0 Z0) hZ (own_w7 hw) (own_w3 hw) (by decide) (by decide)) (g := (mkF m 25 #[.val (.ref b), .val (.int (3 : Int32)), .val (.int ua)] [(.int (1 : Int32)), (.int ua), (.int (own_nb ua 1))])) rfl (by rw [hml]; rfl) (argsL := [(.int ua), (.int (1 : Int32))]) (rest := [(.int (own_nb ua 1))]) (lenOf pd_0 rfl) rfl (by show 2 * 0 + _ ≤ _; exact Nat.le_of_eq rfl) (hb hby d9_25) (fun _ _ => ⟨rfl, eh_8, (by decide : 0 + 0 ≤ _), (by decide : 0 + 0 ≤ _)⟩)
    dsimp only [Pt.U, Pt.locs, Pt.cells, Pt.slots] at X_10 l_10 y_10 z_10 st_10 hQ_10
    subst l_10 y_10 z_10
    obtain ⟨rfl, N_10q, eh_10⟩ := hQ_10
    have N_10 := Fr.app N_8 N_10q
    refine hst (fun _ kt => st_10 _ kt) ?_
    show G (T_10.setTop (mkF m 28 #[.val (.ref b), .val (.int (3 : Int32)), .val (.int ua)] [(.int (own_at ua (1 : Int32))), (.int (own_nb ua 1))]))
    have hr1 : (own_nb ua 1) = (own_at ua (1 : Int32)) := own_nb_eq ua 1
    refine hst (fun _ kt => XS.icmpNo X_10.here hx rfl (hb hby d9_28) rfl (teq hr1).2 kt) ?_
    show G (T_10.setTop (mkF m 31 #[.val (.ref b), .val (.int (3 : Int32)), .val (.int ua)] []))
    refine hst (fun _ kt => XS.iloadN X_10.here hx rfl (hb hby d9_31) rfl kt) ?_
    show G (T_10.setTop (mkF m 32 #[.val (.ref b), .val (.int (3 : Int32)), .val (.int ua)] [(.int (3 : Int32))]))
    refine hst (fun _ kt => XS.iconst X_10.here hx rfl (hb hby d9_32) kt) ?_
    show G (T_10.setTop (mkF m 33 #[.val (.ref b), .val (.int (3 : Int32)), .val (.int ua)] [(.int (2 : Int32)), (.int (3 : Int32))]))
    have hq2 : (2 : Int32) < (3 : Int32) := by decide
    refine hst (fun _ kt => XS.icmpNo X_10.here hx rfl (hb hby d9_33) rfl (tlt hq2).2.2.2 kt) ?_
    show G (T_10.setTop (mkF m 36 #[.val (.ref b), .val (.int (3 : Int32)), .val (.int ua)] []))
    refine hst (fun _ kt => XS.aloadN X_10.here hx rfl (hb hby d9_36) rfl rfl kt) ?_
    show G (T_10.setTop (mkF m 37 #[.val (.ref b), .val (.int (3 : Int32)), .val (.int ua)] [(.ref b)]))
    refine hst (fun _ kt => XS.iconst X_10.here hx rfl (hb hby d9_37) kt) ?_
    show G (T_10.setTop (mkF m 38 #[.val (.ref b), .val (.int (3 : Int32)), .val (.int ua)] [(.int (2 : Int32)), (.ref b)]))
    obtain ⟨cl_11, Ar_11, -, S_11, M_11, Hs_11, -⟩ := id V_b
    have hin_11 : ¬ ((2 : Int32) < 0 ∨ cl_11.slots.size ≤ ((2 : Int32)).toNatClampNeg) := inb_of S_11 ⟨by decide, by decide⟩
    have hat_11 : cl_11.slots[((2 : Int32)).toNatClampNeg]? = some (.int (own_nb ua 2)) := Has.at Hs_11 hin_11 rfl
    refine hst (X_10.baloadBytes hx (j := (2 : Int32)) (v := (.int (own_nb ua 2))) (by rw [eh_10]; exact Ar_11.1) (State.isArrayOf_alike hZ.alike Ar_11.2.1) Ar_11.2.2 hin_11 hat_11 (g := (mkF m 38 #[.val (.ref b), .val (.int (3 : Int32)), .val (.int ua)] [(.int (2 : Int32)), (.ref b)])) rfl rfl (hb hby d9_38)) ?_
    show G (T_10.setTop (mkF m 39 #[.val (.ref b), .val (.int (3 : Int32)), .val (.int ua)] [(.int (own_nb ua 2))]))
    refine hst (fun _ kt => XS.iloadN X_10.here hx rfl (hb hby d9_39) rfl kt) ?_
    show G (T_10.setTop (mkF m 40 #[.val (.ref b), .val (.int (3 : Int32)), .val (.int ua)] [(.int ua), (.int (own_nb ua 2))]))
    refine hst (fun _ kt => XS.iconst X_10.here hx rfl (hb hby d9_40) kt) ?_
    show G (T_10.setTop (mkF m 41 #[.val (.ref b), .val (.int (3 : Int32)), .val (.int ua)] [(.int (2 : Int32)), (.int ua), (.int (own_nb ua 2))]))
    obtain ⟨_, _, ⟨T_12, L_12, k_12, n_12⟩, -, X_12, ⟨Lc_12, hQ_12, l_12, y_12, z_12⟩, st_12⟩ := Jvm.LawKit.callS X_10 hx (y := (⟨x.cls, "at", "(II)B"⟩ : MethodName)) hown (mvT hZ (own_w5 hw)) (mvT hZ (own_w6 hw)) (mvT hZ (own_w3 hw)) (mvT hZ (own_w7 hw)) (by decide) (backOf (W := 1) (rm1 l Z a0 hw [] ua (2 : Int32)  h0 n0 Z0) hZ (own_w7 hw) (own_w3 hw) (by decide) (by decide)) (g := (mkF m 41 #[.val (.ref b), .val (.int (3 : Int32)), .val (.int ua)] [(.int (2 : Int32)), (.int ua), (.int (own_nb ua 2))])) rfl (by rw [hml]; rfl) (argsL := [(.int ua), (.int (2 : Int32))]) (rest := [(.int (own_nb ua 2))]) (lenOf pd_0 rfl) rfl (by show 2 * 0 + _ ≤ _; exact Nat.le_of_eq rfl) (hb hby d9_41) (fun _ _ => ⟨rfl, eh_10, (by decide : 0 + 0 ≤ _), (by decide : 0 + 0 ≤ _)⟩)
    dsimp only [Pt.U, Pt.locs, Pt.cells, Pt.slots] at X_12 l_12 y_12 z_12 st_12 hQ_12
    subst l_12 y_12 z_12
    obtain ⟨rfl, N_12q, eh_12⟩ := hQ_12
    have N_12 := Fr.app N_10 N_12q
    refine hst (fun _ kt => st_12 _ kt) ?_
    show G (T_12.setTop (mkF m 44 #[.val (.ref b), .val (.int (3 : Int32)), .val (.int ua)] [(.int (own_at ua (2 : Int32))), (.int (own_nb ua 2))]))
    have hr2 : (own_nb ua 2) = (own_at ua (2 : Int32)) := own_nb_eq ua 2
    refine hst (fun _ kt => XS.icmpNo X_12.here hx rfl (hb hby d9_44) rfl (teq hr2).2 kt) ?_
    show G (T_12.setTop (mkF m 47 #[.val (.ref b), .val (.int (3 : Int32)), .val (.int ua)] []))
    refine hst (fun _ kt => XS.iloadN X_12.here hx rfl (hb hby d9_47) rfl kt) ?_
    show G (T_12.setTop (mkF m 48 #[.val (.ref b), .val (.int (3 : Int32)), .val (.int ua)] [(.int (3 : Int32))]))
    refine hst (fun _ kt => XS.iconst X_12.here hx rfl (hb hby d9_48) kt) ?_
    show G (T_12.setTop (mkF m 49 #[.val (.ref b), .val (.int (3 : Int32)), .val (.int ua)] [(.int (3 : Int32)), (.int (3 : Int32))]))
    have hq3 : ¬ ((3 : Int32) < (3 : Int32)) := by decide
    refine hst (fun _ kt => XS.icmpYes X_12.here hx rfl (pc0 := 49) (pc' := 63) rfl (hb hby d9_49) rfl (flt hq3).2.2.2 (by decide) (by decide) kt) ?_
    show G (T_12.setTop (mkF m 63 #[.val (.ref b), .val (.int (3 : Int32)), .val (.int ua)] []))
    refine hst (fun _ kt => XS.iconst X_12.here hx rfl (hb hby d9_63) kt) ?_
    show G (T_12.setTop (mkF m 64 #[.val (.ref b), .val (.int (3 : Int32)), .val (.int ua)] [(.int (1 : Int32))]))
    refine hst (fun _ kt => XS.goto X_12.here hx rfl (pc0 := 64) (pc' := 68) rfl (hb hby d9_64) (by decide) (by decide) kt) ?_
    show G (T_12.setTop (mkF m 68 #[.val (.ref b), .val (.int (3 : Int32)), .val (.int ua)] [(.int (1 : Int32))]))
    exact hend (own_goRet X_12 hx Bd.returns rfl (Or.inl ⟨rfl, by simp, _, rfl⟩) (hb hby d9_68) Bd.notSynchronized (by rw [eh_12]; exact ⟨rfl, N_12, rfl⟩) (by decide) (by decide))
  ·
    have V_b : Arv Z h0 b kb .byte (4 : Int32) [(.int (own_nb ua 0)), (.int (own_nb ua 1)), (.int (own_nb ua 2)), (.int (own_nb ua 3))] (.int (0 : Int32)) := V_b
    show G (s₁.setTop (mkF m 0 #[.val (.ref b), .val (.int (4 : Int32)), .val (.int ua)] []))
    refine hst (fun _ kt => XS.iloadN X0.here hx rfl (hb hby d9_0) rfl kt) ?_
    show G (s₁.setTop (mkF m 1 #[.val (.ref b), .val (.int (4 : Int32)), .val (.int ua)] [(.int (4 : Int32))]))
    have hq0 : (0 : Int32) < (4 : Int32) := by decide
    refine hst (fun _ kt => XS.ifNo X0.here hx rfl (hb hby d9_1) rfl ((if0 _ _).trans (tlt hq0).2.2.2) kt) ?_
    show G (s₁.setTop (mkF m 4 #[.val (.ref b), .val (.int (4 : Int32)), .val (.int ua)] []))
    refine hst (fun _ kt => XS.aloadN X0.here hx rfl (hb hby d9_4) rfl rfl kt) ?_
    show G (s₁.setTop (mkF m 5 #[.val (.ref b), .val (.int (4 : Int32)), .val (.int ua)] [(.ref b)]))
    refine hst (fun _ kt => XS.iconst X0.here hx rfl (hb hby d9_5) kt) ?_
    show G (s₁.setTop (mkF m 6 #[.val (.ref b), .val (.int (4 : Int32)), .val (.int ua)] [(.int (0 : Int32)), (.ref b)]))
    obtain ⟨cl_13, Ar_13, -, S_13, M_13, Hs_13, -⟩ := id V_b
    have hin_13 : ¬ ((0 : Int32) < 0 ∨ cl_13.slots.size ≤ ((0 : Int32)).toNatClampNeg) := inb_of S_13 ⟨by decide, by decide⟩
    have hat_13 : cl_13.slots[((0 : Int32)).toNatClampNeg]? = some (.int (own_nb ua 0)) := Has.at Hs_13 hin_13 rfl
    refine hst (X0.baloadBytes hx (j := (0 : Int32)) (v := (.int (own_nb ua 0))) (by rw [e0]; exact Ar_13.1) (State.isArrayOf_alike hZ.alike Ar_13.2.1) Ar_13.2.2 hin_13 hat_13 (g := (mkF m 6 #[.val (.ref b), .val (.int (4 : Int32)), .val (.int ua)] [(.int (0 : Int32)), (.ref b)])) rfl rfl (hb hby d9_6)) ?_
    show G (s₁.setTop (mkF m 7 #[.val (.ref b), .val (.int (4 : Int32)), .val (.int ua)] [(.int (own_nb ua 0))]))
    refine hst (fun _ kt => XS.iloadN X0.here hx rfl (hb hby d9_7) rfl kt) ?_
    show G (s₁.setTop (mkF m 8 #[.val (.ref b), .val (.int (4 : Int32)), .val (.int ua)] [(.int ua), (.int (own_nb ua 0))]))
    refine hst (fun _ kt => XS.iconst X0.here hx rfl (hb hby d9_8) kt) ?_
    show G (s₁.setTop (mkF m 9 #[.val (.ref b), .val (.int (4 : Int32)), .val (.int ua)] [(.int (0 : Int32)), (.int ua), (.int (own_nb ua 0))]))
    obtain ⟨_, _, ⟨T_14, L_14, k_14, n_14⟩, -, X_14, ⟨Lc_14, hQ_14, l_14, y_14, z_14⟩, st_14⟩ := Jvm.LawKit.callS X0 hx (y := (⟨x.cls, "at", "(II)B"⟩ : MethodName)) hown (mvT hZ (own_w5 hw)) (mvT hZ (own_w6 hw)) (mvT hZ (own_w3 hw)) (mvT hZ (own_w7 hw)) (by decide) (backOf (W := 1) (rm1 l Z a0 hw [] ua (0 : Int32)  h0 n0 Z0) hZ (own_w7 hw) (own_w3 hw) (by decide) (by decide)) (g := (mkF m 9 #[.val (.ref b), .val (.int (4 : Int32)), .val (.int ua)] [(.int (0 : Int32)), (.int ua), (.int (own_nb ua 0))])) rfl (by rw [hml]; rfl) (argsL := [(.int ua), (.int (0 : Int32))]) (rest := [(.int (own_nb ua 0))]) (lenOf pd_0 rfl) rfl (by show 2 * 0 + _ ≤ _; exact Nat.le_of_eq rfl) (hb hby d9_9) (fun _ _ => ⟨rfl, e0, (by decide : 0 + 0 ≤ _), (by decide : 0 + 0 ≤ _)⟩)
    dsimp only [Pt.U, Pt.locs, Pt.cells, Pt.slots] at X_14 l_14 y_14 z_14 st_14 hQ_14
    subst l_14 y_14 z_14
    obtain ⟨rfl, N_14q, eh_14⟩ := hQ_14
    have N_14 := Fr.app N0 N_14q
    refine hst (fun _ kt => st_14 _ kt) ?_
    show G (T_14.setTop (mkF m 12 #[.val (.ref b), .val (.int (4 : Int32)), .val (.int ua)] [(.int (own_at ua (0 : Int32))), (.int (own_nb ua 0))]))
    have hr0 : (own_nb ua 0) = (own_at ua (0 : Int32)) := own_nb_eq ua 0
    refine hst (fun _ kt => XS.icmpNo X_14.here hx rfl (hb hby d9_12) rfl (teq hr0).2 kt) ?_
    show G (T_14.setTop (mkF m 15 #[.val (.ref b), .val (.int (4 : Int32)), .val (.int ua)] []))
    refine hst (fun _ kt => XS.iloadN X_14.here hx rfl (hb hby d9_15) rfl kt) ?_
    show G (T_14.setTop (mkF m 16 #[.val (.ref b), .val (.int (4 : Int32)), .val (.int ua)] [(.int (4 : Int32))]))
    refine hst (fun _ kt => XS.iconst X_14.here hx rfl (hb hby d9_16) kt) ?_
    show G (T_14.setTop (mkF m 17 #[.val (.ref b), .val (.int (4 : Int32)), .val (.int ua)] [(.int (1 : Int32)), (.int (4 : Int32))]))
    have hq1 : (1 : Int32) < (4 : Int32) := by decide
    refine hst (fun _ kt => XS.icmpNo X_14.here hx rfl (hb hby d9_17) rfl (tlt hq1).2.2.2 kt) ?_
    show G (T_14.setTop (mkF m 20 #[.val (.ref b), .val (.int (4 : Int32)), .val (.int ua)] []))
    refine hst (fun _ kt => XS.aloadN X_14.here hx rfl (hb hby d9_20) rfl rfl kt) ?_
    show G (T_14.setTop (mkF m 21 #[.val (.ref b), .val (.int (4 : Int32)), .val (.int ua)] [(.ref b)]))
    refine hst (fun _ kt => XS.iconst X_14.here hx rfl (hb hby d9_21) kt) ?_
    show G (T_14.setTop (mkF m 22 #[.val (.ref b), .val (.int (4 : Int32)), .val (.int ua)] [(.int (1 : Int32)), (.ref b)]))
    obtain ⟨cl_15, Ar_15, -, S_15, M_15, Hs_15, -⟩ := id V_b
    have hin_15 : ¬ ((1 : Int32) < 0 ∨ cl_15.slots.size ≤ ((1 : Int32)).toNatClampNeg) := inb_of S_15 ⟨by decide, by decide⟩
    have hat_15 : cl_15.slots[((1 : Int32)).toNatClampNeg]? = some (.int (own_nb ua 1)) := Has.at Hs_15 hin_15 rfl
    refine hst (X_14.baloadBytes hx (j := (1 : Int32)) (v := (.int (own_nb ua 1))) (by rw [eh_14]; exact Ar_15.1) (State.isArrayOf_alike hZ.alike Ar_15.2.1) Ar_15.2.2 hin_15 hat_15 (g := (mkF m 22 #[.val (.ref b), .val (.int (4 : Int32)), .val (.int ua)] [(.int (1 : Int32)), (.ref b)])) rfl rfl (hb hby d9_22)) ?_
    show G (T_14.setTop (mkF m 23 #[.val (.ref b), .val (.int (4 : Int32)), .val (.int ua)] [(.int (own_nb ua 1))]))
    refine hst (fun _ kt => XS.iloadN X_14.here hx rfl (hb hby d9_23) rfl kt) ?_
    show G (T_14.setTop (mkF m 24 #[.val (.ref b), .val (.int (4 : Int32)), .val (.int ua)] [(.int ua), (.int (own_nb ua 1))]))
    refine hst (fun _ kt => XS.iconst X_14.here hx rfl (hb hby d9_24) kt) ?_
    show G (T_14.setTop (mkF m 25 #[.val (.ref b), .val (.int (4 : Int32)), .val (.int ua)] [(.int (1 : Int32)), (.int ua), (.int (own_nb ua 1))]))
    obtain ⟨_, _, ⟨T_16, L_16, k_16, n_16⟩, -, X_16, ⟨Lc_16, hQ_16, l_16, y_16, z_16⟩, st_16⟩ := Jvm.LawKit.callS X_14 hx (y := (⟨x.cls, "at", "(II)B"⟩ : MethodName)) hown (mvT hZ (own_w5 hw)) (mvT hZ (own_w6 hw)) (mvT hZ (own_w3 hw)) (mvT hZ (own_w7 hw)) (by decide) (backOf (W := 1) (rm1 l Z a0 hw [] ua (1 : Int32)  h0 n0 Z0) hZ (own_w7 hw) (own_w3 hw) (by decide) (by decide)) (g := (mkF m 25 #[.val (.ref b), .val (.int (4 : Int32)), .val (.int ua)] [(.int (1 : Int32)), (.int ua), (.int (own_nb ua 1))])) rfl (by rw [hml]; rfl) (argsL := [(.int ua), (.int (1 : Int32))]) (rest := [(.int (own_nb ua 1))]) (lenOf pd_0 rfl) rfl (by show 2 * 0 + _ ≤ _; exact Nat.le_of_eq rfl) (hb hby d9_25) (fun _ _ => ⟨rfl, eh_14, (by decide : 0 + 0 ≤ _), (by decide : 0 + 0 ≤ _)⟩)
    dsimp only [Pt.U, Pt.locs, Pt.cells, Pt.slots] at X_16 l_16 y_16 z_16 st_16 hQ_16
    subst l_16 y_16 z_16
    obtain ⟨rfl, N_16q, eh_16⟩ := hQ_16
    have N_16 := Fr.app N_14 N_16q
    refine hst (fun _ kt => st_16 _ kt) ?_
    show G (T_16.setTop (mkF m 28 #[.val (.ref b), .val (.int (4 : Int32)), .val (.int ua)] [(.int (own_at ua (1 : Int32))), (.int (own_nb ua 1))]))
    have hr1 : (own_nb ua 1) = (own_at ua (1 : Int32)) := own_nb_eq ua 1
    refine hst (fun _ kt => XS.icmpNo X_16.here hx rfl (hb hby d9_28) rfl (teq hr1).2 kt) ?_
    show G (T_16.setTop (mkF m 31 #[.val (.ref b), .val (.int (4 : Int32)), .val (.int ua)] []))
    refine hst (fun _ kt => XS.iloadN X_16.here hx rfl (hb hby d9_31) rfl kt) ?_
    show G (T_16.setTop (mkF m 32 #[.val (.ref b), .val (.int (4 : Int32)), .val (.int ua)] [(.int (4 : Int32))]))
    refine hst (fun _ kt => XS.iconst X_16.here hx rfl (hb hby d9_32) kt) ?_
    show G (T_16.setTop (mkF m 33 #[.val (.ref b), .val (.int (4 : Int32)), .val (.int ua)] [(.int (2 : Int32)), (.int (4 : Int32))]))
    have hq2 : (2 : Int32) < (4 : Int32) := by decide
    refine hst (fun _ kt => XS.icmpNo X_16.here hx rfl (hb hby d9_33) rfl (tlt hq2).2.2.2 kt) ?_
    show G (T_16.setTop (mkF m 36 #[.val (.ref b), .val (.int (4 : Int32)), .val (.int ua)] []))
    refine hst (fun _ kt => XS.aloadN X_16.here hx rfl (hb hby d9_36) rfl rfl kt) ?_
    show G (T_16.setTop (mkF m 37 #[.val (.ref b), .val (.int (4 : Int32)), .val (.int ua)] [(.ref b)]))
    refine hst (fun _ kt => XS.iconst X_16.here hx rfl (hb hby d9_37) kt) ?_
    show G (T_16.setTop (mkF m 38 #[.val (.ref b), .val (.int (4 : Int32)), .val (.int ua)] [(.int (2 : Int32)), (.ref b)]))
    obtain ⟨cl_17, Ar_17, -, S_17, M_17, Hs_17, -⟩ := id V_b
    have hin_17 : ¬ ((2 : Int32) < 0 ∨ cl_17.slots.size ≤ ((2 : Int32)).toNatClampNeg) := inb_of S_17 ⟨by decide, by decide⟩
    have hat_17 : cl_17.slots[((2 : Int32)).toNatClampNeg]? = some (.int (own_nb ua 2)) := Has.at Hs_17 hin_17 rfl
    refine hst (X_16.baloadBytes hx (j := (2 : Int32)) (v := (.int (own_nb ua 2))) (by rw [eh_16]; exact Ar_17.1) (State.isArrayOf_alike hZ.alike Ar_17.2.1) Ar_17.2.2 hin_17 hat_17 (g := (mkF m 38 #[.val (.ref b), .val (.int (4 : Int32)), .val (.int ua)] [(.int (2 : Int32)), (.ref b)])) rfl rfl (hb hby d9_38)) ?_
    show G (T_16.setTop (mkF m 39 #[.val (.ref b), .val (.int (4 : Int32)), .val (.int ua)] [(.int (own_nb ua 2))]))
    refine hst (fun _ kt => XS.iloadN X_16.here hx rfl (hb hby d9_39) rfl kt) ?_
    show G (T_16.setTop (mkF m 40 #[.val (.ref b), .val (.int (4 : Int32)), .val (.int ua)] [(.int ua), (.int (own_nb ua 2))]))
    refine hst (fun _ kt => XS.iconst X_16.here hx rfl (hb hby d9_40) kt) ?_
    show G (T_16.setTop (mkF m 41 #[.val (.ref b), .val (.int (4 : Int32)), .val (.int ua)] [(.int (2 : Int32)), (.int ua), (.int (own_nb ua 2))]))
    obtain ⟨_, _, ⟨T_18, L_18, k_18, n_18⟩, -, X_18, ⟨Lc_18, hQ_18, l_18, y_18, z_18⟩, st_18⟩ := Jvm.LawKit.callS X_16 hx (y := (⟨x.cls, "at", "(II)B"⟩ : MethodName)) hown (mvT hZ (own_w5 hw)) (mvT hZ (own_w6 hw)) (mvT hZ (own_w3 hw)) (mvT hZ (own_w7 hw)) (by decide) (backOf (W := 1) (rm1 l Z a0 hw [] ua (2 : Int32)  h0 n0 Z0) hZ (own_w7 hw) (own_w3 hw) (by decide) (by decide)) (g := (mkF m 41 #[.val (.ref b), .val (.int (4 : Int32)), .val (.int ua)] [(.int (2 : Int32)), (.int ua), (.int (own_nb ua 2))])) rfl (by rw [hml]; rfl) (argsL := [(.int ua), (.int (2 : Int32))]) (rest := [(.int (own_nb ua 2))]) (lenOf pd_0 rfl) rfl (by show 2 * 0 + _ ≤ _; exact Nat.le_of_eq rfl) (hb hby d9_41) (fun _ _ => ⟨rfl, eh_16, (by decide : 0 + 0 ≤ _), (by decide : 0 + 0 ≤ _)⟩)
    dsimp only [Pt.U, Pt.locs, Pt.cells, Pt.slots] at X_18 l_18 y_18 z_18 st_18 hQ_18
    subst l_18 y_18 z_18
    obtain ⟨rfl, N_18q, eh_18⟩ := hQ_18
    have N_18 := Fr.app N_16 N_18q
    refine hst (fun _ kt => st_18 _ kt) ?_
    show G (T_18.setTop (mkF m 44 #[.val (.ref b), .val (.int (4 : Int32)), .val (.int ua)] [(.int (own_at ua (2 : Int32))), (.int (own_nb ua 2))]))
    have hr2 : (own_nb ua 2) = (own_at ua (2 : Int32)) := own_nb_eq ua 2
    refine hst (fun _ kt => XS.icmpNo X_18.here hx rfl (hb hby d9_44) rfl (teq hr2).2 kt) ?_
    show G (T_18.setTop (mkF m 47 #[.val (.ref b), .val (.int (4 : Int32)), .val (.int ua)] []))
    refine hst (fun _ kt => XS.iloadN X_18.here hx rfl (hb hby d9_47) rfl kt) ?_
    show G (T_18.setTop (mkF m 48 #[.val (.ref b), .val (.int (4 : Int32)), .val (.int ua)] [(.int (4 : Int32))]))
    refine hst (fun _ kt => XS.iconst X_18.here hx rfl (hb hby d9_48) kt) ?_
    show G (T_18.setTop (mkF m 49 #[.val (.ref b), .val (.int (4 : Int32)), .val (.int ua)] [(.int (3 : Int32)), (.int (4 : Int32))]))
    have hq3 : (3 : Int32) < (4 : Int32) := by decide
    refine hst (fun _ kt => XS.icmpNo X_18.here hx rfl (hb hby d9_49) rfl (tlt hq3).2.2.2 kt) ?_
    show G (T_18.setTop (mkF m 52 #[.val (.ref b), .val (.int (4 : Int32)), .val (.int ua)] []))
    refine hst (fun _ kt => XS.aloadN X_18.here hx rfl (hb hby d9_52) rfl rfl kt) ?_
    show G (T_18.setTop (mkF m 53 #[.val (.ref b), .val (.int (4 : Int32)), .val (.int ua)] [(.ref b)]))
    refine hst (fun _ kt => XS.iconst X_18.here hx rfl (hb hby d9_53) kt) ?_
    show G (T_18.setTop (mkF m 54 #[.val (.ref b), .val (.int (4 : Int32)), .val (.int ua)] [(.int (3 : Int32)), (.ref b)]))
    obtain ⟨cl_19, Ar_19, -, S_19, M_19, Hs_19, -⟩ := id V_b
    have hin_19 : ¬ ((3 : Int32) < 0 ∨ cl_19.slots.size ≤ ((3 : Int32)).toNatClampNeg) := inb_of S_19 ⟨by decide, by decide⟩
    have hat_19 : cl_19.slots[((3 : Int32)).toNatClampNeg]? = some (.int (own_nb ua 3)) := Has.at Hs_19 hin_19 rfl
    refine hst (X_18.baloadBytes hx (j := (3 : Int32)) (v := (.int (own_nb ua 3))) (by rw [eh_18]; exact Ar_19.1) (State.isArrayOf_alike hZ.alike Ar_19.2.1) Ar_19.2.2 hin_19 hat_19 (g := (mkF m 54 #[.val (.ref b), .val (.int (4 : Int32)), .val (.int ua)] [(.int (3 : Int32)), (.ref b)])) rfl rfl (hb hby d9_54)) ?_
    show G (T_18.setTop (mkF m 55 #[.val (.ref b), .val (.int (4 : Int32)), .val (.int ua)] [(.int (own_nb ua 3))]))
    refine hst (fun _ kt => XS.iloadN X_18.here hx rfl (hb hby d9_55) rfl kt) ?_
    show G (T_18.setTop (mkF m 56 #[.val (.ref b), .val (.int (4 : Int32)), .val (.int ua)] [(.int ua), (.int (own_nb ua 3))]))
    refine hst (fun _ kt => XS.iconst X_18.here hx rfl (hb hby d9_56) kt) ?_
    show G (T_18.setTop (mkF m 57 #[.val (.ref b), .val (.int (4 : Int32)), .val (.int ua)] [(.int (3 : Int32)), (.int ua), (.int (own_nb ua 3))]))
    obtain ⟨_, _, ⟨T_20, L_20, k_20, n_20⟩, -, X_20, ⟨Lc_20, hQ_20, l_20, y_20, z_20⟩, st_20⟩ := Jvm.LawKit.callS X_18 hx (y := (⟨x.cls, "at", "(II)B"⟩ : MethodName)) hown (mvT hZ (own_w5 hw)) (mvT hZ (own_w6 hw)) (mvT hZ (own_w3 hw)) (mvT hZ (own_w7 hw)) (by decide) (backOf (W := 1) (rm1 l Z a0 hw [] ua (3 : Int32)  h0 n0 Z0) hZ (own_w7 hw) (own_w3 hw) (by decide) (by decide)) (g := (mkF m 57 #[.val (.ref b), .val (.int (4 : Int32)), .val (.int ua)] [(.int (3 : Int32)), (.int ua), (.int (own_nb ua 3))])) rfl (by rw [hml]; rfl) (argsL := [(.int ua), (.int (3 : Int32))]) (rest := [(.int (own_nb ua 3))]) (lenOf pd_0 rfl) rfl (by show 2 * 0 + _ ≤ _; exact Nat.le_of_eq rfl) (hb hby d9_57) (fun _ _ => ⟨rfl, eh_18, (by decide : 0 + 0 ≤ _), (by decide : 0 + 0 ≤ _)⟩)
    dsimp only [Pt.U, Pt.locs, Pt.cells, Pt.slots] at X_20 l_20 y_20 z_20 st_20 hQ_20
    subst l_20 y_20 z_20
    obtain ⟨rfl, N_20q, eh_20⟩ := hQ_20
    have N_20 := Fr.app N_18 N_20q
    refine hst (fun _ kt => st_20 _ kt) ?_
    show G (T_20.setTop (mkF m 60 #[.val (.ref b), .val (.int (4 : Int32)), .val (.int ua)] [(.int (own_at ua (3 : Int32))), (.int (own_nb ua 3))]))
    have hr3 : (own_nb ua 3) = (own_at ua (3 : Int32)) := own_nb_eq ua 3
    refine hst (fun _ kt => XS.icmpNo X_20.here hx rfl (hb hby d9_60) rfl (teq hr3).2 kt) ?_
    show G (T_20.setTop (mkF m 63 #[.val (.ref b), .val (.int (4 : Int32)), .val (.int ua)] []))
    refine hst (fun _ kt => XS.iconst X_20.here hx rfl (hb hby d9_63) kt) ?_
    show G (T_20.setTop (mkF m 64 #[.val (.ref b), .val (.int (4 : Int32)), .val (.int ua)] [(.int (1 : Int32))]))
    refine hst (fun _ kt => XS.goto X_20.here hx rfl (pc0 := 64) (pc' := 68) rfl (hb hby d9_64) (by decide) (by decide) kt) ?_
    show G (T_20.setTop (mkF m 68 #[.val (.ref b), .val (.int (4 : Int32)), .val (.int ua)] [(.int (1 : Int32))]))
    exact hend (own_goRet X_20 hx Bd.returns rfl (Or.inl ⟨rfl, by simp, _, rfl⟩) (hb hby d9_68) Bd.notSynchronized (by rw [eh_20]; exact ⟨rfl, N_20, rfl⟩) (by decide) (by decide))
theorem own_st6 {v0 v1 v2 v3 v4 v5 : Value} {s6 : Slot} {vv : Int32} (h : One s6) : storeLocals #[.val v0, .val v1, .val v2, .val v3, .val v4, .val v5, s6, .unset] 6 (.int vv) = some #[.val v0, .val v1, .val v2, .val v3, .val v4, .val v5, .val (.int vv), .unset] := by
  rcases h with rfl | ⟨w, rfl, hw⟩
  · rfl
  · cases w <;> first | rfl | (simp [Value.category] at hw)
theorem ef_0 (m : MethodId) (ua : Int32) (us : Int32) (um : Int32) : entryFrame m #[(.int ua), (.int us), (.int um)] maxLocals = mkF m 0 #[.val (.int ua), .val (.int us), .val (.int um), .unset, .unset, .unset, .unset, .unset] [] := by first | (simp [entryFrame, mkF, argsToLocals, Value.category, maxLocals]; done) | rfl
theorem pn_0 : plainName x.cls = true := by first | decide +kernel | (simp [plainName, overriddenIn]; done)
set_option maxRecDepth 65536 in
set_option maxHeartbeats 40000000 in
theorem rm0 (l : Launch) (Z : State) (a0 : Array Value) (hw : ∀ d ∈ tables_1, d.before a0 Z = true) (ws : List Jvm.Cond) (ua : Int32) (us : Int32) (um : Int32) (h0 : Heap) (n0 : Nat) (Z0 : n0 ≤ h0.size) :
    MetFree l x (head1 (Jvm.Cond.code x code maxLocals ret :: ws) room_1) (fun a_ U_ => a_ = #[(.int ua), (.int us), (.int um)] ∧ Z.Warmed39 U_.vm ∧ U_.heap = h0) (fun _ _ _ _ _ => True) (fun _ U_ o_ W_ => ∃ v_ L_, o_ = .returned v_ ∧ own_Q0 n0 v_ W_.heap L_ ∧ ReturnedEndW U_ o_ W_ L_ room_1.cells room_1.slots) := by
  refine MetFree.of_bodySF (plainFor_of_name pn_0) hisR ?_
  intro p e s m args below meth c s₁ Bd hml0 hP hK
  obtain ⟨rfl, hZ, hh⟩ := hP
  have hx := Bd.exec
  have hby := Bd.bytes
  have hml : c.maxLocals = 8 := hml0
  have hown : s.vm.findClass x.cls = some m.cls := by have z := findClass_of_methodNamed Bd.named; exact z
  have hnm := (name_of_methodNamed Bd.named Bd.method).1
  have X0 : Stand p l e room_1 s m #[(.int ua), (.int us), (.int um)] below meth c s₁ [] 0 0 := Stand.of_body Bd
  have e0 : s₁.heap = h0 := by rw [← hh, Bd.state]; rfl
  have N0 := Fr.nil n0
  obtain ⟨G, hG, hst, hend⟩ := own_absW p e below s (own_Q0 n0) room_1.cells room_1.slots
  refine hG (S := s₁.setTop (entryFrame m #[(.int ua), (.int us), (.int um)] maxLocals)) (hst (fun t k => castTop (ef_0 m ua us um) k) ?_)
  have hS := X0.warmed.since h0.size
  have hkS : h0.size ≤ h0.size := Nat.le_refl _
  have hZ : Z.Warmed39 (s.setVm s₁.vm).vm := wtrans hZ X0.warmed
  have hown : (s.setVm s₁.vm).vm.findClass x.cls = some m.cls := by rw [show (s.setVm s₁.vm).vm = s₁.vm from rfl, X0.warmed.alike.findClass]; exact hown
  have Xs_1 := X0.retabled X0.warmed.wide
  show G (s₁.setTop (mkF m 0 #[.val (.int ua), .val (.int us), .val (.int um), .unset, .unset, .unset, .unset, .unset] []))
  refine hst (fun _ kt => XS.iloadN Xs_1.here hx rfl (hb hby at_0) rfl kt) ?_
  show G (s₁.setTop (mkF m 1 #[.val (.int ua), .val (.int us), .val (.int um), .unset, .unset, .unset, .unset, .unset] [(.int us)]))
  refine hst (Xs_1.ldcInt hx hown (mvT hZ (own_w0 hw)) (g := (mkF m 1 #[.val (.int ua), .val (.int us), .val (.int um), .unset, .unset, .unset, .unset, .unset] [(.int us)])) rfl (hb hby at_1)) ?_
  show G (s₁.setTop (mkF m 3 #[.val (.int ua), .val (.int us), .val (.int um), .unset, .unset, .unset, .unset, .unset] [(.int (2147483647 : Int32)), (.int us)]))
  refine hst (fun _ kt => XS.iand Xs_1.here hx rfl (hb hby at_3) rfl kt) ?_
  show G (s₁.setTop (mkF m 4 #[.val (.int ua), .val (.int us), .val (.int um), .unset, .unset, .unset, .unset, .unset] [(.int (us &&& (2147483647 : Int32)))]))
  refine hst (fun _ kt => XS.iconst Xs_1.here hx rfl (hb hby at_4) kt) ?_
  show G (s₁.setTop (mkF m 5 #[.val (.int ua), .val (.int us), .val (.int um), .unset, .unset, .unset, .unset, .unset] [(.int (5 : Int32)), (.int (us &&& (2147483647 : Int32)))]))
  refine hst (fun _ kt => iremM Xs_1 hx rfl (hb hby at_5) rfl (by decide) kt) ?_
  show G (s₁.setTop (mkF m 6 #[.val (.int ua), .val (.int us), .val (.int um), .unset, .unset, .unset, .unset, .unset] [(.int ((us &&& (2147483647 : Int32)) % (5 : Int32)))]))
  have hin := own_In_mod us
  generalize ((us &&& (2147483647 : Int32)) % (5 : Int32)) = un at hin ⊢
  show G (s₁.setTop (mkF m 6 #[.val (.int ua), .val (.int us), .val (.int um), .unset, .unset, .unset, .unset, .unset] [(.int un)]))
  refine hst (fun _ kt => XS.istoreN Xs_1.here hx rfl (hb hby at_6) rfl (l' := #[.val (.int ua), .val (.int us), .val (.int um), .val (.int un), .unset, .unset, .unset, .unset]) rfl kt) ?_
  show G (s₁.setTop (mkF m 7 #[.val (.int ua), .val (.int us), .val (.int um), .val (.int un), .unset, .unset, .unset, .unset] []))
  refine hst (fun _ kt => XS.iloadN Xs_1.here hx rfl (hb hby at_7) rfl kt) ?_
  show G (s₁.setTop (mkF m 8 #[.val (.int ua), .val (.int us), .val (.int um), .val (.int un), .unset, .unset, .unset, .unset] [(.int un)]))
  refine hst (fun _ kt => XS.iloadN Xs_1.here hx rfl (hb hby at_8) rfl kt) ?_
  show G (s₁.setTop (mkF m 9 #[.val (.int ua), .val (.int us), .val (.int um), .val (.int un), .unset, .unset, .unset, .unset] [(.int ua), (.int un)]))
  obtain ⟨_, _, ⟨T_2, L_2, k_2, n_2⟩, -, X_2, ⟨Lc_2, hQ_2, l_2, y_2, z_2⟩, st_2⟩ := Jvm.LawKit.callS Xs_1 hx (y := (⟨x.cls, "make", "(II)[B"⟩ : MethodName)) hown (mvT hZ (own_w1 hw)) (mvT hZ (own_w2 hw)) (mvT hZ (own_w3 hw)) (mvT hZ (own_w4 hw)) (by decide) (backOf (W := 0) (rm2 l Z a0 hw [] un ua  h0 n0 Z0 hin) hZ (own_w4 hw) (own_w3 hw) (by decide) (by decide)) (g := (mkF m 9 #[.val (.int ua), .val (.int us), .val (.int um), .val (.int un), .unset, .unset, .unset, .unset] [(.int ua), (.int un)])) rfl (by rw [hml]; rfl) (argsL := [(.int un), (.int ua)]) (rest := []) (lenOf pd_4 rfl) rfl (by show 2 * 0 + _ ≤ _; exact Nat.le_of_eq rfl) (hb hby at_9) (fun _ _ => ⟨rfl, e0, (by decide : 0 + 1 ≤ _), (by decide : 0 + 4 ≤ _)⟩)
  dsimp only [Pt.U, Pt.locs, Pt.cells, Pt.slots] at X_2 l_2 y_2 z_2 st_2 hQ_2
  subst l_2 y_2 z_2
  obtain ⟨b, kb, rfl, N_2q, K_2, le_n0_b, le_b_2, E_b, V_b⟩ := hQ_2
  have Z0 := Nat.le_trans Z0 K_2.1
  have hkS := Nat.le_trans hkS K_2.1
  have N_2 := Fr.app N0 N_2q
  refine hst (fun _ kt => st_2 _ kt) ?_
  show G (T_2.setTop (mkF m 12 #[.val (.int ua), .val (.int us), .val (.int um), .val (.int un), .unset, .unset, .unset, .unset] [(.ref b)]))
  refine hst (fun _ kt => XS.astore X_2.here hx rfl (hb hby at_12) rfl rfl (l' := #[.val (.int ua), .val (.int us), .val (.int um), .val (.int un), .val (.ref b), .unset, .unset, .unset]) rfl kt) ?_
  show G (T_2.setTop (mkF m 14 #[.val (.int ua), .val (.int us), .val (.int um), .val (.int un), .val (.ref b), .unset, .unset, .unset] []))
  refine hst (fun _ kt => XS.aload X_2.here hx rfl (hb hby at_14) rfl rfl kt) ?_
  show G (T_2.setTop (mkF m 16 #[.val (.int ua), .val (.int us), .val (.int um), .val (.int un), .val (.ref b), .unset, .unset, .unset] [(.ref b)]))
  obtain ⟨_, _, ⟨T_3, L_3, k_3, n_3⟩, -, X_3, hS_3, hgr_3, ⟨Lc_3, hQ_3, l_3, y_3, z_3⟩, st_3⟩ := callSS X_2 hx (y := (⟨own_K, "of", "([B)Lcom/example/splitpoint/splitpoint/keys/Key;"⟩ : MethodName)) hown (mvT hZ (own_w9 hw)) (mvT hZ (own_w10 hw)) (mvT hZ (own_w11 hw)) (mvT hZ (own_w12 hw)) (by decide) (backOfS (W := 0) (rm6 l Z a0 hw [] b kb un ua T_2.heap n0 Z0 hin E_b V_b) hZ (own_w12 hw) (own_w11 hw) (by decide) (by decide)) (g := (mkF m 16 #[.val (.int ua), .val (.int us), .val (.int um), .val (.int un), .val (.ref b), .unset, .unset, .unset] [(.ref b)])) rfl (by rw [hml]; rfl) (argsL := [(.ref b)]) (rest := []) (lenOf pd_3 rfl) rfl (by show 2 * 0 + _ ≤ _; exact Nat.le_of_eq rfl) (hb hby at_16) (fun _ _ => ⟨rfl, rfl, (by decide : 1 + 4 ≤ _), (by decide : 4 + 29 ≤ _)⟩)
  dsimp only [Pt.U, Pt.locs, Pt.cells, Pt.slots] at X_3 l_3 y_3 z_3 st_3 hQ_3 hS_3 hgr_3
  subst l_3 y_3 z_3
  have hZ : Z.Warmed39 (s.setVm T_3.vm).vm := State.Warmed39.trans (t := s.setVm s₁.vm) hZ hS_3.1
  have hown : (s.setVm T_3.vm).vm.findClass x.cls = some m.cls := by rw [show (s.setVm T_3.vm).vm = T_3.vm from rfl, hS_3.1.alike.findClass]; exact hown
  have hS := hS.trans hS_3 (Nat.le_trans hkS hgr_3)
  have hkS : T_3.heap.size ≤ T_3.heap.size := Nat.le_refl _
  obtain ⟨o, d, kd, rfl, N_3q, K_3, le_o, le_d, E_o, F_bytes_o, E_d, V_d⟩ := hQ_3
  have ne_b_o : b ≠ o := Nat.ne_of_lt (Nat.lt_of_lt_of_le E_b.lt le_o)
  have ne_b_d : b ≠ d := Nat.ne_of_lt (Nat.lt_of_lt_of_le E_b.lt le_d)
  have Z0 := Nat.le_trans Z0 K_3.1
  have E_b := E_b.keep K_3
  have V_b := V_b.keep K_3 nin0
  have N_3 := Fr.app N_2 N_3q
  refine hst (fun _ kt => st_3.trans kt) ?_
  show G (T_3.setTop (mkF m 19 #[.val (.int ua), .val (.int us), .val (.int um), .val (.int un), .val (.ref b), .unset, .unset, .unset] [(.ref o)]))
  refine hst (fun _ kt => XS.astore X_3.here hx rfl (hb hby at_19) rfl rfl (l' := #[.val (.int ua), .val (.int us), .val (.int um), .val (.int un), .val (.ref b), .val (.ref o), .unset, .unset]) rfl kt) ?_
  show G (T_3.setTop (mkF m 21 #[.val (.int ua), .val (.int us), .val (.int um), .val (.int un), .val (.ref b), .val (.ref o), .unset, .unset] []))
  refine hst (fun _ kt => XS.iloadN X_3.here hx rfl (hb hby at_21) rfl kt) ?_
  show G (T_3.setTop (mkF m 22 #[.val (.int ua), .val (.int us), .val (.int um), .val (.int un), .val (.ref b), .val (.ref o), .unset, .unset] [(.int un)]))
  have J51 : ∀ (s6 : Slot) (hs6 : One s6) (hj : Heap) (Tj : State) (lj : List Loc) (Xj : Stand p l e room_1 (s.setVm T_3.vm) m #[(.int ua), (.int us), (.int um)] below meth c Tj lj 5 33) (ej : Tj.heap = hj) (Nj : Fr n0 lj) (Z0 : n0 ≤ hj.size) (hkS : T_3.heap.size ≤ hj.size) (E_o : Exa Z hj o own_K) (F_bytes_o : Fld Z hj o own_K "bytes" "[B" (.ref d)) (E_d : Exa Z hj d "[B") (V_d : Arv Z hj d kd .byte un (own_l un ua) (.int (0 : Int32))), G (Tj.setTop (mkF m 51 #[.val (.int ua), .val (.int us), .val (.int um), .val (.int un), .val (.ref b), .val (.ref o), s6, .unset] [])) := by
    intro s6 hs6 hj Tj lj Xj ej Nj Z0 hkS E_o F_bytes_o E_d V_d
    show G (Tj.setTop (mkF m 51 #[.val (.int ua), .val (.int us), .val (.int um), .val (.int un), .val (.ref b), .val (.ref o), s6, .unset] []))
    refine hst (fun _ kt => XS.aload Xj.here hx rfl (hb hby at_51) rfl rfl kt) ?_
    show G (Tj.setTop (mkF m 53 #[.val (.int ua), .val (.int us), .val (.int um), .val (.int un), .val (.ref b), .val (.ref o), s6, .unset] [(.ref o)]))
    obtain ⟨cq_5, kq_5, q_5a, q_5b, q_5c⟩ := isOf hZ ej E_o
    obtain ⟨_, _, ⟨T_5, L_5, k_5, n_5⟩, -, X_5, ⟨Lc_5, hQ_5, l_5, y_5, z_5⟩, st_5⟩ := Xj.virtualBack hx (y := (⟨own_K, "length", "()I"⟩ : MethodName)) (z := (⟨own_K, "length", "()I"⟩ : MethodName)) hown (mvT hZ (own_w47 hw)) (mvT hZ (own_w48 hw)) (notFace_of_selects (args := #[]) (mvT hZ (own_w50 hw))) (mvT hZ (own_w50 hw)) (mvT hZ (own_w49 hw)) (by decide) (backOf (W := 0) (rm7 l Z a0 hw [] o d kd un ua hj n0 Z0 F_bytes_o V_d) hZ (own_w51 hw) (own_w11 hw) (by decide) (by decide)) q_5a q_5c (g := (mkF m 53 #[.val (.int ua), .val (.int us), .val (.int um), .val (.int un), .val (.ref b), .val (.ref o), s6, .unset] [(.ref o)])) rfl (by rw [hml]; rfl) (Steps.refl _) (argsL := []) (rest := []) (lenOf pd_5 rfl) rfl (by show 2 * 0 + _ ≤ _; exact Nat.le_of_eq rfl) (hb hby at_53) (fun _ _ => ⟨rfl, ej, (by decide : 5 + 0 ≤ _), (by decide : 33 + 0 ≤ _)⟩)
    dsimp only [Pt.U, Pt.locs, Pt.cells, Pt.slots] at X_5 l_5 y_5 z_5 st_5 hQ_5
    subst l_5 y_5 z_5
    obtain ⟨rfl, N_5q, eh_5⟩ := hQ_5
    have N_5 := Fr.app Nj N_5q
    refine hst (fun _ kt => st_5.trans kt) ?_
    show G (T_5.setTop (mkF m 56 #[.val (.int ua), .val (.int us), .val (.int um), .val (.int un), .val (.ref b), .val (.ref o), s6, .unset] [(.int un)]))
    refine hst (fun _ kt => XS.iloadN X_5.here hx rfl (hb hby at_56) rfl kt) ?_
    show G (T_5.setTop (mkF m 57 #[.val (.int ua), .val (.int us), .val (.int um), .val (.int un), .val (.ref b), .val (.ref o), s6, .unset] [(.int un), (.int un)]))
    have hc57 : un = un := rfl
    refine hst (fun _ kt => XS.icmpNo X_5.here hx rfl (hb hby at_57) rfl (teq hc57).2 kt) ?_
    show G (T_5.setTop (mkF m 60 #[.val (.int ua), .val (.int us), .val (.int um), .val (.int un), .val (.ref b), .val (.ref o), s6, .unset] []))
    refine hst (fun _ kt => XS.iconst X_5.here hx rfl (hb hby at_60) kt) ?_
    show G (T_5.setTop (mkF m 61 #[.val (.int ua), .val (.int us), .val (.int um), .val (.int un), .val (.ref b), .val (.ref o), s6, .unset] [(.int (1 : Int32))]))
    refine hst (fun _ kt => XS.goto X_5.here hx rfl (pc0 := 61) (pc' := 65) rfl (hb hby at_61) (by decide) (by decide) kt) ?_
    show G (T_5.setTop (mkF m 65 #[.val (.int ua), .val (.int us), .val (.int um), .val (.int un), .val (.ref b), .val (.ref o), s6, .unset] [(.int (1 : Int32))]))
    refine hst (fun _ kt => XS.istore X_5.here hx rfl (hb hby at_65) rfl (l' := #[.val (.int ua), .val (.int us), .val (.int um), .val (.int un), .val (.ref b), .val (.ref o), .val (.int (1 : Int32)), .unset]) (own_st6 hs6) kt) ?_
    show G (T_5.setTop (mkF m 67 #[.val (.int ua), .val (.int us), .val (.int um), .val (.int un), .val (.ref b), .val (.ref o), .val (.int (1 : Int32)), .unset] []))
    refine hst (fun _ kt => XS.aload X_5.here hx rfl (hb hby at_67) rfl rfl kt) ?_
    show G (T_5.setTop (mkF m 69 #[.val (.int ua), .val (.int us), .val (.int um), .val (.int un), .val (.ref b), .val (.ref o), .val (.int (1 : Int32)), .unset] [(.ref o)]))
    obtain ⟨cq_6, kq_6, q_6a, q_6b, q_6c⟩ := isOf hZ eh_5 E_o
    obtain ⟨_, _, ⟨T_6, L_6, k_6, n_6⟩, -, X_6, ⟨Lc_6, hQ_6, l_6, y_6, z_6⟩, st_6⟩ := X_5.virtualBack hx (y := (⟨own_K, "toBytes", "()[B"⟩ : MethodName)) (z := (⟨own_K, "toBytes", "()[B"⟩ : MethodName)) hown (mvT hZ (own_w52 hw)) (mvT hZ (own_w53 hw)) (notFace_of_selects (args := #[]) (mvT hZ (own_w55 hw))) (mvT hZ (own_w55 hw)) (mvT hZ (own_w54 hw)) (by decide) (backOf (W := 0) (rm8 l Z a0 hw [] o d kd un ua hj n0 Z0 hin F_bytes_o V_d E_d) hZ (own_w56 hw) (own_w11 hw) (by decide) (by decide)) q_6a q_6c (g := (mkF m 69 #[.val (.int ua), .val (.int us), .val (.int um), .val (.int un), .val (.ref b), .val (.ref o), .val (.int (1 : Int32)), .unset] [(.ref o)])) rfl (by rw [hml]; rfl) (Steps.refl _) (argsL := []) (rest := []) (lenOf pd_6 rfl) rfl (by show 2 * 0 + _ ≤ _; exact Nat.le_of_eq rfl) (hb hby at_69) (fun _ _ => ⟨rfl, eh_5, (by decide : 5 + 1 ≤ _), (by decide : 33 + 4 ≤ _)⟩)
    dsimp only [Pt.U, Pt.locs, Pt.cells, Pt.slots] at X_6 l_6 y_6 z_6 st_6 hQ_6
    subst l_6 y_6 z_6
    obtain ⟨f, kf, rfl, N_6q, K_6, le_f, le_f', E_f, V_f⟩ := hQ_6
    have Z0 := Nat.le_trans Z0 K_6.1
    have hkS := Nat.le_trans hkS K_6.1
    have E_o := E_o.keep K_6
    have F_bytes_o := F_bytes_o.keep K_6 nin0
    have E_d := E_d.keep K_6
    have V_d := V_d.keep K_6 nin0
    have N_6 := Fr.app N_5 N_6q
    refine hst (fun _ kt => st_6.trans kt) ?_
    show G (T_6.setTop (mkF m 72 #[.val (.int ua), .val (.int us), .val (.int um), .val (.int un), .val (.ref b), .val (.ref o), .val (.int (1 : Int32)), .unset] [(.ref f)]))
    refine hst (fun _ kt => XS.astore X_6.here hx rfl (hb hby at_72) rfl rfl (l' := #[.val (.int ua), .val (.int us), .val (.int um), .val (.int un), .val (.ref b), .val (.ref o), .val (.int (1 : Int32)), .val (.ref f)]) rfl kt) ?_
    show G (T_6.setTop (mkF m 74 #[.val (.int ua), .val (.int us), .val (.int um), .val (.int un), .val (.ref b), .val (.ref o), .val (.int (1 : Int32)), .val (.ref f)] []))
    refine hst (fun _ kt => XS.iload X_6.here hx rfl (hb hby at_74) rfl kt) ?_
    show G (T_6.setTop (mkF m 76 #[.val (.int ua), .val (.int us), .val (.int um), .val (.int un), .val (.ref b), .val (.ref o), .val (.int (1 : Int32)), .val (.ref f)] [(.int (1 : Int32))]))
    have hc76 : ¬ ((1 : Int32) = (0 : Int32)) := by decide
    refine hst (fun _ kt => XS.ifNo X_6.here hx rfl (hb hby at_76) rfl ((if0 _ _).trans (feq hc76).1) kt) ?_
    show G (T_6.setTop (mkF m 79 #[.val (.int ua), .val (.int us), .val (.int um), .val (.int un), .val (.ref b), .val (.ref o), .val (.int (1 : Int32)), .val (.ref f)] []))
    refine hst (fun _ kt => XS.aload X_6.here hx rfl (hb hby at_79) rfl rfl kt) ?_
    show G (T_6.setTop (mkF m 81 #[.val (.int ua), .val (.int us), .val (.int um), .val (.int un), .val (.ref b), .val (.ref o), .val (.int (1 : Int32)), .val (.ref f)] [(.ref f)]))
    obtain ⟨cl_7, Ar_7, -, S_7, M_7, -, -⟩ := id V_f
    refine hst (X_6.arraylength hx Ar_7.1 (State.isArrayOf_alike hZ.alike Ar_7.2.1) (g := (mkF m 81 #[.val (.int ua), .val (.int us), .val (.int um), .val (.int un), .val (.ref b), .val (.ref o), .val (.int (1 : Int32)), .val (.ref f)] [(.ref f)])) rfl rfl (hb hby at_81)) ?_
    rw [len_of S_7 M_7]
    show G (T_6.setTop (mkF m 82 #[.val (.int ua), .val (.int us), .val (.int um), .val (.int un), .val (.ref b), .val (.ref o), .val (.int (1 : Int32)), .val (.ref f)] [(.int un)]))
    refine hst (fun _ kt => XS.iloadN X_6.here hx rfl (hb hby at_82) rfl kt) ?_
    show G (T_6.setTop (mkF m 83 #[.val (.int ua), .val (.int us), .val (.int um), .val (.int un), .val (.ref b), .val (.ref o), .val (.int (1 : Int32)), .val (.ref f)] [(.int un), (.int un)]))
    have hc83 : un = un := rfl
    refine hst (fun _ kt => XS.icmpNo X_6.here hx rfl (hb hby at_83) rfl (teq hc83).2 kt) ?_
    show G (T_6.setTop (mkF m 86 #[.val (.int ua), .val (.int us), .val (.int um), .val (.int un), .val (.ref b), .val (.ref o), .val (.int (1 : Int32)), .val (.ref f)] []))
    refine hst (fun _ kt => XS.aload X_6.here hx rfl (hb hby at_86) rfl rfl kt) ?_
    show G (T_6.setTop (mkF m 88 #[.val (.int ua), .val (.int us), .val (.int um), .val (.int un), .val (.ref b), .val (.ref o), .val (.int (1 : Int32)), .val (.ref f)] [(.ref f)]))
    refine hst (fun _ kt => XS.iloadN X_6.here hx rfl (hb hby at_88) rfl kt) ?_
    show G (T_6.setTop (mkF m 89 #[.val (.int ua), .val (.int us), .val (.int um), .val (.int un), .val (.ref b), .val (.ref o), .val (.int (1 : Int32)), .val (.ref f)] [(.int un), (.ref f)]))
    refine hst (fun _ kt => XS.iloadN X_6.here hx rfl (hb hby at_89) rfl kt) ?_
    show G (T_6.setTop (mkF m 90 #[.val (.int ua), .val (.int us), .val (.int um), .val (.int un), .val (.ref b), .val (.ref o), .val (.int (1 : Int32)), .val (.ref f)] [(.int ua), (.int un), (.ref f)]))
    obtain ⟨_, _, ⟨T_8, L_8, k_8, n_8⟩, -, X_8, ⟨Lc_8, hQ_8, l_8, y_8, z_8⟩, st_8⟩ := Jvm.LawKit.callS X_6 hx (y := (⟨x.cls, "same", "([BII)Z"⟩ : MethodName)) hown (mvT hZ (own_w57 hw)) (mvT hZ (own_w58 hw)) (mvT hZ (own_w3 hw)) (mvT hZ (own_w59 hw)) (by decide) (backOf (W := 0) (rm9 l Z a0 hw [] f un ua kf T_6.heap n0 Z0 hin V_f) hZ (own_w59 hw) (own_w3 hw) (by decide) (by decide)) (g := (mkF m 90 #[.val (.int ua), .val (.int us), .val (.int um), .val (.int un), .val (.ref b), .val (.ref o), .val (.int (1 : Int32)), .val (.ref f)] [(.int ua), (.int un), (.ref f)])) rfl (by rw [hml]; rfl) (argsL := [(.ref f), (.int un), (.int ua)]) (rest := []) (lenOf pd_7 rfl) rfl (by show 2 * 0 + _ ≤ _; exact Nat.le_of_eq rfl) (hb hby at_90) (fun _ _ => ⟨rfl, rfl, (by decide : 6 + 0 ≤ _), (by decide : 37 + 0 ≤ _)⟩)
    dsimp only [Pt.U, Pt.locs, Pt.cells, Pt.slots] at X_8 l_8 y_8 z_8 st_8 hQ_8
    subst l_8 y_8 z_8
    obtain ⟨rfl, N_8q, eh_8⟩ := hQ_8
    have N_8 := Fr.app N_6 N_8q
    refine hst (fun _ kt => st_8 _ kt) ?_
    show G (T_8.setTop (mkF m 93 #[.val (.int ua), .val (.int us), .val (.int um), .val (.int un), .val (.ref b), .val (.ref o), .val (.int (1 : Int32)), .val (.ref f)] [(.int (1 : Int32))]))
    have hc93 : ¬ ((1 : Int32) = (0 : Int32)) := by decide
    refine hst (fun _ kt => XS.ifNo X_8.here hx rfl (hb hby at_93) rfl ((if0 _ _).trans (feq hc93).1) kt) ?_
    show G (T_8.setTop (mkF m 96 #[.val (.int ua), .val (.int us), .val (.int um), .val (.int un), .val (.ref b), .val (.ref o), .val (.int (1 : Int32)), .val (.ref f)] []))
    refine hst (fun _ kt => XS.iconst X_8.here hx rfl (hb hby at_96) kt) ?_
    show G (T_8.setTop (mkF m 97 #[.val (.int ua), .val (.int us), .val (.int um), .val (.int un), .val (.ref b), .val (.ref o), .val (.int (1 : Int32)), .val (.ref f)] [(.int (1 : Int32))]))
    refine hst (fun _ kt => XS.goto X_8.here hx rfl (pc0 := 97) (pc' := 101) rfl (hb hby at_97) (by decide) (by decide) kt) ?_
    show G (T_8.setTop (mkF m 101 #[.val (.int ua), .val (.int us), .val (.int um), .val (.int un), .val (.ref b), .val (.ref o), .val (.int (1 : Int32)), .val (.ref f)] [(.int (1 : Int32))]))
    refine hst (fun _ kt => XS.istore X_8.here hx rfl (hb hby at_101) rfl (l' := #[.val (.int ua), .val (.int us), .val (.int um), .val (.int un), .val (.ref b), .val (.ref o), .val (.int (1 : Int32)), .val (.ref f)]) rfl kt) ?_
    show G (T_8.setTop (mkF m 103 #[.val (.int ua), .val (.int us), .val (.int um), .val (.int un), .val (.ref b), .val (.ref o), .val (.int (1 : Int32)), .val (.ref f)] []))
    refine hst (fun _ kt => XS.iload X_8.here hx rfl (hb hby at_103) rfl kt) ?_
    show G (T_8.setTop (mkF m 105 #[.val (.int ua), .val (.int us), .val (.int um), .val (.int un), .val (.ref b), .val (.ref o), .val (.int (1 : Int32)), .val (.ref f)] [(.int (1 : Int32))]))
    exact hend (own_goRetW X_8 hS (by rw [eh_8]; exact hkS) hx Bd.returns rfl (Or.inl ⟨rfl, by simp, _, rfl⟩) (hb hby at_105) Bd.notSynchronized (by rw [eh_8]; exact ⟨rfl, N_8⟩) (by decide) (by decide))
  by_cases hp : (0 : Int32) < un
  ·
    refine hst (fun _ kt => XS.ifNo X_3.here hx rfl (hb hby at_22) rfl ((if0 _ _).trans (tlt hp).2.2.2) kt) ?_
    show G (T_3.setTop (mkF m 25 #[.val (.int ua), .val (.int us), .val (.int um), .val (.int un), .val (.ref b), .val (.ref o), .unset, .unset] []))
    refine hst (fun _ kt => XS.iloadN X_3.here hx rfl (hb hby at_25) rfl kt) ?_
    show G (T_3.setTop (mkF m 26 #[.val (.int ua), .val (.int us), .val (.int um), .val (.int un), .val (.ref b), .val (.ref o), .unset, .unset] [(.int um)]))
    refine hst (X_3.ldcInt hx hown (mvT hZ (own_w0 hw)) (g := (mkF m 26 #[.val (.int ua), .val (.int us), .val (.int um), .val (.int un), .val (.ref b), .val (.ref o), .unset, .unset] [(.int um)])) rfl (hb hby at_26)) ?_
    show G (T_3.setTop (mkF m 28 #[.val (.int ua), .val (.int us), .val (.int um), .val (.int un), .val (.ref b), .val (.ref o), .unset, .unset] [(.int (2147483647 : Int32)), (.int um)]))
    refine hst (fun _ kt => XS.iand X_3.here hx rfl (hb hby at_28) rfl kt) ?_
    show G (T_3.setTop (mkF m 29 #[.val (.int ua), .val (.int us), .val (.int um), .val (.int un), .val (.ref b), .val (.ref o), .unset, .unset] [(.int (um &&& (2147483647 : Int32)))]))
    refine hst (fun _ kt => XS.iloadN X_3.here hx rfl (hb hby at_29) rfl kt) ?_
    show G (T_3.setTop (mkF m 30 #[.val (.int ua), .val (.int us), .val (.int um), .val (.int un), .val (.ref b), .val (.ref o), .unset, .unset] [(.int un), (.int (um &&& (2147483647 : Int32)))]))
    refine hst (fun _ kt => iremM X_3 hx rfl (hb hby at_30) rfl (own_nz hp) kt) ?_
    show G (T_3.setTop (mkF m 31 #[.val (.int ua), .val (.int us), .val (.int um), .val (.int un), .val (.ref b), .val (.ref o), .unset, .unset] [(.int ((um &&& (2147483647 : Int32)) % un))]))
    have hix := own_idx um un hin hp
    generalize ((um &&& (2147483647 : Int32)) % un) = ix at hix ⊢
    show G (T_3.setTop (mkF m 31 #[.val (.int ua), .val (.int us), .val (.int um), .val (.int un), .val (.ref b), .val (.ref o), .unset, .unset] [(.int ix)]))
    refine hst (fun _ kt => XS.istore X_3.here hx rfl (hb hby at_31) rfl (l' := #[.val (.int ua), .val (.int us), .val (.int um), .val (.int un), .val (.ref b), .val (.ref o), .val (.int ix), .unset]) rfl kt) ?_
    show G (T_3.setTop (mkF m 33 #[.val (.int ua), .val (.int us), .val (.int um), .val (.int un), .val (.ref b), .val (.ref o), .val (.int ix), .unset] []))
    refine hst (fun _ kt => XS.aload X_3.here hx rfl (hb hby at_33) rfl rfl kt) ?_
    show G (T_3.setTop (mkF m 35 #[.val (.int ua), .val (.int us), .val (.int um), .val (.int un), .val (.ref b), .val (.ref o), .val (.int ix), .unset] [(.ref b)]))
    refine hst (fun _ kt => XS.iload X_3.here hx rfl (hb hby at_35) rfl kt) ?_
    show G (T_3.setTop (mkF m 37 #[.val (.int ua), .val (.int us), .val (.int um), .val (.int un), .val (.ref b), .val (.ref o), .val (.int ix), .unset] [(.int ix), (.ref b)]))
    refine hst (fun _ kt => XS.aload X_3.here hx rfl (hb hby at_37) rfl rfl kt) ?_
    show G (T_3.setTop (mkF m 39 #[.val (.int ua), .val (.int us), .val (.int um), .val (.int un), .val (.ref b), .val (.ref o), .val (.int ix), .unset] [(.ref b), (.int ix), (.ref b)]))
    refine hst (fun _ kt => XS.iload X_3.here hx rfl (hb hby at_39) rfl kt) ?_
    show G (T_3.setTop (mkF m 41 #[.val (.int ua), .val (.int us), .val (.int um), .val (.int un), .val (.ref b), .val (.ref o), .val (.int ix), .unset] [(.int ix), (.ref b), (.int ix), (.ref b)]))
    obtain ⟨wv, hwv⟩ := own_geti un ua ix.toNatClampNeg
    obtain ⟨cl_9, Ar_9, -, S_9, M_9, Hs_9, -⟩ := id V_b
    have hin_9 : ¬ (ix < 0 ∨ cl_9.slots.size ≤ (ix).toNatClampNeg) := inb_of S_9 ⟨hix.1, hix.2⟩
    have hat_9 : cl_9.slots[(ix).toNatClampNeg]? = some (.int wv) := Has.at Hs_9 hin_9 hwv
    refine hst (X_3.baloadBytes hx (j := ix) (v := (.int wv)) Ar_9.1 (State.isArrayOf_alike hZ.alike Ar_9.2.1) Ar_9.2.2 hin_9 hat_9 (g := (mkF m 41 #[.val (.int ua), .val (.int us), .val (.int um), .val (.int un), .val (.ref b), .val (.ref o), .val (.int ix), .unset] [(.int ix), (.ref b), (.int ix), (.ref b)])) rfl rfl (hb hby at_41)) ?_
    show G (T_3.setTop (mkF m 42 #[.val (.int ua), .val (.int us), .val (.int um), .val (.int un), .val (.ref b), .val (.ref o), .val (.int ix), .unset] [(.int wv), (.int ix), (.ref b)]))
    refine hst (fun _ kt => XS.iloadN X_3.here hx rfl (hb hby at_42) rfl kt) ?_
    show G (T_3.setTop (mkF m 43 #[.val (.int ua), .val (.int us), .val (.int um), .val (.int un), .val (.ref b), .val (.ref o), .val (.int ix), .unset] [(.int um), (.int wv), (.int ix), (.ref b)]))
    refine hst (fun _ kt => XS.bipush X_3.here hx rfl (hb hby at_43) kt) ?_
    show G (T_3.setTop (mkF m 45 #[.val (.int ua), .val (.int us), .val (.int um), .val (.int un), .val (.ref b), .val (.ref o), .val (.int ix), .unset] [(.int (8 : Int32)), (.int um), (.int wv), (.int ix), (.ref b)]))
    refine hst (fun _ kt => XS.iushr X_3.here hx rfl (hb hby at_45) rfl kt) ?_
    show G (T_3.setTop (mkF m 46 #[.val (.int ua), .val (.int us), .val (.int um), .val (.int un), .val (.ref b), .val (.ref o), .val (.int ix), .unset] [(.int ((um.toUInt32 >>> ((8 : Int32) &&& 31).toUInt32).toInt32)), (.int wv), (.int ix), (.ref b)]))
    refine hst (fun _ kt => XS.iconst X_3.here hx rfl (hb hby at_46) kt) ?_
    show G (T_3.setTop (mkF m 47 #[.val (.int ua), .val (.int us), .val (.int um), .val (.int un), .val (.ref b), .val (.ref o), .val (.int ix), .unset] [(.int (1 : Int32)), (.int ((um.toUInt32 >>> ((8 : Int32) &&& 31).toUInt32).toInt32)), (.int wv), (.int ix), (.ref b)]))
    refine hst (fun _ kt => XS.ior X_3.here hx rfl (hb hby at_47) rfl kt) ?_
    show G (T_3.setTop (mkF m 48 #[.val (.int ua), .val (.int us), .val (.int um), .val (.int un), .val (.ref b), .val (.ref o), .val (.int ix), .unset] [(.int (((um.toUInt32 >>> ((8 : Int32) &&& 31).toUInt32).toInt32) ||| (1 : Int32))), (.int wv), (.int ix), (.ref b)]))
    refine hst (fun _ kt => XS.ixor X_3.here hx rfl (hb hby at_48) rfl kt) ?_
    show G (T_3.setTop (mkF m 49 #[.val (.int ua), .val (.int us), .val (.int um), .val (.int un), .val (.ref b), .val (.ref o), .val (.int ix), .unset] [(.int (wv ^^^ (((um.toUInt32 >>> ((8 : Int32) &&& 31).toUInt32).toInt32) ||| (1 : Int32)))), (.int ix), (.ref b)]))
    refine hst (fun _ kt => XS.i2b X_3.here hx rfl (hb hby at_49) rfl kt) ?_
    show G (T_3.setTop (mkF m 50 #[.val (.int ua), .val (.int us), .val (.int um), .val (.int un), .val (.ref b), .val (.ref o), .val (.int ix), .unset] [(.int ((wv ^^^ (((um.toUInt32 >>> ((8 : Int32) &&& 31).toUInt32).toInt32) ||| (1 : Int32))).toInt8.toInt32)), (.int ix), (.ref b)]))
    obtain ⟨cl_10, Ar_10, -, S_10, -, -, -⟩ := id V_b
    have hin_10 : ¬ (ix < 0 ∨ cl_10.slots.size ≤ (ix).toNatClampNeg) := inb_of S_10 hix
    obtain ⟨T_10, h_10, X_10, e_10, W_10, st_10⟩ := stB X_3 hx hZ rfl Ar_10 (j := ix) hin_10 (g := (mkF m 50 #[.val (.int ua), .val (.int us), .val (.int um), .val (.int un), .val (.ref b), .val (.ref o), .val (.int ix), .unset] [(.int ((wv ^^^ (((um.toUInt32 >>> ((8 : Int32) &&& 31).toUInt32).toInt32) ||| (1 : Int32))).toInt8.toInt32)), (.int ix), (.ref b)])) rfl rfl (hb hby at_50)
    have Z0 := Nat.le_trans Z0 (Keep.of_wr W_10).1
    have hkS := Nat.le_trans hkS (Keep.of_wr W_10).1
    have E_o := E_o.wr W_10
    have F_bytes_o := F_bytes_o.other W_10 (Or.inl (Ne.symm ne_b_o))
    have E_d := E_d.wr W_10
    have V_d := V_d.other W_10 (Ne.symm ne_b_d)
    have N_10 := Fr.snoc X_10 N_3 le_n0_b
    refine hst st_10 ?_
    show G (T_10.setTop (mkF m 51 #[.val (.int ua), .val (.int us), .val (.int um), .val (.int un), .val (.ref b), .val (.ref o), .val (.int ix), .unset] []))
    exact J51 _ (One.val rfl) h_10 T_10 _ X_10 e_10 N_10 Z0 hkS E_o F_bytes_o E_d V_d
  ·
    refine hst (fun _ kt => XS.ifYes X_3.here hx rfl (pc0 := 22) (pc' := 51) rfl (hb hby at_22) rfl ((if0 _ _).trans (flt hp).2.2.2) (by decide) (by decide) kt) ?_
    show G (T_3.setTop (mkF m 51 #[.val (.int ua), .val (.int us), .val (.int um), .val (.int un), .val (.ref b), .val (.ref o), .unset, .unset] []))
    exact J51 _ One.u T_3.heap T_3 _ X_3 rfl N_3 Z0 hkS E_o F_bytes_o E_d V_d
set_option maxRecDepth 65536 in
set_option maxHeartbeats 40000000 in
theorem comes_1 {Post : Tables → Env → Array Value → State → Outcome → State → Prop} (hpost : ∀ tb e args s v u, (limb_1_1.after args s (.returned v) u = true ∧ limb_1_2.after args s (.returned v) u = true ∧ True) → ReturnedEndW s (.returned v) u (Jvm.fieldLocs frame_1_writes args s ++ Jvm.arrayLocs frame_1_arrays args s ++ Jvm.staticLocs frame_1_statics s) 24 1152 → Post tb e args s (.returned v) u) :
    ArmFor flags0 classFile x code maxLocals ret World_1 tables_1 room_1 Calls_1 rest_1 Pre_1 Post := by
  intro l hfl _ _ p e ha hc hk s m args below hf hA hF happ hP
  obtain ⟨hcalls, hrest, hpre⟩ := hP
  obtain ⟨-, -, -, hnamed, -, -, -, hat⟩ := (Spec.applies_iff hf).mp happ
  obtain ⟨hg, hn⟩ := and_e (Cond.before_iff.mp (show (Jvm.Cond.and given_1 narrow_1).before args s = true from hpre))
  obtain ⟨gc, g0⟩ := and_e hg
  obtain ⟨ga0, g1⟩ := and_e g0
  obtain ⟨ga1, g2⟩ := and_e g1
  obtain ⟨w0, w1, w2, rfl⟩ : ∃ w0 w1 w2 : Value, args = #[w0, w1, w2] := by
    have hs : args.size = 3 := by simpa [Cond.value, given_1] using gc
    obtain ⟨L⟩ := args
    match L, hs with
    | [w0, w1, w2], _ => exact ⟨w0, w1, w2, rfl⟩
  have hw := fun d (hd : d ∈ tables_1) => atoms_spec (ws := Jvm.Cond.code x code maxLocals ret :: tables_1) hat d (List.mem_cons_of_mem _ hd)
  have hfit : Fit s := fun {y c} hc i hi => by
    obtain ⟨ha, rfl⟩ := Array.getElem?_eq_some_iff.mp hc
    have q := List.all_eq_true.mp ((Array.all_eq_true_iff_forall_mem.mp hF) _ (Array.getElem_mem ha)) i (List.mem_range.mpr hi)
    simpa [Array.getElem?_eq_getElem hi] using q
  obtain ⟨i0, ei0⟩ := is_v ga0
  obtain rfl : w0 = (.int i0) := Option.some.inj ei0
  obtain ⟨i1, ei1⟩ := is_v ga1
  obtain rfl : w1 = (.int i1) := Option.some.inj ei1
  obtain ⟨i2, ei2⟩ := is_v g2
  obtain rfl : w2 = (.int i2) := Option.some.inj ei2
  obtain ⟨n, o, h1, h2, h3, _, L, rfl, ⟨rfl, N⟩, hq⟩ := rm0 l s _ hw tables_1 i0 i1 i2  s.heap s.heap.size (Nat.le_refl _)  p e ha hc hk s m _ below hf ((Spec.applies_iff_loose hf).mp happ).1 ⟨rfl, State.Warmed39.refl s, rfl⟩ trivial
  refine ⟨n, _, h1, h2, h3, hpost _ _ _ _ _ _ ⟨Cond.after_iff.mpr rfl, Cond.after_iff.mpr (eq_i res_at (Term.int_eval (1)) rfl), trivial⟩ ⟨hq.1, hq.2.1, hq.2.2.1, (hq.2.2.2.sift fun y hy => Or.inr (N y hy)).mono (by decide) (by decide)⟩⟩
theorem main_1_1 : Claimed_1_1 := comes_1 fun _ _ _ _ _ _ h hF => ⟨h.1, hF⟩
theorem main_1_2 : Claimed_1_2 := comes_1 fun _ _ _ _ _ _ h hF => ⟨h.2.1, hF⟩
end Jvm.Pilot.@@N@@
namespace Jvm.Pilot.@@N@@
open Jvm Jvm.ClassFile Sem Op Lib Jvm.Free Jvm.Stand Jvm.Pilot.@@N@@.Jvm.D
/-! MADE BY PROGRAM (witnessworld.py) out of the Statement's table words and the real class files: 15 classes; the members and pool entries that the words name. The judged class is class 1, her method 4. -/
namespace start1
open Jvm.ClassFile
def u (s : String) : CpInfo := .utf8 (stringToUtf16 s)
/-- a pool by its gaps: so many unusable entries, then the entry; so many at the end -/
def gap : Nat → List CpInfo → List CpInfo
  | 0, r => r
  | n + 1, r => .unusable :: gap n r
def poolList (es : List (Nat × CpInfo)) (last : Nat) : List CpInfo := es.foldr (fun e r => gap e.1 (e.2 :: r)) (gap last [])
def pool (es : List (Nat × CpInfo)) (last : Nat) : Array CpInfo := ⟨poolList es last⟩
def fileOf (pool : Array CpInfo) (this : Nat) (attrs : Array Attribute := #[]) (ms : Array MethodInfo := #[]) (fl : Nat := 33) (sup : Nat := 0) (ifs : Array Nat := #[]) (fds : Array FieldInfo := #[]) : ClassFile where
  minorVersion := 0
  majorVersion := 65
  constantPool := pool
  accessFlags := fl
  thisClass := this
  superClass := sup
  interfaces := ifs
  fields := fds
  methods := ms
  attributes := attrs
def plain (name : String) (sup : Option ClassId) : Class where
  name := name
  kind := .ordinary
  loader := none
  accessFlags := 33
  super := sup
  interfaces := #[]
  cf := none
  fields := #[]
  methods := #[]
  instanceTypes := #[]
  staticTypes := #[]
  resolved := #[]
  callSites := []
  init := .initialized
  statics := none
  mirror := none

def pool0 : Array CpInfo := pool [(5, u "<init>"), (0, u "()V"), (1, .class_ 10), (1, u "java/lang/Object"), (85, u "clone"), (0, u "()Ljava/lang/Object;")] 26

def k0c0 : Code := { maxStack := 0, maxLocals := 1, code := object_method_1_code, exceptionTable := #[], attributes := #[] }
def k0m0 : Method := { name := "<init>", desc := "()V", sig := { parameters := [], returnType := none }, accessFlags := 1, code := some k0c0 }
def k0m1 : Method := { name := "clone", desc := "()Ljava/lang/Object;", sig := { parameters := [], returnType := some (.object "java/lang/Object") }, accessFlags := 260, code := none }
/-- java/lang/Object -/
def k0 : Class := { plain "java/lang/Object" none with
  accessFlags := 33
  interfaces := #[]
  cf := some (fileOf pool0 8 #[] #[{ accessFlags := 1, nameIndex := 5, descriptorIndex := 6, attributes := #[] }, { accessFlags := 260, nameIndex := 96, descriptorIndex := 97, attributes := #[] }] 33 0 #[] #[])
  fields := #[]
  methods := #[k0m0, k0m1]
  instanceTypes := #[]
  staticTypes := #[]
  resolved := Array.replicate 124 none
  statics := none }

def pool1 : Array CpInfo := pool [(2, .class_ 4), (1, u "java/lang/Object"), (0, u "<init>"), (0, u "()V"), (0, .methodref 8 9), (0, .class_ 10), (0, .nameAndType 11 12), (0, u "com/example/splitpoint/splitpoint/keys/KeyOfPinLaw"), (0, u "at"), (0, u "(II)B"), (0, .integer 2147483647), (0, .methodref 8 15), (0, .nameAndType 16 17), (0, u "make"), (0, u "(II)[B"), (0, .methodref 19 20), (0, .class_ 21), (0, .nameAndType 22 23), (0, u "com/example/splitpoint/splitpoint/keys/Key"), (0, u "of"), (0, u "([B)Lcom/example/splitpoint/splitpoint/keys/Key;"), (0, .methodref 19 25), (0, .nameAndType 26 27), (0, u "length"), (0, u "()I"), (0, .methodref 19 29), (0, .nameAndType 30 31), (0, u "toBytes"), (0, u "()[B"), (0, .methodref 8 33), (0, .nameAndType 34 35), (0, u "same"), (0, u "([BII)Z"), (3, u "law"), (0, u "(III)Z")] 4

def k1m0 : Method := { name := "<init>", desc := "()V", sig := { parameters := [], returnType := none }, accessFlags := 1, code := none }
def k1c1 : Code := { maxStack := 3, maxLocals := 2, code := method_2_code, exceptionTable := #[], attributes := #[] }
def k1m1 : Method := { name := "at", desc := "(II)B", sig := { parameters := [.int, .int], returnType := some .byte }, accessFlags := 10, code := some k1c1 }
def k1c2 : Code := { maxStack := 4, maxLocals := 6, code := method_3_code, exceptionTable := #[], attributes := #[] }
def k1m2 : Method := { name := "make", desc := "(II)[B", sig := { parameters := [.int, .int], returnType := some (.array .byte) }, accessFlags := 10, code := some k1c2 }
def k1c3 : Code := { maxStack := 3, maxLocals := 3, code := method_4_code, exceptionTable := #[], attributes := #[] }
def k1m3 : Method := { name := "same", desc := "([BII)Z", sig := { parameters := [(.array .byte), .int, .int], returnType := some .boolean }, accessFlags := 10, code := some k1c3 }
def k1c4 : Code := { maxStack := 5, maxLocals := 8, code := code, exceptionTable := #[], attributes := #[] }
def k1m4 : Method := { name := "law", desc := "(III)Z", sig := { parameters := [.int, .int, .int], returnType := some .boolean }, accessFlags := 9, code := some k1c4 }
/-- com/example/splitpoint/splitpoint/keys/KeyOfPinLaw -/
def k1 : Class := { plain "com/example/splitpoint/splitpoint/keys/KeyOfPinLaw" (some 0) with
  accessFlags := 49
  interfaces := #[]
  cf := some (fileOf pool1 8 #[] #[{ accessFlags := 1, nameIndex := 5, descriptorIndex := 6, attributes := #[] }, { accessFlags := 10, nameIndex := 11, descriptorIndex := 12, attributes := #[] }, { accessFlags := 10, nameIndex := 16, descriptorIndex := 17, attributes := #[] }, { accessFlags := 10, nameIndex := 34, descriptorIndex := 35, attributes := #[] }, { accessFlags := 9, nameIndex := 39, descriptorIndex := 40, attributes := #[] }] 49 2 #[] #[])
  fields := #[]
  methods := #[k1m0, k1m1, k1m2, k1m3, k1m4]
  instanceTypes := #[]
  staticTypes := #[]
  resolved := Array.replicate 45 none
  statics := none }

def pool2 : Array CpInfo := pool [(1, .class_ 2), (0, u "java/lang/Comparable"), (0, .class_ 4), (0, u "java/lang/Object")] 7

/-- java/lang/Comparable -/
def k2 : Class := { plain "java/lang/Comparable" (some 0) with
  accessFlags := 1537
  interfaces := #[]
  cf := some (fileOf pool2 1 #[] #[] 1537 3 #[] #[])
  fields := #[]
  methods := #[]
  instanceTypes := #[]
  staticTypes := #[]
  resolved := Array.replicate 12 none
  statics := none }

def pool3 : Array CpInfo := pool [(1, .methodref 2 3), (0, .class_ 4), (0, .nameAndType 5 6), (0, u "java/lang/Object"), (0, u "<init>"), (0, u "()V"), (0, .fieldref 8 9), (0, .class_ 10), (0, .nameAndType 11 12), (0, u "com/example/splitpoint/splitpoint/keys/Key"), (0, u "bytes"), (0, u "[B"), (0, .string 11), (0, .methodref 15 16), (0, .class_ 17), (0, .nameAndType 18 19), (0, u "java/util/Objects"), (0, u "requireNonNull"), (0, u "(Ljava/lang/Object;Ljava/lang/String;)Ljava/lang/Object;"), (0, .methodref 21 22), (0, .class_ 12), (0, .nameAndType 23 24), (0, u "clone"), (0, u "()Ljava/lang/Object;"), (0, .methodref 8 26), (0, .nameAndType 27 28), (0, u "checked"), (0, u "([B)Lcom/example/splitpoint/splitpoint/keys/Key;"), (6, u "length"), (0, u "()I"), (33, .integer 65535), (4, .methodref 8 76), (0, .nameAndType 5 77), (0, u "([B)V"), (4, u "LONG_BIG_ENDIAN"), (0, u "Ljava/lang/invoke/VarHandle;"), (54, u "of"), (43, u "EMPTY"), (0, u "Lcom/example/splitpoint/splitpoint/keys/Key;"), (14, .class_ 199), (0, u "java/lang/Comparable"), (0, u "MAX_LENGTH"), (0, u "I"), (6, u "toBytes"), (0, u "()[B")] 48

def k3c0 : Code := { maxStack := 2, maxLocals := 2, code := prog_4_method_1_code, exceptionTable := #[], attributes := #[] }
def k3m0 : Method := { name := "<init>", desc := "([B)V", sig := { parameters := [(.array .byte)], returnType := none }, accessFlags := 2, code := some k3c0 }
def k3c1 : Code := { maxStack := 2, maxLocals := 1, code := prog_4_method_2_code, exceptionTable := #[], attributes := #[] }
def k3m1 : Method := { name := "of", desc := "([B)Lcom/example/splitpoint/splitpoint/keys/Key;", sig := { parameters := [(.array .byte)], returnType := some (.object "com/example/splitpoint/splitpoint/keys/Key") }, accessFlags := 9, code := some k3c1 }
def k3c2 : Code := { maxStack := 3, maxLocals := 1, code := prog_4_method_4_code, exceptionTable := #[], attributes := #[] }
def k3m2 : Method := { name := "checked", desc := "([B)Lcom/example/splitpoint/splitpoint/keys/Key;", sig := { parameters := [(.array .byte)], returnType := some (.object "com/example/splitpoint/splitpoint/keys/Key") }, accessFlags := 10, code := some k3c2 }
def k3c3 : Code := { maxStack := 1, maxLocals := 1, code := prog_4_method_5_code, exceptionTable := #[], attributes := #[] }
def k3m3 : Method := { name := "length", desc := "()I", sig := { parameters := [], returnType := some .int }, accessFlags := 1, code := some k3c3 }
def k3c4 : Code := { maxStack := 1, maxLocals := 1, code := prog_4_method_6_code, exceptionTable := #[], attributes := #[] }
def k3m4 : Method := { name := "toBytes", desc := "()[B", sig := { parameters := [], returnType := some (.array .byte) }, accessFlags := 1, code := some k3c4 }
/-- com/example/splitpoint/splitpoint/keys/Key -/
def k3 : Class := { plain "com/example/splitpoint/splitpoint/keys/Key" (some 0) with
  accessFlags := 49
  interfaces := #[2]
  cf := some (fileOf pool3 8 #[] #[{ accessFlags := 2, nameIndex := 5, descriptorIndex := 77, attributes := #[] }, { accessFlags := 9, nameIndex := 138, descriptorIndex := 28, attributes := #[] }, { accessFlags := 10, nameIndex := 27, descriptorIndex := 28, attributes := #[] }, { accessFlags := 1, nameIndex := 35, descriptorIndex := 36, attributes := #[] }, { accessFlags := 1, nameIndex := 208, descriptorIndex := 209, attributes := #[] }] 49 2 #[198] #[{ accessFlags := 25, nameIndex := 200, descriptorIndex := 201, attributes := #[] }, { accessFlags := 25, nameIndex := 182, descriptorIndex := 183, attributes := #[] }, { accessFlags := 26, nameIndex := 82, descriptorIndex := 83, attributes := #[] }, { accessFlags := 18, nameIndex := 11, descriptorIndex := 12, attributes := #[] }])
  fields := #[{ name := "MAX_LENGTH", type := .int, accessFlags := 25, slot := 0, constantValue := 0 }, { name := "EMPTY", type := (.object "com/example/splitpoint/splitpoint/keys/Key"), accessFlags := 25, slot := 1, constantValue := 0 }, { name := "LONG_BIG_ENDIAN", type := (.object "java/lang/invoke/VarHandle"), accessFlags := 26, slot := 2, constantValue := 0 }, { name := "bytes", type := (.array .byte), accessFlags := 18, slot := 0, constantValue := 0 }]
  methods := #[k3m0, k3m1, k3m2, k3m3, k3m4]
  instanceTypes := #[(.array .byte)]
  staticTypes := #[.int, (.object "com/example/splitpoint/splitpoint/keys/Key"), (.object "java/lang/invoke/VarHandle")]
  resolved := Array.replicate 258 none
  statics := none }

def pool4 : Array CpInfo := pool [(1, .class_ 2), (0, u "java/io/Serializable"), (0, .class_ 4), (0, u "java/lang/Object")] 2

/-- java/io/Serializable -/
def k4 : Class := { plain "java/io/Serializable" (some 0) with
  accessFlags := 1537
  interfaces := #[]
  cf := some (fileOf pool4 1 #[] #[] 1537 3 #[] #[])
  fields := #[]
  methods := #[]
  instanceTypes := #[]
  staticTypes := #[]
  resolved := Array.replicate 7 none
  statics := none }

def pool5 : Array CpInfo := pool [(2, .class_ 4), (1, u "java/lang/CharSequence"), (42, .class_ 48), (0, u "java/lang/CharSequence$1CodePointIterator"), (10, .class_ 60), (0, u "java/lang/CharSequence$1CharIterator"), (5, .class_ 67), (0, u "java/lang/Object")] 63

/-- java/lang/CharSequence -/
def k5 : Class := { plain "java/lang/CharSequence" (some 0) with
  accessFlags := 1537
  interfaces := #[]
  cf := some (fileOf pool5 2 #[.nestMembers #[47, 59]] #[] 1537 66 #[] #[])
  fields := #[]
  methods := #[]
  instanceTypes := #[]
  staticTypes := #[]
  resolved := Array.replicate 131 none
  statics := none }

def pool6 : Array CpInfo := pool [(1, .class_ 2), (0, u "java/lang/constant/Constable"), (0, .class_ 4), (0, u "java/lang/Object")] 6

/-- java/lang/constant/Constable -/
def k6 : Class := { plain "java/lang/constant/Constable" (some 0) with
  accessFlags := 1537
  interfaces := #[]
  cf := some (fileOf pool6 1 #[] #[] 1537 3 #[] #[])
  fields := #[]
  methods := #[]
  instanceTypes := #[]
  staticTypes := #[]
  resolved := Array.replicate 11 none
  statics := none }

def pool7 : Array CpInfo := pool [(1, .class_ 2), (0, u "java/lang/constant/ConstantDesc"), (0, .class_ 4), (0, u "java/lang/Object")] 32

/-- java/lang/constant/ConstantDesc -/
def k7 : Class := { plain "java/lang/constant/ConstantDesc" (some 0) with
  accessFlags := 1537
  interfaces := #[]
  cf := some (fileOf pool7 1 #[] #[] 1537 3 #[] #[])
  fields := #[]
  methods := #[]
  instanceTypes := #[]
  staticTypes := #[]
  resolved := Array.replicate 37 none
  statics := none }

def pool8 : Array CpInfo := pool [(2, .class_ 4), (1, u "java/lang/Object"), (0, u "<init>"), (0, u "()V"), (3, .class_ 12), (1, u "java/lang/String"), (0, u "value"), (0, u "[B"), (2, u "coder"), (0, u "B"), (2, u "hash"), (0, u "I"), (2, u "hashIsZero"), (0, u "Z"), (13, u "COMPACT_STRINGS"), (534, .class_ 576), (0, u "java/lang/CharSequence"), (22, u "CASE_INSENSITIVE_ORDER"), (0, u "Ljava/util/Comparator;"), (500, u "serialPersistentFields"), (0, u "[Ljava/io/ObjectStreamField;"), (0, .class_ 1104), (0, u "java/lang/String$CaseInsensitiveComparator"), (1, .class_ 1107), (0, u "java/io/Serializable"), (0, .class_ 1109), (0, u "java/lang/Comparable"), (0, .class_ 1111), (0, u "java/lang/constant/Constable"), (0, .class_ 1113), (0, u "java/lang/constant/ConstantDesc"), (2, u "serialVersionUID"), (0, u "J"), (3, u "REPL"), (0, u "C"), (2, u "LATIN1"), (1, u "UTF16")] 323

def k8m0 : Method := { name := "<init>", desc := "()V", sig := { parameters := [], returnType := none }, accessFlags := 1, code := none }
/-- java/lang/String -/
def k8 : Class := { plain "java/lang/String" (some 0) with
  accessFlags := 49
  interfaces := #[4, 2, 5, 6, 7]
  cf := some (fileOf pool8 10 #[.nestMembers #[1103]] #[{ accessFlags := 1, nameIndex := 5, descriptorIndex := 6, attributes := #[] }] 49 2 #[1106, 1108, 575, 1110, 1112] #[{ accessFlags := 18, nameIndex := 13, descriptorIndex := 14, attributes := #[] }, { accessFlags := 18, nameIndex := 17, descriptorIndex := 18, attributes := #[] }, { accessFlags := 2, nameIndex := 21, descriptorIndex := 22, attributes := #[] }, { accessFlags := 2, nameIndex := 25, descriptorIndex := 26, attributes := #[] }, { accessFlags := 26, nameIndex := 1116, descriptorIndex := 1117, attributes := #[] }, { accessFlags := 24, nameIndex := 40, descriptorIndex := 26, attributes := #[] }, { accessFlags := 26, nameIndex := 1101, descriptorIndex := 1102, attributes := #[] }, { accessFlags := 26, nameIndex := 1121, descriptorIndex := 1122, attributes := #[] }, { accessFlags := 25, nameIndex := 599, descriptorIndex := 600, attributes := #[] }, { accessFlags := 24, nameIndex := 1125, descriptorIndex := 18, attributes := #[] }, { accessFlags := 24, nameIndex := 1127, descriptorIndex := 18, attributes := #[] }])
  fields := #[{ name := "value", type := (.array .byte), accessFlags := 18, slot := 0, constantValue := 0 }, { name := "coder", type := .byte, accessFlags := 18, slot := 1, constantValue := 0 }, { name := "hash", type := .int, accessFlags := 2, slot := 2, constantValue := 0 }, { name := "hashIsZero", type := .boolean, accessFlags := 2, slot := 3, constantValue := 0 }, { name := "serialVersionUID", type := .long, accessFlags := 26, slot := 0, constantValue := 0 }, { name := "COMPACT_STRINGS", type := .boolean, accessFlags := 24, slot := 1, constantValue := 0 }, { name := "serialPersistentFields", type := (.array (.object "java/io/ObjectStreamField")), accessFlags := 26, slot := 2, constantValue := 0 }, { name := "REPL", type := .char, accessFlags := 26, slot := 3, constantValue := 0 }, { name := "CASE_INSENSITIVE_ORDER", type := (.object "java/util/Comparator"), accessFlags := 25, slot := 4, constantValue := 0 }, { name := "LATIN1", type := .byte, accessFlags := 24, slot := 5, constantValue := 0 }, { name := "UTF16", type := .byte, accessFlags := 24, slot := 6, constantValue := 0 }]
  methods := #[k8m0]
  instanceTypes := #[(.array .byte), .byte, .int, .boolean]
  staticTypes := #[.long, .boolean, (.array (.object "java/io/ObjectStreamField")), .char, (.object "java/util/Comparator"), .byte, .byte]
  resolved := Array.replicate 1451 none
  statics := none }

def pool9 : Array CpInfo := pool [(2, .class_ 4), (1, u "java/lang/Object"), (0, u "<init>"), (0, u "()V"), (35, .class_ 44), (1, u "java/util/Objects"), (0, u "requireNonNull"), (48, u "(Ljava/lang/Object;Ljava/lang/String;)Ljava/lang/Object;")] 89

def k9m0 : Method := { name := "<init>", desc := "()V", sig := { parameters := [], returnType := none }, accessFlags := 2, code := none }
def k9c1 : Code := { maxStack := 3, maxLocals := 2, code := jdk_31_method_11_code, exceptionTable := #[], attributes := #[] }
def k9m1 : Method := { name := "requireNonNull", desc := "(Ljava/lang/Object;Ljava/lang/String;)Ljava/lang/Object;", sig := { parameters := [(.object "java/lang/Object"), (.object "java/lang/String")], returnType := some (.object "java/lang/Object") }, accessFlags := 9, code := some k9c1 }
/-- java/util/Objects -/
def k9 : Class := { plain "java/util/Objects" (some 0) with
  accessFlags := 49
  interfaces := #[]
  cf := some (fileOf pool9 42 #[] #[{ accessFlags := 2, nameIndex := 5, descriptorIndex := 6, attributes := #[] }, { accessFlags := 9, nameIndex := 45, descriptorIndex := 94, attributes := #[] }] 49 2 #[] #[])
  fields := #[]
  methods := #[k9m0, k9m1]
  instanceTypes := #[]
  staticTypes := #[]
  resolved := Array.replicate 184 none
  statics := none }

def pool10 : Array CpInfo := pool [(1, .class_ 2), (0, u "java/lang/Cloneable"), (0, .class_ 4), (0, u "java/lang/Object")] 2

/-- java/lang/Cloneable -/
def k10 : Class := { plain "java/lang/Cloneable" (some 0) with
  accessFlags := 1537
  interfaces := #[]
  cf := some (fileOf pool10 1 #[] #[] 1537 3 #[] #[])
  fields := #[]
  methods := #[]
  instanceTypes := #[]
  staticTypes := #[]
  resolved := Array.replicate 7 none
  statics := none }

/-- the primitive byte -/
def k11 : Class := { plain "byte" none with kind := .primitive 'B', accessFlags := 0x411 }
/-- [B -/
def k12 : Class := { plain "[B" (some 0) with kind := .array 11 .byte, interfaces := #[10, 4], accessFlags := 1041 }

/-- the primitive int -/
def k13 : Class := { plain "int" none with kind := .primitive 'I', accessFlags := 0x411 }
/-- [I -/
def k14 : Class := { plain "[I" (some 0) with kind := .array 13 .int, interfaces := #[10, 4], accessFlags := 1041 }

def heap : Heap := #[]
def classes : Array Class := #[k0, k1, k2, k3, k4, k5, k6, k7, k8, k9, k10, k11, k12, k13, k14]
def interned : List (Array UInt16 × Addr) := []
def slotsUsed : Nat := 0
def theMethod : MethodId := ⟨1, 4⟩
def args0 : Array Value := #[.int 5, .int 7, .int 4]
def aboutOver (below : List Frame) : State where
  vm := { classes := classes, interned := interned.toArray }
  heap := heap
  slotsUsed := slotsUsed
  threads := #[{ frames := .invoking theMethod args0 :: below }]
def below0 : List Frame := [.native { method := ⟨0, 0⟩, args := #[] }]
def about1 : State := aboutOver below0
def p0 : Program := .bare "" "" ""
def e0 : Env := launch0.env 0 0 0
theorem w_frames : about1.frames = Frame.invoking theMethod args0 :: below0 := rfl
set_option maxRecDepth 65536 in
theorem w_args : argsFit about1.vm theMethod args0 = true := by decide +kernel
set_option maxRecDepth 65536 in
theorem w_heap : heapFits about1 = true := by decide +kernel
set_option maxRecDepth 65536 in
theorem w_runnable : about1.curStatus? = some .runnable := by decide +kernel
set_option maxRecDepth 65536 in
theorem w_alone : about1.alone = true := by decide +kernel
set_option maxRecDepth 65536 in
theorem w_named : about1.methodNamed? x = some theMethod := by decide +kernel
set_option maxRecDepth 65536 in
theorem w_hears : about1.hears theMethod below0 = true := by decide +kernel
set_option maxRecDepth 65536 in
theorem w_ripe : about1.ripe theMethod args0 below0 = true := by decide +kernel
theorem w_running : about1.status = .running := rfl
set_option maxRecDepth 65536 in
theorem w_room : about1.hasRoom e0.platform room_1 = true :=
  launch0.hasRoom_least _ room_1 (by decide +kernel) (by decide +kernel) (by decide +kernel) (by decide +kernel) (by decide +kernel) (by decide +kernel)
theorem allAtoms_all (ts : List Jvm.Cond) (a : Array Jvm.Value) (st : Jvm.State) : (allAtoms ts).before a st = ts.all (fun c => c.before a st) := by
  induction ts with
  | nil => rfl
  | cons c t ih =>
    show (Jvm.Cond.and c (allAtoms t)).before a st = _
    rw [Jvm.Cond.before_and, ih, List.all_cons]
def words1 : List Jvm.Cond := Jvm.Cond.code x code maxLocals ret :: tables_1
/-- a 'code' word, met by the world's own term for the bytes: nothing is compared byte by byte -/
theorem code_word {y : MethodName} {bytes : ByteArray} {mx : Nat} {rt : Option FieldType} {a : Array Value} {s : State} {m : MethodId} {meth : Method} {c : Code} (h1 : s.methodNamed? y = some m) (h2 : s.vm.method? m = some meth) (h3 : meth.code = some c) (h4 : c.code = bytes)
    (h5 : (c.maxLocals == mx && c.exceptionTable.isEmpty && decide (c.maxStack ≤ mostOperands) && decide (meth.sig.returnType = rt) && !meth.locks && decide (parseMethodDescriptor y.desc = some meth.sig)) = true) : (Jvm.Cond.code y bytes mx rt).before a s = true := by
  simp only [Bool.and_eq_true, beq_iff_eq, Bool.not_eq_true', decide_eq_true_eq] at h5
  obtain ⟨⟨⟨⟨⟨g1, g2⟩, g3⟩, g4⟩, g5⟩, g6⟩ := h5
  simp [Cond.before, Cond.holds, Cond.value, h1, h2, h3, h4, g1, g2, g3, g4, g5, g6]
def isCode : Jvm.Cond → Bool
  | .code _ _ _ _ => true
  | _ => false
theorem all_split {L : List Jvm.Cond} {P : Jvm.Cond → Bool} (h1 : L.all (fun c => isCode c || P c) = true) (h2 : ∀ c ∈ L.filter isCode, P c = true) : L.all P = true := by
  refine List.all_eq_true.mpr fun c hc => ?_
  have h := List.all_eq_true.mp h1 c hc
  rcases Bool.eq_false_or_eq_true (isCode c) with hi | hi
  · exact h2 c (List.mem_filter.mpr ⟨hc, hi⟩)
  · simpa [hi] using h
set_option maxRecDepth 65536 in
theorem w_c0 : (Jvm.Cond.code x code maxLocals ret).before args0 about1 = true := code_word (m := ⟨1, 4⟩) (meth := k1m4) (c := k1c4) (by decide +kernel) rfl rfl rfl (by decide +kernel)
set_option maxRecDepth 65536 in
theorem w_c1 : (Jvm.Cond.code ({ cls := "com/example/splitpoint/splitpoint/keys/KeyOfPinLaw", name := "make", desc := "(II)[B" } : Jvm.MethodName) method_3_code (6 : Nat) (Option.some (Jvm.ClassFile.FieldType.array Jvm.ClassFile.FieldType.byte))).before args0 about1 = true := code_word (m := ⟨1, 2⟩) (meth := k1m2) (c := k1c2) (by decide +kernel) rfl rfl rfl (by decide +kernel)
set_option maxRecDepth 65536 in
theorem w_c2 : (Jvm.Cond.code ({ cls := "com/example/splitpoint/splitpoint/keys/KeyOfPinLaw", name := "at", desc := "(II)B" } : Jvm.MethodName) method_2_code (2 : Nat) (Option.some Jvm.ClassFile.FieldType.byte)).before args0 about1 = true := code_word (m := ⟨1, 1⟩) (meth := k1m1) (c := k1c1) (by decide +kernel) rfl rfl rfl (by decide +kernel)
set_option maxRecDepth 65536 in
theorem w_c3 : (Jvm.Cond.code ({ cls := "com/example/splitpoint/splitpoint/keys/Key", name := "of", desc := "([B)Lcom/example/splitpoint/splitpoint/keys/Key;" } : Jvm.MethodName) prog_4_method_2_code (1 : Nat) (Option.some (Jvm.ClassFile.FieldType.object "com/example/splitpoint/splitpoint/keys/Key"))).before args0 about1 = true := code_word (m := ⟨3, 1⟩) (meth := k3m1) (c := k3c1) (by decide +kernel) rfl rfl rfl (by decide +kernel)
set_option maxRecDepth 65536 in
theorem w_c4 : (Jvm.Cond.code ({ cls := "java/util/Objects", name := "requireNonNull", desc := "(Ljava/lang/Object;Ljava/lang/String;)Ljava/lang/Object;" } : Jvm.MethodName) jdk_31_method_11_code (2 : Nat) (Option.some (Jvm.ClassFile.FieldType.object "java/lang/Object"))).before args0 about1 = true := code_word (m := ⟨9, 1⟩) (meth := k9m1) (c := k9c1) (by decide +kernel) rfl rfl rfl (by decide +kernel)
set_option maxRecDepth 65536 in
theorem w_c5 : (Jvm.Cond.code ({ cls := "com/example/splitpoint/splitpoint/keys/Key", name := "checked", desc := "([B)Lcom/example/splitpoint/splitpoint/keys/Key;" } : Jvm.MethodName) prog_4_method_4_code (1 : Nat) (Option.some (Jvm.ClassFile.FieldType.object "com/example/splitpoint/splitpoint/keys/Key"))).before args0 about1 = true := code_word (m := ⟨3, 2⟩) (meth := k3m2) (c := k3c2) (by decide +kernel) rfl rfl rfl (by decide +kernel)
set_option maxRecDepth 65536 in
theorem w_c6 : (Jvm.Cond.code ({ cls := "com/example/splitpoint/splitpoint/keys/Key", name := "<init>", desc := "([B)V" } : Jvm.MethodName) prog_4_method_1_code (2 : Nat) (Option.none : Option Jvm.ClassFile.FieldType)).before args0 about1 = true := code_word (m := ⟨3, 0⟩) (meth := k3m0) (c := k3c0) (by decide +kernel) rfl rfl rfl (by decide +kernel)
set_option maxRecDepth 65536 in
theorem w_c7 : (Jvm.Cond.code ({ cls := "java/lang/Object", name := "<init>", desc := "()V" } : Jvm.MethodName) object_method_1_code (1 : Nat) (Option.none : Option Jvm.ClassFile.FieldType)).before args0 about1 = true := code_word (m := ⟨0, 0⟩) (meth := k0m0) (c := k0c0) (by decide +kernel) rfl rfl rfl (by decide +kernel)
set_option maxRecDepth 65536 in
theorem w_c8 : (Jvm.Cond.code ({ cls := "com/example/splitpoint/splitpoint/keys/Key", name := "length", desc := "()I" } : Jvm.MethodName) prog_4_method_5_code (1 : Nat) (Option.some Jvm.ClassFile.FieldType.int)).before args0 about1 = true := code_word (m := ⟨3, 3⟩) (meth := k3m3) (c := k3c3) (by decide +kernel) rfl rfl rfl (by decide +kernel)
set_option maxRecDepth 65536 in
theorem w_c9 : (Jvm.Cond.code ({ cls := "com/example/splitpoint/splitpoint/keys/Key", name := "toBytes", desc := "()[B" } : Jvm.MethodName) prog_4_method_6_code (1 : Nat) (Option.some (Jvm.ClassFile.FieldType.array Jvm.ClassFile.FieldType.byte))).before args0 about1 = true := code_word (m := ⟨3, 4⟩) (meth := k3m4) (c := k3c4) (by decide +kernel) rfl rfl rfl (by decide +kernel)
set_option maxRecDepth 65536 in
theorem w_c10 : (Jvm.Cond.code ({ cls := "com/example/splitpoint/splitpoint/keys/KeyOfPinLaw", name := "same", desc := "([BII)Z" } : Jvm.MethodName) method_4_code (3 : Nat) (Option.some Jvm.ClassFile.FieldType.boolean)).before args0 about1 = true := code_word (m := ⟨1, 3⟩) (meth := k1m3) (c := k1c3) (by decide +kernel) rfl rfl rfl (by decide +kernel)
def codes1 : List Jvm.Cond := [Jvm.Cond.code x code maxLocals ret, Jvm.Cond.code ({ cls := "com/example/splitpoint/splitpoint/keys/KeyOfPinLaw", name := "make", desc := "(II)[B" } : Jvm.MethodName) method_3_code (6 : Nat) (Option.some (Jvm.ClassFile.FieldType.array Jvm.ClassFile.FieldType.byte)), Jvm.Cond.code ({ cls := "com/example/splitpoint/splitpoint/keys/KeyOfPinLaw", name := "at", desc := "(II)B" } : Jvm.MethodName) method_2_code (2 : Nat) (Option.some Jvm.ClassFile.FieldType.byte), Jvm.Cond.code ({ cls := "com/example/splitpoint/splitpoint/keys/Key", name := "of", desc := "([B)Lcom/example/splitpoint/splitpoint/keys/Key;" } : Jvm.MethodName) prog_4_method_2_code (1 : Nat) (Option.some (Jvm.ClassFile.FieldType.object "com/example/splitpoint/splitpoint/keys/Key")), Jvm.Cond.code ({ cls := "java/util/Objects", name := "requireNonNull", desc := "(Ljava/lang/Object;Ljava/lang/String;)Ljava/lang/Object;" } : Jvm.MethodName) jdk_31_method_11_code (2 : Nat) (Option.some (Jvm.ClassFile.FieldType.object "java/lang/Object")), Jvm.Cond.code ({ cls := "com/example/splitpoint/splitpoint/keys/Key", name := "checked", desc := "([B)Lcom/example/splitpoint/splitpoint/keys/Key;" } : Jvm.MethodName) prog_4_method_4_code (1 : Nat) (Option.some (Jvm.ClassFile.FieldType.object "com/example/splitpoint/splitpoint/keys/Key")), Jvm.Cond.code ({ cls := "com/example/splitpoint/splitpoint/keys/Key", name := "<init>", desc := "([B)V" } : Jvm.MethodName) prog_4_method_1_code (2 : Nat) (Option.none : Option Jvm.ClassFile.FieldType), Jvm.Cond.code ({ cls := "java/lang/Object", name := "<init>", desc := "()V" } : Jvm.MethodName) object_method_1_code (1 : Nat) (Option.none : Option Jvm.ClassFile.FieldType), Jvm.Cond.code ({ cls := "com/example/splitpoint/splitpoint/keys/Key", name := "length", desc := "()I" } : Jvm.MethodName) prog_4_method_5_code (1 : Nat) (Option.some Jvm.ClassFile.FieldType.int), Jvm.Cond.code ({ cls := "com/example/splitpoint/splitpoint/keys/Key", name := "toBytes", desc := "()[B" } : Jvm.MethodName) prog_4_method_6_code (1 : Nat) (Option.some (Jvm.ClassFile.FieldType.array Jvm.ClassFile.FieldType.byte)), Jvm.Cond.code ({ cls := "com/example/splitpoint/splitpoint/keys/KeyOfPinLaw", name := "same", desc := "([BII)Z" } : Jvm.MethodName) method_4_code (3 : Nat) (Option.some Jvm.ClassFile.FieldType.boolean)]
set_option maxRecDepth 65536 in
theorem codes_eq : words1.filter isCode = codes1 := rfl
theorem w_codes : ∀ c ∈ words1.filter isCode, c.before args0 about1 = true := by
  rw [codes_eq]
  intro c hc
  simp only [codes1, List.mem_cons, List.not_mem_nil, or_false] at hc
  rcases hc with rfl | rfl | rfl | rfl | rfl | rfl | rfl | rfl | rfl | rfl | rfl
  · exact w_c0
  · exact w_c1
  · exact w_c2
  · exact w_c3
  · exact w_c4
  · exact w_c5
  · exact w_c6
  · exact w_c7
  · exact w_c8
  · exact w_c9
  · exact w_c10
set_option maxRecDepth 65536 in
theorem w_t1 : (words1.take 24).all (fun c => isCode c || c.before args0 about1) = true := by decide +kernel
set_option maxRecDepth 65536 in
theorem w_t2 : ((words1.drop 24).take 24).all (fun c => isCode c || c.before args0 about1) = true := by decide +kernel
set_option maxRecDepth 65536 in
theorem w_t3 : ((words1.drop 24).drop 24).all (fun c => isCode c || c.before args0 about1) = true := by decide +kernel
theorem w_tables : (allAtoms (Jvm.Cond.code x code maxLocals ret :: tables_1)).before args0 about1 = true := by
  rw [allAtoms_all]
  show words1.all (fun c => c.before args0 about1) = true
  refine all_split ?_ w_codes
  rw [← List.take_append_drop 24 words1, List.all_append, w_t1, ← List.take_append_drop 24 (words1.drop 24), List.all_append, w_t2, w_t3]
  rfl
set_option maxRecDepth 65536 in
theorem w_case : (Jvm.Cond.and given_1 narrow_1).before args0 about1 = true := by decide +kernel
theorem w_applies : (headSpec (Jvm.Cond.code x code maxLocals ret :: tables_1) room_1).applies x e0.platform about1 = true :=
  (Spec.applies_iff w_frames).mpr ⟨w_running, w_runnable, w_alone, w_named, w_hears, w_ripe, w_room, w_tables⟩
theorem atStart : AtStart classFile x code maxLocals ret World_1 tables_1 room_1 Calls_1 rest_1 Pre_1 launch0 p0 e0 about1 theMethod args0 below0 :=
  ⟨lists_1, trivial, launch0.admits_env _ _ _, launch0.least_env, fairChoices_fair.cas, fairChoices_fair.clock, w_frames, w_args, w_heap, w_applies, trivial, trivial, w_case⟩
end start1
theorem witness_1 : WitnessClaimed_1 := ⟨start1.p0, start1.e0, start1.about1, start1.theMethod, start1.args0, start1.below0, start1.atStart⟩
end Jvm.Pilot.@@N@@
