import JvmDerived
import JvmDerived.Pilot.@@N@@Statement
import JvmDerived.Pilot.@@N@@Code
set_option linter.unusedVariables false
set_option linter.unusedSimpArgs false
namespace Jvm.Pilot.@@N@@
open Jvm Jvm.ClassFile Sem Op Lib Jvm.Free Jvm.Stand Jvm.LawKit Jvm.RoadKit Bundle Jvm.Pilot.@@N@@.Jvm.D
/-- from S on the run ends as Q says -/
def own_Go (p : Program) (e : Env) (below : List Frame) (s : State) (Q : Option Value → Heap → List Loc → Prop) (k n : Nat) (S : State) : Prop :=
  ∃ s₂ o, Steps p.tables e below S s₂ ∧ s₂.status = .running ∧ Ended s₂ below o ∧ ∃ v L, o = .returned v ∧ Q v s₂.heap L ∧ FrameEnd s o s₂ L k n
/-- the goal, as a predicate that is closed under steps -/
theorem own_abs (p : Program) (e : Env) (below : List Frame) (s : State) (Q : Option Value → Heap → List Loc → Prop) (k n : Nat) :
    ∃ G : State → Prop, (∀ {S : State}, G S → own_Go p e below s Q k n S) ∧ (∀ {S S' : State}, (∀ t, Steps p.tables e below S' t → Steps p.tables e below S t) → G S' → G S) ∧ (∀ {S : State}, own_Go p e below s Q k n S → G S) :=
  ⟨own_Go p e below s Q k n, fun h => h, fun h g => by obtain ⟨s2, o, h1, r⟩ := g; exact ⟨s2, o, h _ h1, r⟩, fun h => h⟩
section OwnEnd
variable {p : Program} {l : Launch} {e : Env} {R : Room} {s : State} {m : MethodId} {args : Array Value} {below : List Frame} {meth : Method} {c : Code} {T : State} {locs : List Loc} {cells slots : Nat} {Q : Option Value → Heap → List Loc → Prop} {k n : Nat}
theorem own_goRet (X : Stand p l e R s m args below meth c T locs cells slots) (hx : p.tables.exec = Jvm.exec) {pc : Nat} {Ls : Array Slot} {w : Value} {t : FieldType} {i : Instr} {rest : List Value} (hret : meth.sig.returnType = some t) (hn : narrow t w = w)
    (hi : (i = .ireturn ∧ (t = .int ∨ t = .boolean ∨ t = .byte ∨ t = .char ∨ t = .short) ∧ ∃ z, w = .int z) ∨ (i = .lreturn ∧ t = .long ∧ ∃ z, w = .long z) ∨ (i = .dreturn ∧ t = .double ∧ ∃ z, w = .double z) ∨ (i = .freturn ∧ t = .float ∧ ∃ z, w = .float z) ∨ (i = .areturn ∧ t.isReference = true ∧ w.isRef = true))
    (hd : decode c.code pc = .ok (i, 1)) (hlk : meth.locks = false) (hQ : Q (some w) T.heap locs) (hk : cells ≤ k) (hn' : slots ≤ n) : own_Go p e below s Q k n (T.setTop (mkF m pc Ls (w :: rest))) := by
  obtain ⟨fs, hr, hrun, hended, hW, hsame⟩ := X.leave (v := some w) (fun h => by rw [hret] at h; cases h) hlk
  exact ⟨_, _, retOut X hx hret hn hi hd hr, hrun, hended, _, _, rfl, hQ, ⟨_, rfl⟩, hW, hsame.mono hk hn'⟩
theorem own_goVoid (X : Stand p l e R s m args below meth c T locs cells slots) (hx : p.tables.exec = Jvm.exec) {pc : Nat} {Ls : Array Slot} (hret : meth.sig.returnType = none)
    (hd : decode c.code pc = .ok (.return_, 1)) (hlk : meth.locks = false) (hQ : Q none T.heap locs) (hk : cells ≤ k) (hn' : slots ≤ n) : own_Go p e below s Q k n (T.setTop (mkF m pc Ls [])) := by
  obtain ⟨fs, hr, hrun, hended, hW, hsame⟩ := X.leave (v := none) (fun _ => rfl) hlk
  exact ⟨_, _, X.returnOut hx hret hd hr, hrun, hended, _, _, rfl, hQ, ⟨_, rfl⟩, hW, hsame.mono hk hn'⟩
end OwnEnd
abbrev own_A : String := "com/example/breachd/breachd/store/HashFile"
def own_bk (p q : Int32) : Int32 := ((p &&& (255 : Int32)) <<< ((8 : Int32) &&& 31)) ||| (q &&& (255 : Int32))
theorem own_bk_val (p q : Int32) : (own_bk p q).toInt = p.toInt % 256 * 256 + q.toInt % 256 := by
  have h1 := c_mask p 255 8 (by decide) (by decide)
  have h2 := c_mask q 255 8 (by decide) (by decide)
  have h3 := c_ishl (p &&& (255 : Int32)) 8 8 (by decide)
  have h4 := rng32 ((p &&& (255 : Int32)) <<< ((8 : Int32) &&& 31))
  have h5 := c_or ((p &&& (255 : Int32)) <<< ((8 : Int32) &&& 31)) (q &&& (255 : Int32)) 8 (by decide) 256 rfl
  have h6 := rng32 (own_bk p q)
  unfold own_bk at h6 ⊢
  generalize ((p &&& (255 : Int32)) <<< ((8 : Int32) &&& 31)) = u at *
  generalize (p &&& (255 : Int32)) = v at *
  generalize (q &&& (255 : Int32)) = w at *
  simp only [Nat.reducePow] at h1 h2 h3
  have h7 := h5 (by omega) (by omega) (by omega)
  omega
theorem own_bk_ge (p q : Int32) : ¬ (own_bk p q < (0 : Int32)) := by
  have := own_bk_val p q
  rw [Int32.lt_iff_toInt_lt, this, show (0 : Int32).toInt = 0 from rfl]; omega
theorem own_bk_lt (p q : Int32) : own_bk p q < (65536 : Int32) := by
  have := own_bk_val p q
  rw [Int32.lt_iff_toInt_lt, this, show (65536 : Int32).toInt = 65536 from rfl]; omega
theorem own_bk_hi (a q : Int32) : (((own_bk (a.toInt8.toInt32) q).toUInt32 >>> ((8 : Int32) &&& 31).toUInt32).toInt32).toInt8.toInt32 = a.toInt8.toInt32 := by
  apply Int32.toInt_inj.mp
  have h1 := own_bk_val (a.toInt8.toInt32) q
  have h2 := c_iushr (own_bk (a.toInt8.toInt32) q) 8 8 (by decide) (by decide)
  have h3 := c_i2b ((((own_bk (a.toInt8.toInt32) q).toUInt32 >>> ((8 : Int32) &&& 31).toUInt32).toInt32))
  have h4 := c_i2b a
  generalize (((own_bk (a.toInt8.toInt32) q).toUInt32 >>> ((8 : Int32) &&& 31).toUInt32).toInt32) = u at *
  simp only [Nat.reducePow] at h2
  omega
theorem own_bk_lo (a b : Int32) : (own_bk a (b.toInt8.toInt32)).toInt8.toInt32 = b.toInt8.toInt32 := by
  apply Int32.toInt_inj.mp
  have h1 := own_bk_val a (b.toInt8.toInt32)
  have h3 := c_i2b (own_bk a (b.toInt8.toInt32))
  have h4 := c_i2b b
  omega
theorem own_w0 {Z : State} {a0 : Array Value} (hw : ∀ d ∈ tables_1, d.before a0 Z = true) : Jvm.Cond.before (Jvm.Cond.methodLink x.cls (7 : Nat) ({ cls := own_A, name := "bucketOf", desc := "(BB)I" } : Jvm.MethodName)) a0 Z = true := hw _ (List.mem_of_getElem? (i := 0) rfl)
theorem own_w1 {Z : State} {a0 : Array Value} (hw : ∀ d ∈ tables_1, d.before a0 Z = true) : Jvm.Cond.before (Jvm.Cond.static ({ cls := own_A, name := "bucketOf", desc := "(BB)I" } : Jvm.MethodName)) a0 Z = true := hw _ (List.mem_of_getElem? (i := 1) rfl)
theorem own_w2 {Z : State} {a0 : Array Value} (hw : ∀ d ∈ tables_1, d.before a0 Z = true) : Jvm.Cond.before (Jvm.Cond.initialized own_A) a0 Z = true := hw _ (List.mem_of_getElem? (i := 2) rfl)
theorem own_w3 {Z : State} {a0 : Array Value} (hw : ∀ d ∈ tables_1, d.before a0 Z = true) : Jvm.Cond.before (Jvm.Cond.code ({ cls := own_A, name := "bucketOf", desc := "(BB)I" } : Jvm.MethodName) prog_13_method_12_code (2 : Nat) (Option.some Jvm.ClassFile.FieldType.int)) a0 Z = true := hw _ (List.mem_of_getElem? (i := 3) rfl)
theorem own_w4 {Z : State} {a0 : Array Value} (hw : ∀ d ∈ tables_1, d.before a0 Z = true) : Jvm.Cond.before (Jvm.Cond.constant x.cls (13 : Nat) (65536 : Int32)) a0 Z = true := hw _ (List.mem_of_getElem? (i := 4) rfl)
theorem pd_0 : parseMethodDescriptor "(BB)I" = some ⟨[.byte, .byte], some .int⟩ := by decide +kernel
def own_QI (r : Int32) (h0 : Heap) (n0 : Nat) (v : Option Value) (h : Heap) (L : List Loc) : Prop := v = some (.int r) ∧ Fr n0 L ∧ h = h0
theorem d1_0 : decode prog_13_method_12_code 0 = .ok (.iload_n 0, 1) := by decide +kernel
theorem d1_1 : decode prog_13_method_12_code 1 = .ok (.sipush 255, 3) := by decide +kernel
theorem d1_4 : decode prog_13_method_12_code 4 = .ok (.iand, 1) := by decide +kernel
theorem d1_5 : decode prog_13_method_12_code 5 = .ok (.bipush 8, 2) := by decide +kernel
theorem d1_7 : decode prog_13_method_12_code 7 = .ok (.ishl, 1) := by decide +kernel
theorem d1_8 : decode prog_13_method_12_code 8 = .ok (.iload_n 1, 1) := by decide +kernel
theorem d1_9 : decode prog_13_method_12_code 9 = .ok (.sipush 255, 3) := by decide +kernel
theorem d1_12 : decode prog_13_method_12_code 12 = .ok (.iand, 1) := by decide +kernel
theorem d1_13 : decode prog_13_method_12_code 13 = .ok (.ior, 1) := by decide +kernel
theorem d1_14 : decode prog_13_method_12_code 14 = .ok (.ireturn, 1) := by decide +kernel
theorem ef_1 (m : MethodId) (pa : Int32) (pb : Int32) : entryFrame m #[(.int pa), (.int pb)] 2 = mkF m 0 #[.val (.int pa), .val (.int pb)] [] := by first | (simp [entryFrame, mkF, argsToLocals, Value.category]; done) | rfl
theorem pn_1 : plainName own_A = true := by first | decide +kernel | (simp [plainName, overriddenIn]; done)
set_option maxRecDepth 65536 in
set_option maxHeartbeats 40000000 in
theorem rm1 (l : Launch) (Z : State) (a0 : Array Value) (hw : ∀ d ∈ tables_1, d.before a0 Z = true) (ws : List Jvm.Cond) (pa : Int32) (pb : Int32) (h0 : Heap) (n0 : Nat) (Z0 : n0 ≤ h0.size) :
    MetFree l (⟨own_A, "bucketOf", "(BB)I"⟩ : MethodName) (head1 (Jvm.Cond.code (⟨own_A, "bucketOf", "(BB)I"⟩ : MethodName) prog_13_method_12_code 2 (some .int) :: ws) ({ frames := 0, cells := 0, slots := 0, locals := 0 } : Room)) (fun a_ U_ => a_ = #[(.int pa), (.int pb)] ∧ Z.Warmed39 U_.vm ∧ U_.heap = h0) (fun _ _ _ _ _ => True) (fun _ U_ o_ W_ => ∃ v_ L_, o_ = .returned v_ ∧ own_QI (own_bk pa pb) h0 n0 v_ W_.heap L_ ∧ FrameEnd U_ o_ W_ L_ ({ frames := 0, cells := 0, slots := 0, locals := 0 } : Room).cells ({ frames := 0, cells := 0, slots := 0, locals := 0 } : Room).slots) := by
  refine MetFree.of_bodySF (plainFor_of_name pn_1) hisR ?_
  intro p e s m args below meth c s₁ Bd hml0 hP hK
  obtain ⟨rfl, hZ, hh⟩ := hP
  have hx := Bd.exec
  have hby := Bd.bytes
  have hml : c.maxLocals = 2 := hml0
  have hown : s.vm.findClass own_A = some m.cls := by have z := findClass_of_methodNamed Bd.named; exact z
  have hnm := (name_of_methodNamed Bd.named Bd.method).1
  have X0 : Stand p l e ({ frames := 0, cells := 0, slots := 0, locals := 0 } : Room) s m #[(.int pa), (.int pb)] below meth c s₁ [] 0 0 := Stand.of_body Bd
  have e0 : s₁.heap = h0 := by rw [← hh, Bd.state]; rfl
  have N0 := Fr.nil n0
  obtain ⟨G, hG, hst, hend⟩ := own_abs p e below s (own_QI (own_bk pa pb) h0 n0) ({ frames := 0, cells := 0, slots := 0, locals := 0 } : Room).cells ({ frames := 0, cells := 0, slots := 0, locals := 0 } : Room).slots
  refine hG (S := s₁.setTop (entryFrame m #[(.int pa), (.int pb)] 2)) (hst (fun t k => castTop (ef_1 m pa pb) k) ?_)
  show G (s₁.setTop (mkF m 0 #[.val (.int pa), .val (.int pb)] []))
  refine hst (fun _ kt => XS.iloadN X0.here hx rfl (hb hby d1_0) rfl kt) ?_
  show G (s₁.setTop (mkF m 1 #[.val (.int pa), .val (.int pb)] [(.int pa)]))
  refine hst (fun _ kt => XS.sipush X0.here hx rfl (hb hby d1_1) kt) ?_
  show G (s₁.setTop (mkF m 4 #[.val (.int pa), .val (.int pb)] [(.int (255 : Int32)), (.int pa)]))
  refine hst (fun _ kt => XS.iand X0.here hx rfl (hb hby d1_4) rfl kt) ?_
  show G (s₁.setTop (mkF m 5 #[.val (.int pa), .val (.int pb)] [(.int (pa &&& (255 : Int32)))]))
  refine hst (fun _ kt => XS.bipush X0.here hx rfl (hb hby d1_5) kt) ?_
  show G (s₁.setTop (mkF m 7 #[.val (.int pa), .val (.int pb)] [(.int (8 : Int32)), (.int (pa &&& (255 : Int32)))]))
  refine hst (fun _ kt => XS.ishl X0.here hx rfl (hb hby d1_7) rfl kt) ?_
  show G (s₁.setTop (mkF m 8 #[.val (.int pa), .val (.int pb)] [(.int ((pa &&& (255 : Int32)) <<< ((8 : Int32) &&& 31)))]))
  refine hst (fun _ kt => XS.iloadN X0.here hx rfl (hb hby d1_8) rfl kt) ?_
  show G (s₁.setTop (mkF m 9 #[.val (.int pa), .val (.int pb)] [(.int pb), (.int ((pa &&& (255 : Int32)) <<< ((8 : Int32) &&& 31)))]))
  refine hst (fun _ kt => XS.sipush X0.here hx rfl (hb hby d1_9) kt) ?_
  show G (s₁.setTop (mkF m 12 #[.val (.int pa), .val (.int pb)] [(.int (255 : Int32)), (.int pb), (.int ((pa &&& (255 : Int32)) <<< ((8 : Int32) &&& 31)))]))
  refine hst (fun _ kt => XS.iand X0.here hx rfl (hb hby d1_12) rfl kt) ?_
  show G (s₁.setTop (mkF m 13 #[.val (.int pa), .val (.int pb)] [(.int (pb &&& (255 : Int32))), (.int ((pa &&& (255 : Int32)) <<< ((8 : Int32) &&& 31)))]))
  refine hst (fun _ kt => XS.ior X0.here hx rfl (hb hby d1_13) rfl kt) ?_
  show G (s₁.setTop (mkF m 14 #[.val (.int pa), .val (.int pb)] [(.int (((pa &&& (255 : Int32)) <<< ((8 : Int32) &&& 31)) ||| (pb &&& (255 : Int32))))]))
  exact hend (own_goRet X0 hx Bd.returns rfl (Or.inl ⟨rfl, by simp, _, rfl⟩) (hb hby d1_14) Bd.notSynchronized (by rw [e0]; exact ⟨rfl, N0, rfl⟩) (by decide) (by decide))
def own_Q0 (n0 : Nat) (v : Option Value) (h : Heap) (L : List Loc) : Prop := v = some (.int (1 : Int32)) ∧ Fr n0 L
theorem ef_0 (m : MethodId) (a : Int32) (b : Int32) : entryFrame m #[(.int a), (.int b)] maxLocals = mkF m 0 #[.val (.int a), .val (.int b), .unset, .unset, .unset, .unset, .unset, .unset] [] := by first | (simp [entryFrame, mkF, argsToLocals, Value.category, maxLocals]; done) | rfl
theorem pn_0 : plainName x.cls = true := by first | decide +kernel | (simp [plainName, overriddenIn]; done)
set_option maxRecDepth 65536 in
set_option maxHeartbeats 40000000 in
theorem rm0 (l : Launch) (Z : State) (a0 : Array Value) (hw : ∀ d ∈ tables_1, d.before a0 Z = true) (ws : List Jvm.Cond) (a : Int32) (b : Int32) (h0 : Heap) (n0 : Nat) (Z0 : n0 ≤ h0.size) :
    MetFree l x (head1 (Jvm.Cond.code x code maxLocals ret :: ws) room_1) (fun a_ U_ => a_ = #[(.int a), (.int b)] ∧ Z.Warmed39 U_.vm ∧ U_.heap = h0) (fun _ _ _ _ _ => True) (fun _ U_ o_ W_ => ∃ v_ L_, o_ = .returned v_ ∧ own_Q0 n0 v_ W_.heap L_ ∧ FrameEnd U_ o_ W_ L_ room_1.cells room_1.slots) := by
  refine MetFree.of_bodySF (plainFor_of_name pn_0) hisR ?_
  intro p e s m args below meth c s₁ Bd hml0 hP hK
  obtain ⟨rfl, hZ, hh⟩ := hP
  have hx := Bd.exec
  have hby := Bd.bytes
  have hml : c.maxLocals = 8 := hml0
  have hown : s.vm.findClass x.cls = some m.cls := by have z := findClass_of_methodNamed Bd.named; exact z
  have hnm := (name_of_methodNamed Bd.named Bd.method).1
  have X0 : Stand p l e room_1 s m #[(.int a), (.int b)] below meth c s₁ [] 0 0 := Stand.of_body Bd
  have e0 : s₁.heap = h0 := by rw [← hh, Bd.state]; rfl
  have N0 := Fr.nil n0
  obtain ⟨G, hG, hst, hend⟩ := own_abs p e below s (own_Q0 n0) room_1.cells room_1.slots
  refine hG (S := s₁.setTop (entryFrame m #[(.int a), (.int b)] maxLocals)) (hst (fun t k => castTop (ef_0 m a b) k) ?_)
  show G (s₁.setTop (mkF m 0 #[.val (.int a), .val (.int b), .unset, .unset, .unset, .unset, .unset, .unset] []))
  refine hst (fun _ kt => XS.iloadN X0.here hx rfl (hb hby at_0) rfl kt) ?_
  show G (s₁.setTop (mkF m 1 #[.val (.int a), .val (.int b), .unset, .unset, .unset, .unset, .unset, .unset] [(.int a)]))
  refine hst (fun _ kt => XS.i2b X0.here hx rfl (hb hby at_1) rfl kt) ?_
  show G (s₁.setTop (mkF m 2 #[.val (.int a), .val (.int b), .unset, .unset, .unset, .unset, .unset, .unset] [(.int (a.toInt8.toInt32))]))
  refine hst (fun _ kt => XS.istoreN X0.here hx rfl (hb hby at_2) rfl (l' := #[.val (.int a), .val (.int b), .val (.int (a.toInt8.toInt32)), .unset, .unset, .unset, .unset, .unset]) rfl kt) ?_
  show G (s₁.setTop (mkF m 3 #[.val (.int a), .val (.int b), .val (.int (a.toInt8.toInt32)), .unset, .unset, .unset, .unset, .unset] []))
  refine hst (fun _ kt => XS.iloadN X0.here hx rfl (hb hby at_3) rfl kt) ?_
  show G (s₁.setTop (mkF m 4 #[.val (.int a), .val (.int b), .val (.int (a.toInt8.toInt32)), .unset, .unset, .unset, .unset, .unset] [(.int b)]))
  refine hst (fun _ kt => XS.i2b X0.here hx rfl (hb hby at_4) rfl kt) ?_
  show G (s₁.setTop (mkF m 5 #[.val (.int a), .val (.int b), .val (.int (a.toInt8.toInt32)), .unset, .unset, .unset, .unset, .unset] [(.int (b.toInt8.toInt32))]))
  refine hst (fun _ kt => XS.istoreN X0.here hx rfl (hb hby at_5) rfl (l' := #[.val (.int a), .val (.int b), .val (.int (a.toInt8.toInt32)), .val (.int (b.toInt8.toInt32)), .unset, .unset, .unset, .unset]) rfl kt) ?_
  show G (s₁.setTop (mkF m 6 #[.val (.int a), .val (.int b), .val (.int (a.toInt8.toInt32)), .val (.int (b.toInt8.toInt32)), .unset, .unset, .unset, .unset] []))
  refine hst (fun _ kt => XS.iloadN X0.here hx rfl (hb hby at_6) rfl kt) ?_
  show G (s₁.setTop (mkF m 7 #[.val (.int a), .val (.int b), .val (.int (a.toInt8.toInt32)), .val (.int (b.toInt8.toInt32)), .unset, .unset, .unset, .unset] [(.int (a.toInt8.toInt32))]))
  refine hst (fun _ kt => XS.iloadN X0.here hx rfl (hb hby at_7) rfl kt) ?_
  show G (s₁.setTop (mkF m 8 #[.val (.int a), .val (.int b), .val (.int (a.toInt8.toInt32)), .val (.int (b.toInt8.toInt32)), .unset, .unset, .unset, .unset] [(.int (b.toInt8.toInt32)), (.int (a.toInt8.toInt32))]))
  obtain ⟨_, _, ⟨T_1, L_1, k_1, n_1⟩, -, X_1, ⟨Lc_1, hQ_1, l_1, y_1, z_1⟩, st_1⟩ := Jvm.LawKit.callS X0 hx (y := (⟨own_A, "bucketOf", "(BB)I"⟩ : MethodName)) hown (mvT hZ (own_w0 hw)) (mvT hZ (own_w1 hw)) (mvT hZ (own_w2 hw)) (mvT hZ (own_w3 hw)) (by decide) (backOf (W := 0) (rm1 l Z a0 hw [] (a.toInt8.toInt32) (b.toInt8.toInt32)  h0 n0 Z0) hZ (own_w3 hw) (own_w2 hw) (by decide) (by decide)) (g := (mkF m 8 #[.val (.int a), .val (.int b), .val (.int (a.toInt8.toInt32)), .val (.int (b.toInt8.toInt32)), .unset, .unset, .unset, .unset] [(.int (b.toInt8.toInt32)), (.int (a.toInt8.toInt32))])) rfl (by rw [hml]; rfl) (argsL := [(.int (a.toInt8.toInt32)), (.int (b.toInt8.toInt32))]) (rest := []) (lenOf pd_0 rfl) rfl (by show 2 * 0 + _ ≤ _; exact Nat.le_of_eq rfl) (hb hby at_8) (fun _ _ => ⟨rfl, e0, (by decide : 0 + 0 ≤ _), (by decide : 0 + 0 ≤ _)⟩)
  dsimp only [Pt.U, Pt.locs, Pt.cells, Pt.slots] at X_1 l_1 y_1 z_1 st_1 hQ_1
  subst l_1 y_1 z_1
  obtain ⟨rfl, N_1q, eh_1⟩ := hQ_1
  have N_1 := Fr.app N0 N_1q
  refine hst (fun _ kt => st_1 _ kt) ?_
  show G (T_1.setTop (mkF m 11 #[.val (.int a), .val (.int b), .val (.int (a.toInt8.toInt32)), .val (.int (b.toInt8.toInt32)), .unset, .unset, .unset, .unset] [(.int (own_bk (a.toInt8.toInt32) (b.toInt8.toInt32)))]))
  refine hst (fun _ kt => XS.istore X_1.here hx rfl (hb hby at_11) rfl (l' := #[.val (.int a), .val (.int b), .val (.int (a.toInt8.toInt32)), .val (.int (b.toInt8.toInt32)), .val (.int (own_bk (a.toInt8.toInt32) (b.toInt8.toInt32))), .unset, .unset, .unset]) rfl kt) ?_
  show G (T_1.setTop (mkF m 13 #[.val (.int a), .val (.int b), .val (.int (a.toInt8.toInt32)), .val (.int (b.toInt8.toInt32)), .val (.int (own_bk (a.toInt8.toInt32) (b.toInt8.toInt32))), .unset, .unset, .unset] []))
  refine hst (fun _ kt => XS.iload X_1.here hx rfl (hb hby at_13) rfl kt) ?_
  show G (T_1.setTop (mkF m 15 #[.val (.int a), .val (.int b), .val (.int (a.toInt8.toInt32)), .val (.int (b.toInt8.toInt32)), .val (.int (own_bk (a.toInt8.toInt32) (b.toInt8.toInt32))), .unset, .unset, .unset] [(.int (own_bk (a.toInt8.toInt32) (b.toInt8.toInt32)))]))
  have hc15 : ¬ ((own_bk (a.toInt8.toInt32) (b.toInt8.toInt32)) < (0 : Int32)) := own_bk_ge _ _
  refine hst (fun _ kt => XS.ifNo X_1.here hx rfl (hb hby at_15) rfl ((if0 _ _).trans (flt hc15).1) kt) ?_
  show G (T_1.setTop (mkF m 18 #[.val (.int a), .val (.int b), .val (.int (a.toInt8.toInt32)), .val (.int (b.toInt8.toInt32)), .val (.int (own_bk (a.toInt8.toInt32) (b.toInt8.toInt32))), .unset, .unset, .unset] []))
  refine hst (fun _ kt => XS.iload X_1.here hx rfl (hb hby at_18) rfl kt) ?_
  show G (T_1.setTop (mkF m 20 #[.val (.int a), .val (.int b), .val (.int (a.toInt8.toInt32)), .val (.int (b.toInt8.toInt32)), .val (.int (own_bk (a.toInt8.toInt32) (b.toInt8.toInt32))), .unset, .unset, .unset] [(.int (own_bk (a.toInt8.toInt32) (b.toInt8.toInt32)))]))
  refine hst (X_1.ldcInt hx hown (mvT hZ (own_w4 hw)) (g := (mkF m 20 #[.val (.int a), .val (.int b), .val (.int (a.toInt8.toInt32)), .val (.int (b.toInt8.toInt32)), .val (.int (own_bk (a.toInt8.toInt32) (b.toInt8.toInt32))), .unset, .unset, .unset] [(.int (own_bk (a.toInt8.toInt32) (b.toInt8.toInt32)))])) rfl (hb hby at_20)) ?_
  show G (T_1.setTop (mkF m 22 #[.val (.int a), .val (.int b), .val (.int (a.toInt8.toInt32)), .val (.int (b.toInt8.toInt32)), .val (.int (own_bk (a.toInt8.toInt32) (b.toInt8.toInt32))), .unset, .unset, .unset] [(.int (65536 : Int32)), (.int (own_bk (a.toInt8.toInt32) (b.toInt8.toInt32)))]))
  have hc22 : (own_bk (a.toInt8.toInt32) (b.toInt8.toInt32)) < (65536 : Int32) := own_bk_lt _ _
  refine hst (fun _ kt => XS.icmpNo X_1.here hx rfl (hb hby at_22) rfl (tlt hc22).2.1 kt) ?_
  show G (T_1.setTop (mkF m 25 #[.val (.int a), .val (.int b), .val (.int (a.toInt8.toInt32)), .val (.int (b.toInt8.toInt32)), .val (.int (own_bk (a.toInt8.toInt32) (b.toInt8.toInt32))), .unset, .unset, .unset] []))
  refine hst (fun _ kt => XS.iconst X_1.here hx rfl (hb hby at_25) kt) ?_
  show G (T_1.setTop (mkF m 26 #[.val (.int a), .val (.int b), .val (.int (a.toInt8.toInt32)), .val (.int (b.toInt8.toInt32)), .val (.int (own_bk (a.toInt8.toInt32) (b.toInt8.toInt32))), .unset, .unset, .unset] [(.int (1 : Int32))]))
  refine hst (fun _ kt => XS.goto X_1.here hx rfl (pc0 := 26) (pc' := 30) rfl (hb hby at_26) (by decide) (by decide) kt) ?_
  show G (T_1.setTop (mkF m 30 #[.val (.int a), .val (.int b), .val (.int (a.toInt8.toInt32)), .val (.int (b.toInt8.toInt32)), .val (.int (own_bk (a.toInt8.toInt32) (b.toInt8.toInt32))), .unset, .unset, .unset] [(.int (1 : Int32))]))
  refine hst (fun _ kt => XS.istore X_1.here hx rfl (hb hby at_30) rfl (l' := #[.val (.int a), .val (.int b), .val (.int (a.toInt8.toInt32)), .val (.int (b.toInt8.toInt32)), .val (.int (own_bk (a.toInt8.toInt32) (b.toInt8.toInt32))), .val (.int (1 : Int32)), .unset, .unset]) rfl kt) ?_
  show G (T_1.setTop (mkF m 32 #[.val (.int a), .val (.int b), .val (.int (a.toInt8.toInt32)), .val (.int (b.toInt8.toInt32)), .val (.int (own_bk (a.toInt8.toInt32) (b.toInt8.toInt32))), .val (.int (1 : Int32)), .unset, .unset] []))
  refine hst (fun _ kt => XS.iload X_1.here hx rfl (hb hby at_32) rfl kt) ?_
  show G (T_1.setTop (mkF m 34 #[.val (.int a), .val (.int b), .val (.int (a.toInt8.toInt32)), .val (.int (b.toInt8.toInt32)), .val (.int (own_bk (a.toInt8.toInt32) (b.toInt8.toInt32))), .val (.int (1 : Int32)), .unset, .unset] [(.int (own_bk (a.toInt8.toInt32) (b.toInt8.toInt32)))]))
  refine hst (fun _ kt => XS.bipush X_1.here hx rfl (hb hby at_34) kt) ?_
  show G (T_1.setTop (mkF m 36 #[.val (.int a), .val (.int b), .val (.int (a.toInt8.toInt32)), .val (.int (b.toInt8.toInt32)), .val (.int (own_bk (a.toInt8.toInt32) (b.toInt8.toInt32))), .val (.int (1 : Int32)), .unset, .unset] [(.int (8 : Int32)), (.int (own_bk (a.toInt8.toInt32) (b.toInt8.toInt32)))]))
  refine hst (fun _ kt => XS.iushr X_1.here hx rfl (hb hby at_36) rfl kt) ?_
  show G (T_1.setTop (mkF m 37 #[.val (.int a), .val (.int b), .val (.int (a.toInt8.toInt32)), .val (.int (b.toInt8.toInt32)), .val (.int (own_bk (a.toInt8.toInt32) (b.toInt8.toInt32))), .val (.int (1 : Int32)), .unset, .unset] [(.int (((own_bk (a.toInt8.toInt32) (b.toInt8.toInt32)).toUInt32 >>> ((8 : Int32) &&& 31).toUInt32).toInt32))]))
  refine hst (fun _ kt => XS.i2b X_1.here hx rfl (hb hby at_37) rfl kt) ?_
  show G (T_1.setTop (mkF m 38 #[.val (.int a), .val (.int b), .val (.int (a.toInt8.toInt32)), .val (.int (b.toInt8.toInt32)), .val (.int (own_bk (a.toInt8.toInt32) (b.toInt8.toInt32))), .val (.int (1 : Int32)), .unset, .unset] [(.int ((((own_bk (a.toInt8.toInt32) (b.toInt8.toInt32)).toUInt32 >>> ((8 : Int32) &&& 31).toUInt32).toInt32).toInt8.toInt32))]))
  refine hst (fun _ kt => XS.iloadN X_1.here hx rfl (hb hby at_38) rfl kt) ?_
  show G (T_1.setTop (mkF m 39 #[.val (.int a), .val (.int b), .val (.int (a.toInt8.toInt32)), .val (.int (b.toInt8.toInt32)), .val (.int (own_bk (a.toInt8.toInt32) (b.toInt8.toInt32))), .val (.int (1 : Int32)), .unset, .unset] [(.int (a.toInt8.toInt32)), (.int ((((own_bk (a.toInt8.toInt32) (b.toInt8.toInt32)).toUInt32 >>> ((8 : Int32) &&& 31).toUInt32).toInt32).toInt8.toInt32))]))
  have hc39 : ((((own_bk (a.toInt8.toInt32) (b.toInt8.toInt32)).toUInt32 >>> ((8 : Int32) &&& 31).toUInt32).toInt32).toInt8.toInt32) = (a.toInt8.toInt32) := own_bk_hi _ _
  refine hst (fun _ kt => XS.icmpNo X_1.here hx rfl (hb hby at_39) rfl (teq hc39).2 kt) ?_
  show G (T_1.setTop (mkF m 42 #[.val (.int a), .val (.int b), .val (.int (a.toInt8.toInt32)), .val (.int (b.toInt8.toInt32)), .val (.int (own_bk (a.toInt8.toInt32) (b.toInt8.toInt32))), .val (.int (1 : Int32)), .unset, .unset] []))
  refine hst (fun _ kt => XS.iconst X_1.here hx rfl (hb hby at_42) kt) ?_
  show G (T_1.setTop (mkF m 43 #[.val (.int a), .val (.int b), .val (.int (a.toInt8.toInt32)), .val (.int (b.toInt8.toInt32)), .val (.int (own_bk (a.toInt8.toInt32) (b.toInt8.toInt32))), .val (.int (1 : Int32)), .unset, .unset] [(.int (1 : Int32))]))
  refine hst (fun _ kt => XS.goto X_1.here hx rfl (pc0 := 43) (pc' := 47) rfl (hb hby at_43) (by decide) (by decide) kt) ?_
  show G (T_1.setTop (mkF m 47 #[.val (.int a), .val (.int b), .val (.int (a.toInt8.toInt32)), .val (.int (b.toInt8.toInt32)), .val (.int (own_bk (a.toInt8.toInt32) (b.toInt8.toInt32))), .val (.int (1 : Int32)), .unset, .unset] [(.int (1 : Int32))]))
  refine hst (fun _ kt => XS.istore X_1.here hx rfl (hb hby at_47) rfl (l' := #[.val (.int a), .val (.int b), .val (.int (a.toInt8.toInt32)), .val (.int (b.toInt8.toInt32)), .val (.int (own_bk (a.toInt8.toInt32) (b.toInt8.toInt32))), .val (.int (1 : Int32)), .val (.int (1 : Int32)), .unset]) rfl kt) ?_
  show G (T_1.setTop (mkF m 49 #[.val (.int a), .val (.int b), .val (.int (a.toInt8.toInt32)), .val (.int (b.toInt8.toInt32)), .val (.int (own_bk (a.toInt8.toInt32) (b.toInt8.toInt32))), .val (.int (1 : Int32)), .val (.int (1 : Int32)), .unset] []))
  refine hst (fun _ kt => XS.iload X_1.here hx rfl (hb hby at_49) rfl kt) ?_
  show G (T_1.setTop (mkF m 51 #[.val (.int a), .val (.int b), .val (.int (a.toInt8.toInt32)), .val (.int (b.toInt8.toInt32)), .val (.int (own_bk (a.toInt8.toInt32) (b.toInt8.toInt32))), .val (.int (1 : Int32)), .val (.int (1 : Int32)), .unset] [(.int (own_bk (a.toInt8.toInt32) (b.toInt8.toInt32)))]))
  refine hst (fun _ kt => XS.i2b X_1.here hx rfl (hb hby at_51) rfl kt) ?_
  show G (T_1.setTop (mkF m 52 #[.val (.int a), .val (.int b), .val (.int (a.toInt8.toInt32)), .val (.int (b.toInt8.toInt32)), .val (.int (own_bk (a.toInt8.toInt32) (b.toInt8.toInt32))), .val (.int (1 : Int32)), .val (.int (1 : Int32)), .unset] [(.int ((own_bk (a.toInt8.toInt32) (b.toInt8.toInt32)).toInt8.toInt32))]))
  refine hst (fun _ kt => XS.iloadN X_1.here hx rfl (hb hby at_52) rfl kt) ?_
  show G (T_1.setTop (mkF m 53 #[.val (.int a), .val (.int b), .val (.int (a.toInt8.toInt32)), .val (.int (b.toInt8.toInt32)), .val (.int (own_bk (a.toInt8.toInt32) (b.toInt8.toInt32))), .val (.int (1 : Int32)), .val (.int (1 : Int32)), .unset] [(.int (b.toInt8.toInt32)), (.int ((own_bk (a.toInt8.toInt32) (b.toInt8.toInt32)).toInt8.toInt32))]))
  have hc53 : ((own_bk (a.toInt8.toInt32) (b.toInt8.toInt32)).toInt8.toInt32) = (b.toInt8.toInt32) := own_bk_lo _ _
  refine hst (fun _ kt => XS.icmpNo X_1.here hx rfl (hb hby at_53) rfl (teq hc53).2 kt) ?_
  show G (T_1.setTop (mkF m 56 #[.val (.int a), .val (.int b), .val (.int (a.toInt8.toInt32)), .val (.int (b.toInt8.toInt32)), .val (.int (own_bk (a.toInt8.toInt32) (b.toInt8.toInt32))), .val (.int (1 : Int32)), .val (.int (1 : Int32)), .unset] []))
  refine hst (fun _ kt => XS.iconst X_1.here hx rfl (hb hby at_56) kt) ?_
  show G (T_1.setTop (mkF m 57 #[.val (.int a), .val (.int b), .val (.int (a.toInt8.toInt32)), .val (.int (b.toInt8.toInt32)), .val (.int (own_bk (a.toInt8.toInt32) (b.toInt8.toInt32))), .val (.int (1 : Int32)), .val (.int (1 : Int32)), .unset] [(.int (1 : Int32))]))
  refine hst (fun _ kt => XS.goto X_1.here hx rfl (pc0 := 57) (pc' := 61) rfl (hb hby at_57) (by decide) (by decide) kt) ?_
  show G (T_1.setTop (mkF m 61 #[.val (.int a), .val (.int b), .val (.int (a.toInt8.toInt32)), .val (.int (b.toInt8.toInt32)), .val (.int (own_bk (a.toInt8.toInt32) (b.toInt8.toInt32))), .val (.int (1 : Int32)), .val (.int (1 : Int32)), .unset] [(.int (1 : Int32))]))
  refine hst (fun _ kt => XS.istore X_1.here hx rfl (hb hby at_61) rfl (l' := #[.val (.int a), .val (.int b), .val (.int (a.toInt8.toInt32)), .val (.int (b.toInt8.toInt32)), .val (.int (own_bk (a.toInt8.toInt32) (b.toInt8.toInt32))), .val (.int (1 : Int32)), .val (.int (1 : Int32)), .val (.int (1 : Int32))]) rfl kt) ?_
  show G (T_1.setTop (mkF m 63 #[.val (.int a), .val (.int b), .val (.int (a.toInt8.toInt32)), .val (.int (b.toInt8.toInt32)), .val (.int (own_bk (a.toInt8.toInt32) (b.toInt8.toInt32))), .val (.int (1 : Int32)), .val (.int (1 : Int32)), .val (.int (1 : Int32))] []))
  refine hst (fun _ kt => XS.iload X_1.here hx rfl (hb hby at_63) rfl kt) ?_
  show G (T_1.setTop (mkF m 65 #[.val (.int a), .val (.int b), .val (.int (a.toInt8.toInt32)), .val (.int (b.toInt8.toInt32)), .val (.int (own_bk (a.toInt8.toInt32) (b.toInt8.toInt32))), .val (.int (1 : Int32)), .val (.int (1 : Int32)), .val (.int (1 : Int32))] [(.int (1 : Int32))]))
  have hc65 : ¬ ((1 : Int32) = (0 : Int32)) := by decide
  refine hst (fun _ kt => XS.ifNo X_1.here hx rfl (hb hby at_65) rfl ((if0 _ _).trans (feq hc65).1) kt) ?_
  show G (T_1.setTop (mkF m 68 #[.val (.int a), .val (.int b), .val (.int (a.toInt8.toInt32)), .val (.int (b.toInt8.toInt32)), .val (.int (own_bk (a.toInt8.toInt32) (b.toInt8.toInt32))), .val (.int (1 : Int32)), .val (.int (1 : Int32)), .val (.int (1 : Int32))] []))
  refine hst (fun _ kt => XS.iload X_1.here hx rfl (hb hby at_68) rfl kt) ?_
  show G (T_1.setTop (mkF m 70 #[.val (.int a), .val (.int b), .val (.int (a.toInt8.toInt32)), .val (.int (b.toInt8.toInt32)), .val (.int (own_bk (a.toInt8.toInt32) (b.toInt8.toInt32))), .val (.int (1 : Int32)), .val (.int (1 : Int32)), .val (.int (1 : Int32))] [(.int (1 : Int32))]))
  have hc70 : ¬ ((1 : Int32) = (0 : Int32)) := by decide
  refine hst (fun _ kt => XS.ifNo X_1.here hx rfl (hb hby at_70) rfl ((if0 _ _).trans (feq hc70).1) kt) ?_
  show G (T_1.setTop (mkF m 73 #[.val (.int a), .val (.int b), .val (.int (a.toInt8.toInt32)), .val (.int (b.toInt8.toInt32)), .val (.int (own_bk (a.toInt8.toInt32) (b.toInt8.toInt32))), .val (.int (1 : Int32)), .val (.int (1 : Int32)), .val (.int (1 : Int32))] []))
  refine hst (fun _ kt => XS.iload X_1.here hx rfl (hb hby at_73) rfl kt) ?_
  show G (T_1.setTop (mkF m 75 #[.val (.int a), .val (.int b), .val (.int (a.toInt8.toInt32)), .val (.int (b.toInt8.toInt32)), .val (.int (own_bk (a.toInt8.toInt32) (b.toInt8.toInt32))), .val (.int (1 : Int32)), .val (.int (1 : Int32)), .val (.int (1 : Int32))] [(.int (1 : Int32))]))
  have hc75 : ¬ ((1 : Int32) = (0 : Int32)) := by decide
  refine hst (fun _ kt => XS.ifNo X_1.here hx rfl (hb hby at_75) rfl ((if0 _ _).trans (feq hc75).1) kt) ?_
  show G (T_1.setTop (mkF m 78 #[.val (.int a), .val (.int b), .val (.int (a.toInt8.toInt32)), .val (.int (b.toInt8.toInt32)), .val (.int (own_bk (a.toInt8.toInt32) (b.toInt8.toInt32))), .val (.int (1 : Int32)), .val (.int (1 : Int32)), .val (.int (1 : Int32))] []))
  refine hst (fun _ kt => XS.iconst X_1.here hx rfl (hb hby at_78) kt) ?_
  show G (T_1.setTop (mkF m 79 #[.val (.int a), .val (.int b), .val (.int (a.toInt8.toInt32)), .val (.int (b.toInt8.toInt32)), .val (.int (own_bk (a.toInt8.toInt32) (b.toInt8.toInt32))), .val (.int (1 : Int32)), .val (.int (1 : Int32)), .val (.int (1 : Int32))] [(.int (1 : Int32))]))
  refine hst (fun _ kt => XS.goto X_1.here hx rfl (pc0 := 79) (pc' := 83) rfl (hb hby at_79) (by decide) (by decide) kt) ?_
  show G (T_1.setTop (mkF m 83 #[.val (.int a), .val (.int b), .val (.int (a.toInt8.toInt32)), .val (.int (b.toInt8.toInt32)), .val (.int (own_bk (a.toInt8.toInt32) (b.toInt8.toInt32))), .val (.int (1 : Int32)), .val (.int (1 : Int32)), .val (.int (1 : Int32))] [(.int (1 : Int32))]))
  exact hend (own_goRet X_1 hx Bd.returns rfl (Or.inl ⟨rfl, by simp, _, rfl⟩) (hb hby at_83) Bd.notSynchronized (by rw [eh_1]; exact ⟨rfl, N_1⟩) (by decide) (by decide))
set_option maxRecDepth 65536 in
set_option maxHeartbeats 40000000 in
theorem comes_1 {Post : Tables → Env → Array Value → State → Outcome → State → Prop} (hpost : ∀ tb e args s v u, (limb_1_1.after args s (.returned v) u = true ∧ limb_1_2.after args s (.returned v) u = true ∧ True) → FrameEnd s (.returned v) u (Jvm.fieldLocs frame_1_writes args s ++ Jvm.arrayLocs frame_1_arrays args s ++ Jvm.staticLocs frame_1_statics s) 0 0 → Post tb e args s (.returned v) u) :
    ArmFor flags0 classFile x code maxLocals ret World_1 tables_1 room_1 Calls_1 rest_1 Pre_1 Post := by
  intro l hfl _ _ p e ha hc hk s m args below hf hA hF happ hP
  obtain ⟨hcalls, hrest, hpre⟩ := hP
  obtain ⟨-, -, -, hnamed, -, -, -, hat⟩ := (Spec.applies_iff hf).mp happ
  obtain ⟨hg, hn⟩ := and_e (Cond.before_iff.mp (show (Jvm.Cond.and given_1 narrow_1).before args s = true from hpre))
  obtain ⟨gc, g0⟩ := and_e hg
  obtain ⟨ga0, g1⟩ := and_e g0
  obtain ⟨w0, w1, rfl⟩ : ∃ w0 w1 : Value, args = #[w0, w1] := by
    have hs : args.size = 2 := by simpa [Cond.value, given_1] using gc
    obtain ⟨L⟩ := args
    match L, hs with
    | [w0, w1], _ => exact ⟨w0, w1, rfl⟩
  have hw := fun d (hd : d ∈ tables_1) => atoms_spec (ws := Jvm.Cond.code x code maxLocals ret :: tables_1) hat d (List.mem_cons_of_mem _ hd)
  have hfit : Fit s := fun {y c} hc i hi => by
    obtain ⟨ha, rfl⟩ := Array.getElem?_eq_some_iff.mp hc
    have q := List.all_eq_true.mp ((Array.all_eq_true_iff_forall_mem.mp hF) _ (Array.getElem_mem ha)) i (List.mem_range.mpr hi)
    simpa [Array.getElem?_eq_getElem hi] using q
  obtain ⟨i0, ei0⟩ := is_v ga0
  obtain rfl : w0 = (.int i0) := Option.some.inj ei0
  obtain ⟨i1, ei1⟩ := is_v g1
  obtain rfl : w1 = (.int i1) := Option.some.inj ei1
  obtain ⟨n, o, h1, h2, h3, _, L, rfl, ⟨rfl, N⟩, hq⟩ := rm0 l s _ hw tables_1 i0 i1  s.heap s.heap.size (Nat.le_refl _)  p e ha hc hk s m _ below hf ((Spec.applies_iff_loose hf).mp happ).1 ⟨rfl, State.Warmed39.refl s, rfl⟩ trivial
  refine ⟨n, _, h1, h2, h3, hpost _ _ _ _ _ _ ⟨Cond.after_iff.mpr rfl, Cond.after_iff.mpr (eq_i res_at (Term.int_eval (1)) rfl), trivial⟩ ⟨hq.1, hq.2.1, (hq.2.2.sift fun y hy => Or.inr (N y hy)).mono (by decide) (by decide)⟩⟩
theorem main_1_1 : Claimed_1_1 := comes_1 fun _ _ _ _ _ _ h hF => ⟨h.1, hF⟩
theorem main_1_2 : Claimed_1_2 := comes_1 fun _ _ _ _ _ _ h hF => ⟨h.2.1, hF⟩
end Jvm.Pilot.@@N@@
namespace Jvm.Pilot.@@N@@
open Jvm Jvm.ClassFile Sem Op Lib Jvm.Free Jvm.Stand Jvm.Pilot.@@N@@.Jvm.D
/-! MADE BY PROGRAM (witnessworld.py) out of the Statement's table words and the real class files: 10 classes; the members and pool entries that the words name. The judged class is class 1, her method 1. -/
namespace start1
open Jvm.ClassFile
def u (s : String) : CpInfo := .utf8 (stringToUtf16 s)
/-- a pool by its gaps: so many unusable entries, then the entry; so many at the end -/
def gap : Nat → List CpInfo → List CpInfo
  | 0, r => r
  | n + 1, r => .unusable :: gap n r
def poolList (es : List (Nat × CpInfo)) (last : Nat) : List CpInfo := es.foldr (fun e r => gap e.1 (e.2 :: r)) (gap last [])
def pool (es : List (Nat × CpInfo)) (last : Nat) : Array CpInfo := ⟨poolList es last⟩
def fileOf (pool : Array CpInfo) (this : Nat) (attrs : Array Attribute := #[]) (ms : Array MethodInfo := #[]) (fl : Nat := 33) (sup : Nat := 0) (ifs : Array Nat := #[]) (fds : Array FieldInfo := #[]) : ClassFile where
  minorVersion := 0
  majorVersion := 65
  constantPool := pool
  accessFlags := fl
  thisClass := this
  superClass := sup
  interfaces := ifs
  fields := fds
  methods := ms
  attributes := attrs
def plain (name : String) (sup : Option ClassId) : Class where
  name := name
  kind := .ordinary
  loader := none
  accessFlags := 33
  super := sup
  interfaces := #[]
  cf := none
  fields := #[]
  methods := #[]
  instanceTypes := #[]
  staticTypes := #[]
  resolved := #[]
  callSites := []
  init := .initialized
  statics := none
  mirror := none

def pool0 : Array CpInfo := pool [(5, u "<init>"), (0, u "()V"), (1, .class_ 10), (1, u "java/lang/Object")] 113

def k0m0 : Method := { name := "<init>", desc := "()V", sig := { parameters := [], returnType := none }, accessFlags := 1, code := none }
/-- java/lang/Object -/
def k0 : Class := { plain "java/lang/Object" none with
  accessFlags := 33
  interfaces := #[]
  cf := some (fileOf pool0 8 #[] #[{ accessFlags := 1, nameIndex := 5, descriptorIndex := 6, attributes := #[] }] 33 0 #[] #[])
  fields := #[]
  methods := #[k0m0]
  instanceTypes := #[]
  staticTypes := #[]
  resolved := Array.replicate 124 none
  statics := none }

def pool1 : Array CpInfo := pool [(2, .class_ 4), (1, u "java/lang/Object"), (0, u "<init>"), (0, u "()V"), (0, .methodref 8 9), (0, .class_ 10), (0, .nameAndType 11 12), (0, u "com/example/breachd/breachd/store/HashFile"), (0, u "bucketOf"), (0, u "(BB)I"), (0, .integer 65536), (0, .class_ 15), (0, u "com/example/breachd/breachd/store/HashFileBucketOfPinLaw"), (2, u "law"), (0, u "(II)Z")] 3

def k1m0 : Method := { name := "<init>", desc := "()V", sig := { parameters := [], returnType := none }, accessFlags := 1, code := none }
def k1c1 : Code := { maxStack := 2, maxLocals := 8, code := code, exceptionTable := #[], attributes := #[] }
def k1m1 : Method := { name := "law", desc := "(II)Z", sig := { parameters := [.int, .int], returnType := some .boolean }, accessFlags := 9, code := some k1c1 }
/-- com/example/breachd/breachd/store/HashFileBucketOfPinLaw -/
def k1 : Class := { plain "com/example/breachd/breachd/store/HashFileBucketOfPinLaw" (some 0) with
  accessFlags := 49
  interfaces := #[]
  cf := some (fileOf pool1 14 #[] #[{ accessFlags := 1, nameIndex := 5, descriptorIndex := 6, attributes := #[] }, { accessFlags := 9, nameIndex := 18, descriptorIndex := 19, attributes := #[] }] 49 2 #[] #[])
  fields := #[]
  methods := #[k1m0, k1m1]
  instanceTypes := #[]
  staticTypes := #[]
  resolved := Array.replicate 23 none
  statics := none }

def pool2 : Array CpInfo := pool [(1, .class_ 2), (0, u "java/lang/AutoCloseable"), (0, .class_ 4), (0, u "java/lang/Object")] 7

/-- java/lang/AutoCloseable -/
def k2 : Class := { plain "java/lang/AutoCloseable" (some 0) with
  accessFlags := 1537
  interfaces := #[]
  cf := some (fileOf pool2 1 #[] #[] 1537 3 #[] #[])
  fields := #[]
  methods := #[]
  instanceTypes := #[]
  staticTypes := #[]
  resolved := Array.replicate 12 none
  statics := none }

def pool3 : Array CpInfo := pool [(1, .class_ 2), (0, u "com/example/breachd/breachd/store/HashFile"), (1, .class_ 6), (1, u "java/lang/Object"), (4, u "width"), (0, u "I"), (2, u "bucketStart"), (0, u "[J"), (2, u "windows"), (0, u "[Ljava/nio/MappedByteBuffer;"), (2, u "windowStart"), (2, u "channel"), (0, u "Ljava/nio/channels/FileChannel;"), (52, u "ENTRIES_OFFSET"), (0, u "J"), (29, u "MAGIC"), (0, u "[B"), (92, u "bucketOf"), (0, u "(BB)I"), (16, .class_ 224), (0, u "com/example/breachd/breachd/store/HashFile$1"), (33, u "HEADER_BYTES"), (2, .class_ 262), (0, u "java/lang/AutoCloseable"), (0, u "VERSION"), (2, u "BUCKET_BYTES"), (1, u "BUCKETS"), (0, u "WINDOW_BYTES")] 55

def k3c0 : Code := { maxStack := 3, maxLocals := 2, code := prog_13_method_12_code, exceptionTable := #[], attributes := #[] }
def k3m0 : Method := { name := "bucketOf", desc := "(BB)I", sig := { parameters := [.byte, .byte], returnType := some .int }, accessFlags := 8, code := some k3c0 }
/-- com/example/breachd/breachd/store/HashFile -/
def k3 : Class := { plain "com/example/breachd/breachd/store/HashFile" (some 0) with
  accessFlags := 49
  interfaces := #[2]
  cf := some (fileOf pool3 1 #[.nestMembers #[223]] #[{ accessFlags := 8, nameIndex := 205, descriptorIndex := 206, attributes := #[] }] 49 4 #[261] #[{ accessFlags := 24, nameIndex := 111, descriptorIndex := 112, attributes := #[] }, { accessFlags := 24, nameIndex := 263, descriptorIndex := 12, attributes := #[] }, { accessFlags := 24, nameIndex := 266, descriptorIndex := 12, attributes := #[] }, { accessFlags := 24, nameIndex := 268, descriptorIndex := 12, attributes := #[] }, { accessFlags := 24, nameIndex := 258, descriptorIndex := 12, attributes := #[] }, { accessFlags := 24, nameIndex := 80, descriptorIndex := 81, attributes := #[] }, { accessFlags := 26, nameIndex := 269, descriptorIndex := 81, attributes := #[] }, { accessFlags := 18, nameIndex := 11, descriptorIndex := 12, attributes := #[] }, { accessFlags := 18, nameIndex := 15, descriptorIndex := 16, attributes := #[] }, { accessFlags := 18, nameIndex := 19, descriptorIndex := 20, attributes := #[] }, { accessFlags := 18, nameIndex := 23, descriptorIndex := 16, attributes := #[] }, { accessFlags := 18, nameIndex := 26, descriptorIndex := 27, attributes := #[] }])
  fields := #[{ name := "MAGIC", type := (.array .byte), accessFlags := 24, slot := 0, constantValue := 0 }, { name := "VERSION", type := .int, accessFlags := 24, slot := 1, constantValue := 0 }, { name := "BUCKET_BYTES", type := .int, accessFlags := 24, slot := 2, constantValue := 0 }, { name := "BUCKETS", type := .int, accessFlags := 24, slot := 3, constantValue := 0 }, { name := "HEADER_BYTES", type := .int, accessFlags := 24, slot := 4, constantValue := 0 }, { name := "ENTRIES_OFFSET", type := .long, accessFlags := 24, slot := 5, constantValue := 0 }, { name := "WINDOW_BYTES", type := .long, accessFlags := 26, slot := 6, constantValue := 0 }, { name := "width", type := .int, accessFlags := 18, slot := 0, constantValue := 0 }, { name := "bucketStart", type := (.array .long), accessFlags := 18, slot := 1, constantValue := 0 }, { name := "windows", type := (.array (.object "java/nio/MappedByteBuffer")), accessFlags := 18, slot := 2, constantValue := 0 }, { name := "windowStart", type := (.array .long), accessFlags := 18, slot := 3, constantValue := 0 }, { name := "channel", type := (.object "java/nio/channels/FileChannel"), accessFlags := 18, slot := 4, constantValue := 0 }]
  methods := #[k3m0]
  instanceTypes := #[.int, (.array .long), (.array (.object "java/nio/MappedByteBuffer")), (.array .long), (.object "java/nio/channels/FileChannel")]
  staticTypes := #[(.array .byte), .int, .int, .int, .int, .long, .long]
  resolved := Array.replicate 325 none
  statics := none }

def pool4 : Array CpInfo := pool [(1, u "java/lang/Cloneable"), (0, .class_ 1), (0, u "java/lang/Object"), (0, .class_ 3)] 3

/-- java/lang/Cloneable -/
def k4 : Class := { plain "java/lang/Cloneable" (some 0) with
  accessFlags := 1537
  interfaces := #[]
  cf := some (fileOf pool4 2 #[] #[] 1537 4 #[] #[])
  fields := #[]
  methods := #[]
  instanceTypes := #[]
  staticTypes := #[]
  resolved := Array.replicate 8 none
  statics := none }

def pool5 : Array CpInfo := pool [(1, u "java/io/Serializable"), (0, .class_ 1), (0, u "java/lang/Object"), (0, .class_ 3)] 3

/-- java/io/Serializable -/
def k5 : Class := { plain "java/io/Serializable" (some 0) with
  accessFlags := 1537
  interfaces := #[]
  cf := some (fileOf pool5 2 #[] #[] 1537 4 #[] #[])
  fields := #[]
  methods := #[]
  instanceTypes := #[]
  staticTypes := #[]
  resolved := Array.replicate 8 none
  statics := none }

/-- the primitive byte -/
def k6 : Class := { plain "byte" none with kind := .primitive 'B', accessFlags := 0x411 }
/-- [B -/
def k7 : Class := { plain "[B" (some 0) with kind := .array 6 .byte, interfaces := #[4, 5], accessFlags := 1041 }

/-- the primitive int -/
def k8 : Class := { plain "int" none with kind := .primitive 'I', accessFlags := 0x411 }
/-- [I -/
def k9 : Class := { plain "[I" (some 0) with kind := .array 8 .int, interfaces := #[4, 5], accessFlags := 1041 }

def heap : Heap := #[]
def classes : Array Class := #[k0, k1, k2, k3, k4, k5, k6, k7, k8, k9]
def interned : List (Array UInt16 × Addr) := []
def slotsUsed : Nat := 0
def theMethod : MethodId := ⟨1, 1⟩
def args0 : Array Value := #[.int 5, .int 7]
def aboutOver (below : List Frame) : State where
  vm := { classes := classes, interned := interned.toArray }
  heap := heap
  slotsUsed := slotsUsed
  threads := #[{ frames := .invoking theMethod args0 :: below }]
def below0 : List Frame := [.native { method := ⟨0, 0⟩, args := #[] }]
def about1 : State := aboutOver below0
def p0 : Program := .bare "" "" ""
def e0 : Env := launch0.env 0 0 0
theorem w_frames : about1.frames = Frame.invoking theMethod args0 :: below0 := rfl
set_option maxRecDepth 65536 in
theorem w_args : argsFit about1.vm theMethod args0 = true := by decide +kernel
set_option maxRecDepth 65536 in
theorem w_heap : heapFits about1 = true := by decide +kernel
set_option maxRecDepth 65536 in
theorem w_runnable : about1.curStatus? = some .runnable := by decide +kernel
set_option maxRecDepth 65536 in
theorem w_alone : about1.alone = true := by decide +kernel
set_option maxRecDepth 65536 in
theorem w_named : about1.methodNamed? x = some theMethod := by decide +kernel
set_option maxRecDepth 65536 in
theorem w_hears : about1.hears theMethod below0 = true := by decide +kernel
set_option maxRecDepth 65536 in
theorem w_ripe : about1.ripe theMethod args0 below0 = true := by decide +kernel
theorem w_running : about1.status = .running := rfl
set_option maxRecDepth 65536 in
theorem w_room : about1.hasRoom e0.platform room_1 = true :=
  launch0.hasRoom_least _ room_1 (by decide +kernel) (by decide +kernel) (by decide +kernel) (by decide +kernel) (by decide +kernel) (by decide +kernel)
theorem allAtoms_all (ts : List Jvm.Cond) (a : Array Jvm.Value) (st : Jvm.State) : (allAtoms ts).before a st = ts.all (fun c => c.before a st) := by
  induction ts with
  | nil => rfl
  | cons c t ih =>
    show (Jvm.Cond.and c (allAtoms t)).before a st = _
    rw [Jvm.Cond.before_and, ih, List.all_cons]
def words1 : List Jvm.Cond := Jvm.Cond.code x code maxLocals ret :: tables_1
/-- a 'code' word, met by the world's own term for the bytes: nothing is compared byte by byte -/
theorem code_word {y : MethodName} {bytes : ByteArray} {mx : Nat} {rt : Option FieldType} {a : Array Value} {s : State} {m : MethodId} {meth : Method} {c : Code} (h1 : s.methodNamed? y = some m) (h2 : s.vm.method? m = some meth) (h3 : meth.code = some c) (h4 : c.code = bytes)
    (h5 : (c.maxLocals == mx && c.exceptionTable.isEmpty && decide (c.maxStack ≤ mostOperands) && decide (meth.sig.returnType = rt) && !meth.locks && decide (parseMethodDescriptor y.desc = some meth.sig)) = true) : (Jvm.Cond.code y bytes mx rt).before a s = true := by
  simp only [Bool.and_eq_true, beq_iff_eq, Bool.not_eq_true', decide_eq_true_eq] at h5
  obtain ⟨⟨⟨⟨⟨g1, g2⟩, g3⟩, g4⟩, g5⟩, g6⟩ := h5
  simp [Cond.before, Cond.holds, Cond.value, h1, h2, h3, h4, g1, g2, g3, g4, g5, g6]
def isCode : Jvm.Cond → Bool
  | .code _ _ _ _ => true
  | _ => false
theorem all_split {L : List Jvm.Cond} {P : Jvm.Cond → Bool} (h1 : L.all (fun c => isCode c || P c) = true) (h2 : ∀ c ∈ L.filter isCode, P c = true) : L.all P = true := by
  refine List.all_eq_true.mpr fun c hc => ?_
  have h := List.all_eq_true.mp h1 c hc
  rcases Bool.eq_false_or_eq_true (isCode c) with hi | hi
  · exact h2 c (List.mem_filter.mpr ⟨hc, hi⟩)
  · simpa [hi] using h
set_option maxRecDepth 65536 in
theorem w_c0 : (Jvm.Cond.code x code maxLocals ret).before args0 about1 = true := code_word (m := ⟨1, 1⟩) (meth := k1m1) (c := k1c1) (by decide +kernel) rfl rfl rfl (by decide +kernel)
set_option maxRecDepth 65536 in
theorem w_c1 : (Jvm.Cond.code ({ cls := "com/example/breachd/breachd/store/HashFile", name := "bucketOf", desc := "(BB)I" } : Jvm.MethodName) prog_13_method_12_code (2 : Nat) (Option.some Jvm.ClassFile.FieldType.int)).before args0 about1 = true := code_word (m := ⟨3, 0⟩) (meth := k3m0) (c := k3c0) (by decide +kernel) rfl rfl rfl (by decide +kernel)
def codes1 : List Jvm.Cond := [Jvm.Cond.code x code maxLocals ret, Jvm.Cond.code ({ cls := "com/example/breachd/breachd/store/HashFile", name := "bucketOf", desc := "(BB)I" } : Jvm.MethodName) prog_13_method_12_code (2 : Nat) (Option.some Jvm.ClassFile.FieldType.int)]
set_option maxRecDepth 65536 in
theorem codes_eq : words1.filter isCode = codes1 := rfl
theorem w_codes : ∀ c ∈ words1.filter isCode, c.before args0 about1 = true := by
  rw [codes_eq]
  intro c hc
  simp only [codes1, List.mem_cons, List.not_mem_nil, or_false] at hc
  rcases hc with rfl | rfl
  · exact w_c0
  · exact w_c1
set_option maxRecDepth 65536 in
theorem w_t1 : words1.all (fun c => isCode c || c.before args0 about1) = true := by decide +kernel
theorem w_tables : (allAtoms (Jvm.Cond.code x code maxLocals ret :: tables_1)).before args0 about1 = true := by
  rw [allAtoms_all]
  show words1.all (fun c => c.before args0 about1) = true
  refine all_split ?_ w_codes
  rw [w_t1]
set_option maxRecDepth 65536 in
theorem w_case : (Jvm.Cond.and given_1 narrow_1).before args0 about1 = true := by decide +kernel
theorem w_applies : (headSpec (Jvm.Cond.code x code maxLocals ret :: tables_1) room_1).applies x e0.platform about1 = true :=
  (Spec.applies_iff w_frames).mpr ⟨w_running, w_runnable, w_alone, w_named, w_hears, w_ripe, w_room, w_tables⟩
theorem atStart : AtStart classFile x code maxLocals ret World_1 tables_1 room_1 Calls_1 rest_1 Pre_1 launch0 p0 e0 about1 theMethod args0 below0 :=
  ⟨lists_1, trivial, launch0.admits_env _ _ _, launch0.least_env, fairChoices_fair.cas, fairChoices_fair.clock, w_frames, w_args, w_heap, w_applies, trivial, trivial, w_case⟩
end start1
theorem witness_1 : WitnessClaimed_1 := ⟨start1.p0, start1.e0, start1.about1, start1.theMethod, start1.args0, start1.below0, start1.atStart⟩
end Jvm.Pilot.@@N@@
