import JvmDerived
import JvmDerived.Pilot.@@N@@Statement
import JvmDerived.Pilot.@@N@@Code
set_option linter.unusedVariables false
set_option linter.unusedSimpArgs false
namespace Jvm.Pilot.@@N@@
open Jvm Jvm.ClassFile Sem Op Lib Jvm.Free Jvm.Stand Jvm.LawKit Jvm.RoadKit Bundle Jvm.Pilot.@@N@@.Jvm.D
/-- from S on the run ends as Q says -/
def own_Go (p : Program) (e : Env) (below : List Frame) (s : State) (Q : Option Value → Heap → List Loc → Prop) (k n : Nat) (S : State) : Prop :=
  ∃ s₂ o, Steps p.tables e below S s₂ ∧ s₂.status = .running ∧ Ended s₂ below o ∧ ∃ v L, o = .returned v ∧ Q v s₂.heap L ∧ FrameEnd s o s₂ L k n
/-- the goal, as a predicate that is closed under steps -/
theorem own_abs (p : Program) (e : Env) (below : List Frame) (s : State) (Q : Option Value → Heap → List Loc → Prop) (k n : Nat) :
    ∃ G : State → Prop, (∀ {S : State}, G S → own_Go p e below s Q k n S) ∧ (∀ {S S' : State}, (∀ t, Steps p.tables e below S' t → Steps p.tables e below S t) → G S' → G S) ∧ (∀ {S : State}, own_Go p e below s Q k n S → G S) :=
  ⟨own_Go p e below s Q k n, fun h => h, fun h g => by obtain ⟨s2, o, h1, r⟩ := g; exact ⟨s2, o, h _ h1, r⟩, fun h => h⟩
section OwnEnd
variable {p : Program} {l : Launch} {e : Env} {R : Room} {s : State} {m : MethodId} {args : Array Value} {below : List Frame} {meth : Method} {c : Code} {T : State} {locs : List Loc} {cells slots : Nat} {Q : Option Value → Heap → List Loc → Prop} {k n : Nat}
theorem own_goRet (X : Stand p l e R s m args below meth c T locs cells slots) (hx : p.tables.exec = Jvm.exec) {pc : Nat} {Ls : Array Slot} {w : Value} {t : FieldType} {i : Instr} {rest : List Value} (hret : meth.sig.returnType = some t) (hn : narrow t w = w)
    (hi : (i = .ireturn ∧ (t = .int ∨ t = .boolean ∨ t = .byte ∨ t = .char ∨ t = .short) ∧ ∃ z, w = .int z) ∨ (i = .lreturn ∧ t = .long ∧ ∃ z, w = .long z) ∨ (i = .dreturn ∧ t = .double ∧ ∃ z, w = .double z) ∨ (i = .freturn ∧ t = .float ∧ ∃ z, w = .float z) ∨ (i = .areturn ∧ t.isReference = true ∧ w.isRef = true))
    (hd : decode c.code pc = .ok (i, 1)) (hlk : meth.locks = false) (hQ : Q (some w) T.heap locs) (hk : cells ≤ k) (hn' : slots ≤ n) : own_Go p e below s Q k n (T.setTop (mkF m pc Ls (w :: rest))) := by
  obtain ⟨fs, hr, hrun, hended, hW, hsame⟩ := X.leave (v := some w) (fun h => by rw [hret] at h; cases h) hlk
  exact ⟨_, _, retOut X hx hret hn hi hd hr, hrun, hended, _, _, rfl, hQ, ⟨_, rfl⟩, hW, hsame.mono hk hn'⟩
theorem own_goVoid (X : Stand p l e R s m args below meth c T locs cells slots) (hx : p.tables.exec = Jvm.exec) {pc : Nat} {Ls : Array Slot} (hret : meth.sig.returnType = none)
    (hd : decode c.code pc = .ok (.return_, 1)) (hlk : meth.locks = false) (hQ : Q none T.heap locs) (hk : cells ≤ k) (hn' : slots ≤ n) : own_Go p e below s Q k n (T.setTop (mkF m pc Ls [])) := by
  obtain ⟨fs, hr, hrun, hended, hW, hsame⟩ := X.leave (v := none) (fun _ => rfl) hlk
  exact ⟨_, _, X.returnOut hx hret hd hr, hrun, hended, _, _, rfl, hQ, ⟨_, rfl⟩, hW, hsame.mono hk hn'⟩
end OwnEnd
abbrev own_A : String := "com/example/hash_to_host/hashtohost/MurmurHash3"
def own_x33 (q : Int64) : Int64 := q ^^^ ((q.toUInt64 >>> ((33 : Int32) &&& 0x3f).toInt64.toUInt64).toInt64)
def own_fm (q : Int64) : Int64 := own_x33 (own_x33 (own_x33 q * (-49064778989728563 : Int64)) * (-4265267296055464877 : Int64))
def own_um (q : Int64) : Int64 := own_x33 (own_x33 (own_x33 q * (-7154897129451604005 : Int64)) * (5725274745694666757 : Int64))
theorem own_x33_bv (q : Int64) : (own_x33 q).toBitVec = q.toBitVec ^^^ (q.toBitVec >>> 33) := by
  have h : ((33 : Int32) &&& 0x3f).toInt64.toUInt64 = (33 : UInt64) := by decide
  unfold own_x33
  rw [h]
  show q.toBitVec ^^^ (q.toUInt64 >>> (33 : UInt64)).toBitVec = _
  rw [UInt64.toBitVec_shiftRight]
  rfl
theorem own_x33_inv (q : Int64) : own_x33 (own_x33 q) = q := by
  apply Int64.toBitVec_inj.mp
  rw [own_x33_bv, own_x33_bv]
  generalize q.toBitVec = b
  apply BitVec.eq_of_getLsbD_eq
  intro i hi
  simp only [BitVec.getLsbD_xor, BitVec.getLsbD_ushiftRight]
  have : b.getLsbD (33 + (33 + i)) = false := BitVec.getLsbD_of_ge _ _ (by omega)
  rw [this]
  cases b.getLsbD i <;> cases b.getLsbD (33 + i) <;> rfl
theorem own_mul_inv (x a b : Int64) (h : a * b = 1) : x * a * b = x := by rw [Int64.mul_assoc, h, Int64.mul_one]
theorem own_um_fm (q : Int64) : own_um (own_fm q) = q := by
  unfold own_um own_fm
  rw [own_x33_inv, own_mul_inv _ _ _ (by decide), own_x33_inv, own_mul_inv _ _ _ (by decide), own_x33_inv]
theorem own_fm_um (q : Int64) : own_fm (own_um q) = q := by
  unfold own_um own_fm
  rw [own_x33_inv, own_mul_inv _ _ _ (by decide), own_x33_inv, own_mul_inv _ _ _ (by decide), own_x33_inv]
theorem own_w0 {Z : State} {a0 : Array Value} (hw : ∀ d ∈ tables_1, d.before a0 Z = true) : Jvm.Cond.before (Jvm.Cond.methodLink x.cls (11 : Nat) ({ cls := own_A, name := "finalMix", desc := "(J)J" } : Jvm.MethodName)) a0 Z = true := hw _ (List.mem_of_getElem? (i := 0) rfl)
theorem own_w1 {Z : State} {a0 : Array Value} (hw : ∀ d ∈ tables_1, d.before a0 Z = true) : Jvm.Cond.before (Jvm.Cond.static ({ cls := own_A, name := "finalMix", desc := "(J)J" } : Jvm.MethodName)) a0 Z = true := hw _ (List.mem_of_getElem? (i := 1) rfl)
theorem own_w2 {Z : State} {a0 : Array Value} (hw : ∀ d ∈ tables_1, d.before a0 Z = true) : Jvm.Cond.before (Jvm.Cond.initialized own_A) a0 Z = true := hw _ (List.mem_of_getElem? (i := 2) rfl)
theorem own_w3 {Z : State} {a0 : Array Value} (hw : ∀ d ∈ tables_1, d.before a0 Z = true) : Jvm.Cond.before (Jvm.Cond.code ({ cls := own_A, name := "finalMix", desc := "(J)J" } : Jvm.MethodName) prog_16_method_6_code (4 : Nat) (Option.some Jvm.ClassFile.FieldType.long)) a0 Z = true := hw _ (List.mem_of_getElem? (i := 3) rfl)
theorem own_w4 {Z : State} {a0 : Array Value} (hw : ∀ d ∈ tables_1, d.before a0 Z = true) : Jvm.Cond.before (Jvm.Cond.constantLong own_A (63 : Nat) (-49064778989728563 : Int64)) a0 Z = true := hw _ (List.mem_of_getElem? (i := 4) rfl)
theorem own_w5 {Z : State} {a0 : Array Value} (hw : ∀ d ∈ tables_1, d.before a0 Z = true) : Jvm.Cond.before (Jvm.Cond.constantLong own_A (65 : Nat) (-4265267296055464877 : Int64)) a0 Z = true := hw _ (List.mem_of_getElem? (i := 5) rfl)
theorem own_w6 {Z : State} {a0 : Array Value} (hw : ∀ d ∈ tables_1, d.before a0 Z = true) : Jvm.Cond.before (Jvm.Cond.methodLink x.cls (17 : Nat) ({ cls := x.cls, name := "unmix", desc := "(J)J" } : Jvm.MethodName)) a0 Z = true := hw _ (List.mem_of_getElem? (i := 6) rfl)
theorem own_w7 {Z : State} {a0 : Array Value} (hw : ∀ d ∈ tables_1, d.before a0 Z = true) : Jvm.Cond.before (Jvm.Cond.static ({ cls := x.cls, name := "unmix", desc := "(J)J" } : Jvm.MethodName)) a0 Z = true := hw _ (List.mem_of_getElem? (i := 7) rfl)
theorem own_w8 {Z : State} {a0 : Array Value} (hw : ∀ d ∈ tables_1, d.before a0 Z = true) : Jvm.Cond.before (Jvm.Cond.initialized x.cls) a0 Z = true := hw _ (List.mem_of_getElem? (i := 8) rfl)
theorem own_w9 {Z : State} {a0 : Array Value} (hw : ∀ d ∈ tables_1, d.before a0 Z = true) : Jvm.Cond.before (Jvm.Cond.code ({ cls := x.cls, name := "unmix", desc := "(J)J" } : Jvm.MethodName) method_2_code (4 : Nat) (Option.some Jvm.ClassFile.FieldType.long)) a0 Z = true := hw _ (List.mem_of_getElem? (i := 9) rfl)
theorem own_w10 {Z : State} {a0 : Array Value} (hw : ∀ d ∈ tables_1, d.before a0 Z = true) : Jvm.Cond.before (Jvm.Cond.constantLong x.cls (7 : Nat) (-7154897129451604005 : Int64)) a0 Z = true := hw _ (List.mem_of_getElem? (i := 10) rfl)
theorem own_w11 {Z : State} {a0 : Array Value} (hw : ∀ d ∈ tables_1, d.before a0 Z = true) : Jvm.Cond.before (Jvm.Cond.constantLong x.cls (9 : Nat) (5725274745694666757 : Int64)) a0 Z = true := hw _ (List.mem_of_getElem? (i := 11) rfl)
theorem pd_0 : parseMethodDescriptor "(J)J" = some ⟨[.long], some .long⟩ := by decide +kernel
def own_QL (r : Int64) (h0 : Heap) (n0 : Nat) (v : Option Value) (h : Heap) (L : List Loc) : Prop := v = some (.long r) ∧ Fr n0 L ∧ h = h0
theorem d1_0 : decode prog_16_method_6_code 0 = .ok (.lload_n 0, 1) := by decide +kernel
theorem d1_1 : decode prog_16_method_6_code 1 = .ok (.lload_n 0, 1) := by decide +kernel
theorem d1_2 : decode prog_16_method_6_code 2 = .ok (.bipush 33, 2) := by decide +kernel
theorem d1_4 : decode prog_16_method_6_code 4 = .ok (.lushr, 1) := by decide +kernel
theorem d1_5 : decode prog_16_method_6_code 5 = .ok (.lxor, 1) := by decide +kernel
theorem d1_6 : decode prog_16_method_6_code 6 = .ok (.lstore_n 2, 1) := by decide +kernel
theorem d1_7 : decode prog_16_method_6_code 7 = .ok (.lload_n 2, 1) := by decide +kernel
theorem d1_8 : decode prog_16_method_6_code 8 = .ok (.ldc2_w 63, 3) := by decide +kernel
theorem d1_11 : decode prog_16_method_6_code 11 = .ok (.lmul, 1) := by decide +kernel
theorem d1_12 : decode prog_16_method_6_code 12 = .ok (.lstore_n 2, 1) := by decide +kernel
theorem d1_13 : decode prog_16_method_6_code 13 = .ok (.lload_n 2, 1) := by decide +kernel
theorem d1_14 : decode prog_16_method_6_code 14 = .ok (.lload_n 2, 1) := by decide +kernel
theorem d1_15 : decode prog_16_method_6_code 15 = .ok (.bipush 33, 2) := by decide +kernel
theorem d1_17 : decode prog_16_method_6_code 17 = .ok (.lushr, 1) := by decide +kernel
theorem d1_18 : decode prog_16_method_6_code 18 = .ok (.lxor, 1) := by decide +kernel
theorem d1_19 : decode prog_16_method_6_code 19 = .ok (.lstore_n 2, 1) := by decide +kernel
theorem d1_20 : decode prog_16_method_6_code 20 = .ok (.lload_n 2, 1) := by decide +kernel
theorem d1_21 : decode prog_16_method_6_code 21 = .ok (.ldc2_w 65, 3) := by decide +kernel
theorem d1_24 : decode prog_16_method_6_code 24 = .ok (.lmul, 1) := by decide +kernel
theorem d1_25 : decode prog_16_method_6_code 25 = .ok (.lstore_n 2, 1) := by decide +kernel
theorem d1_26 : decode prog_16_method_6_code 26 = .ok (.lload_n 2, 1) := by decide +kernel
theorem d1_27 : decode prog_16_method_6_code 27 = .ok (.lload_n 2, 1) := by decide +kernel
theorem d1_28 : decode prog_16_method_6_code 28 = .ok (.bipush 33, 2) := by decide +kernel
theorem d1_30 : decode prog_16_method_6_code 30 = .ok (.lushr, 1) := by decide +kernel
theorem d1_31 : decode prog_16_method_6_code 31 = .ok (.lxor, 1) := by decide +kernel
theorem d1_32 : decode prog_16_method_6_code 32 = .ok (.lreturn, 1) := by decide +kernel
theorem ef_1 (m : MethodId) (q : Int64) : entryFrame m #[(.long q)] 4 = mkF m 0 #[.val (.long q), .second, .unset, .unset] [] := by first | (simp [entryFrame, mkF, argsToLocals, Value.category]; done) | rfl
theorem pn_1 : plainName own_A = true := by first | decide +kernel | (simp [plainName, overriddenIn]; done)
set_option maxRecDepth 65536 in
set_option maxHeartbeats 40000000 in
theorem rm1 (l : Launch) (Z : State) (a0 : Array Value) (hw : ∀ d ∈ tables_1, d.before a0 Z = true) (ws : List Jvm.Cond) (q : Int64) (h0 : Heap) (n0 : Nat) (Z0 : n0 ≤ h0.size) :
    MetFree l (⟨own_A, "finalMix", "(J)J"⟩ : MethodName) (head1 (Jvm.Cond.code (⟨own_A, "finalMix", "(J)J"⟩ : MethodName) prog_16_method_6_code 4 (some .long) :: ws) ({ frames := 0, cells := 0, slots := 0, locals := 0 } : Room)) (fun a_ U_ => a_ = #[(.long q)] ∧ Z.Warmed39 U_.vm ∧ U_.heap = h0) (fun _ _ _ _ _ => True) (fun _ U_ o_ W_ => ∃ v_ L_, o_ = .returned v_ ∧ own_QL (own_fm q) h0 n0 v_ W_.heap L_ ∧ FrameEnd U_ o_ W_ L_ ({ frames := 0, cells := 0, slots := 0, locals := 0 } : Room).cells ({ frames := 0, cells := 0, slots := 0, locals := 0 } : Room).slots) := by
  refine MetFree.of_bodySF (plainFor_of_name pn_1) hisR ?_
  intro p e s m args below meth c s₁ Bd hml0 hP hK
  obtain ⟨rfl, hZ, hh⟩ := hP
  have hx := Bd.exec
  have hby := Bd.bytes
  have hml : c.maxLocals = 4 := hml0
  have hown : s.vm.findClass own_A = some m.cls := by have z := findClass_of_methodNamed Bd.named; exact z
  have hnm := (name_of_methodNamed Bd.named Bd.method).1
  have X0 : Stand p l e ({ frames := 0, cells := 0, slots := 0, locals := 0 } : Room) s m #[(.long q)] below meth c s₁ [] 0 0 := Stand.of_body Bd
  have e0 : s₁.heap = h0 := by rw [← hh, Bd.state]; rfl
  have N0 := Fr.nil n0
  obtain ⟨G, hG, hst, hend⟩ := own_abs p e below s (own_QL (own_fm q) h0 n0) ({ frames := 0, cells := 0, slots := 0, locals := 0 } : Room).cells ({ frames := 0, cells := 0, slots := 0, locals := 0 } : Room).slots
  refine hG (S := s₁.setTop (entryFrame m #[(.long q)] 4)) (hst (fun t k => castTop (ef_1 m q) k) ?_)
  show G (s₁.setTop (mkF m 0 #[.val (.long q), .second, .unset, .unset] []))
  refine hst (fun _ kt => XS.lloadN X0.here hx rfl (hb hby d1_0) rfl kt) ?_
  show G (s₁.setTop (mkF m 1 #[.val (.long q), .second, .unset, .unset] [(.long q)]))
  refine hst (fun _ kt => XS.lloadN X0.here hx rfl (hb hby d1_1) rfl kt) ?_
  show G (s₁.setTop (mkF m 2 #[.val (.long q), .second, .unset, .unset] [(.long q), (.long q)]))
  refine hst (fun _ kt => XS.bipush X0.here hx rfl (hb hby d1_2) kt) ?_
  show G (s₁.setTop (mkF m 4 #[.val (.long q), .second, .unset, .unset] [(.int (33 : Int32)), (.long q), (.long q)]))
  refine hst (fun _ kt => XS.lushr X0.here hx rfl (hb hby d1_4) rfl kt) ?_
  show G (s₁.setTop (mkF m 5 #[.val (.long q), .second, .unset, .unset] [(.long ((q.toUInt64 >>> ((33 : Int32) &&& 0x3f).toInt64.toUInt64).toInt64)), (.long q)]))
  refine hst (fun _ kt => XS.lxor X0.here hx rfl (hb hby d1_5) rfl kt) ?_
  show G (s₁.setTop (mkF m 6 #[.val (.long q), .second, .unset, .unset] [(.long (q ^^^ ((q.toUInt64 >>> ((33 : Int32) &&& 0x3f).toInt64.toUInt64).toInt64)))]))
  show G (s₁.setTop (mkF m 6 #[.val (.long q), .second, .unset, .unset] [(.long (own_x33 q))]))
  refine hst (fun _ kt => XS.lstoreN X0.here hx rfl (hb hby d1_6) rfl (l' := #[.val (.long q), .second, .val (.long (own_x33 q)), .second]) rfl kt) ?_
  show G (s₁.setTop (mkF m 7 #[.val (.long q), .second, .val (.long (own_x33 q)), .second] []))
  refine hst (fun _ kt => XS.lloadN X0.here hx rfl (hb hby d1_7) rfl kt) ?_
  show G (s₁.setTop (mkF m 8 #[.val (.long q), .second, .val (.long (own_x33 q)), .second] [(.long (own_x33 q))]))
  refine hst (X0.ldc2Long hx hown (mvT hZ (own_w4 hw)) (g := (mkF m 8 #[.val (.long q), .second, .val (.long (own_x33 q)), .second] [(.long (own_x33 q))])) rfl (hb hby d1_8)) ?_
  show G (s₁.setTop (mkF m 11 #[.val (.long q), .second, .val (.long (own_x33 q)), .second] [(.long (-49064778989728563 : Int64)), (.long (own_x33 q))]))
  refine hst (fun _ kt => XS.lmul X0.here hx rfl (hb hby d1_11) rfl kt) ?_
  show G (s₁.setTop (mkF m 12 #[.val (.long q), .second, .val (.long (own_x33 q)), .second] [(.long ((own_x33 q) * (-49064778989728563 : Int64)))]))
  refine hst (fun _ kt => XS.lstoreN X0.here hx rfl (hb hby d1_12) rfl (l' := #[.val (.long q), .second, .val (.long ((own_x33 q) * (-49064778989728563 : Int64))), .second]) rfl kt) ?_
  show G (s₁.setTop (mkF m 13 #[.val (.long q), .second, .val (.long ((own_x33 q) * (-49064778989728563 : Int64))), .second] []))
  refine hst (fun _ kt => XS.lloadN X0.here hx rfl (hb hby d1_13) rfl kt) ?_
  show G (s₁.setTop (mkF m 14 #[.val (.long q), .second, .val (.long ((own_x33 q) * (-49064778989728563 : Int64))), .second] [(.long ((own_x33 q) * (-49064778989728563 : Int64)))]))
  refine hst (fun _ kt => XS.lloadN X0.here hx rfl (hb hby d1_14) rfl kt) ?_
  show G (s₁.setTop (mkF m 15 #[.val (.long q), .second, .val (.long ((own_x33 q) * (-49064778989728563 : Int64))), .second] [(.long ((own_x33 q) * (-49064778989728563 : Int64))), (.long ((own_x33 q) * (-49064778989728563 : Int64)))]))
  refine hst (fun _ kt => XS.bipush X0.here hx rfl (hb hby d1_15) kt) ?_
  show G (s₁.setTop (mkF m 17 #[.val (.long q), .second, .val (.long ((own_x33 q) * (-49064778989728563 : Int64))), .second] [(.int (33 : Int32)), (.long ((own_x33 q) * (-49064778989728563 : Int64))), (.long ((own_x33 q) * (-49064778989728563 : Int64)))]))
  refine hst (fun _ kt => XS.lushr X0.here hx rfl (hb hby d1_17) rfl kt) ?_
  show G (s₁.setTop (mkF m 18 #[.val (.long q), .second, .val (.long ((own_x33 q) * (-49064778989728563 : Int64))), .second] [(.long ((((own_x33 q) * (-49064778989728563 : Int64)).toUInt64 >>> ((33 : Int32) &&& 0x3f).toInt64.toUInt64).toInt64)), (.long ((own_x33 q) * (-49064778989728563 : Int64)))]))
  refine hst (fun _ kt => XS.lxor X0.here hx rfl (hb hby d1_18) rfl kt) ?_
  show G (s₁.setTop (mkF m 19 #[.val (.long q), .second, .val (.long ((own_x33 q) * (-49064778989728563 : Int64))), .second] [(.long (((own_x33 q) * (-49064778989728563 : Int64)) ^^^ ((((own_x33 q) * (-49064778989728563 : Int64)).toUInt64 >>> ((33 : Int32) &&& 0x3f).toInt64.toUInt64).toInt64)))]))
  show G (s₁.setTop (mkF m 19 #[.val (.long q), .second, .val (.long ((own_x33 q) * (-49064778989728563 : Int64))), .second] [(.long (own_x33 ((own_x33 q) * (-49064778989728563 : Int64))))]))
  refine hst (fun _ kt => XS.lstoreN X0.here hx rfl (hb hby d1_19) rfl (l' := #[.val (.long q), .second, .val (.long (own_x33 ((own_x33 q) * (-49064778989728563 : Int64)))), .second]) rfl kt) ?_
  show G (s₁.setTop (mkF m 20 #[.val (.long q), .second, .val (.long (own_x33 ((own_x33 q) * (-49064778989728563 : Int64)))), .second] []))
  refine hst (fun _ kt => XS.lloadN X0.here hx rfl (hb hby d1_20) rfl kt) ?_
  show G (s₁.setTop (mkF m 21 #[.val (.long q), .second, .val (.long (own_x33 ((own_x33 q) * (-49064778989728563 : Int64)))), .second] [(.long (own_x33 ((own_x33 q) * (-49064778989728563 : Int64))))]))
  refine hst (X0.ldc2Long hx hown (mvT hZ (own_w5 hw)) (g := (mkF m 21 #[.val (.long q), .second, .val (.long (own_x33 ((own_x33 q) * (-49064778989728563 : Int64)))), .second] [(.long (own_x33 ((own_x33 q) * (-49064778989728563 : Int64))))])) rfl (hb hby d1_21)) ?_
  show G (s₁.setTop (mkF m 24 #[.val (.long q), .second, .val (.long (own_x33 ((own_x33 q) * (-49064778989728563 : Int64)))), .second] [(.long (-4265267296055464877 : Int64)), (.long (own_x33 ((own_x33 q) * (-49064778989728563 : Int64))))]))
  refine hst (fun _ kt => XS.lmul X0.here hx rfl (hb hby d1_24) rfl kt) ?_
  show G (s₁.setTop (mkF m 25 #[.val (.long q), .second, .val (.long (own_x33 ((own_x33 q) * (-49064778989728563 : Int64)))), .second] [(.long ((own_x33 ((own_x33 q) * (-49064778989728563 : Int64))) * (-4265267296055464877 : Int64)))]))
  refine hst (fun _ kt => XS.lstoreN X0.here hx rfl (hb hby d1_25) rfl (l' := #[.val (.long q), .second, .val (.long ((own_x33 ((own_x33 q) * (-49064778989728563 : Int64))) * (-4265267296055464877 : Int64))), .second]) rfl kt) ?_
  show G (s₁.setTop (mkF m 26 #[.val (.long q), .second, .val (.long ((own_x33 ((own_x33 q) * (-49064778989728563 : Int64))) * (-4265267296055464877 : Int64))), .second] []))
  refine hst (fun _ kt => XS.lloadN X0.here hx rfl (hb hby d1_26) rfl kt) ?_
  show G (s₁.setTop (mkF m 27 #[.val (.long q), .second, .val (.long ((own_x33 ((own_x33 q) * (-49064778989728563 : Int64))) * (-4265267296055464877 : Int64))), .second] [(.long ((own_x33 ((own_x33 q) * (-49064778989728563 : Int64))) * (-4265267296055464877 : Int64)))]))
  refine hst (fun _ kt => XS.lloadN X0.here hx rfl (hb hby d1_27) rfl kt) ?_
  show G (s₁.setTop (mkF m 28 #[.val (.long q), .second, .val (.long ((own_x33 ((own_x33 q) * (-49064778989728563 : Int64))) * (-4265267296055464877 : Int64))), .second] [(.long ((own_x33 ((own_x33 q) * (-49064778989728563 : Int64))) * (-4265267296055464877 : Int64))), (.long ((own_x33 ((own_x33 q) * (-49064778989728563 : Int64))) * (-4265267296055464877 : Int64)))]))
  refine hst (fun _ kt => XS.bipush X0.here hx rfl (hb hby d1_28) kt) ?_
  show G (s₁.setTop (mkF m 30 #[.val (.long q), .second, .val (.long ((own_x33 ((own_x33 q) * (-49064778989728563 : Int64))) * (-4265267296055464877 : Int64))), .second] [(.int (33 : Int32)), (.long ((own_x33 ((own_x33 q) * (-49064778989728563 : Int64))) * (-4265267296055464877 : Int64))), (.long ((own_x33 ((own_x33 q) * (-49064778989728563 : Int64))) * (-4265267296055464877 : Int64)))]))
  refine hst (fun _ kt => XS.lushr X0.here hx rfl (hb hby d1_30) rfl kt) ?_
  show G (s₁.setTop (mkF m 31 #[.val (.long q), .second, .val (.long ((own_x33 ((own_x33 q) * (-49064778989728563 : Int64))) * (-4265267296055464877 : Int64))), .second] [(.long ((((own_x33 ((own_x33 q) * (-49064778989728563 : Int64))) * (-4265267296055464877 : Int64)).toUInt64 >>> ((33 : Int32) &&& 0x3f).toInt64.toUInt64).toInt64)), (.long ((own_x33 ((own_x33 q) * (-49064778989728563 : Int64))) * (-4265267296055464877 : Int64)))]))
  refine hst (fun _ kt => XS.lxor X0.here hx rfl (hb hby d1_31) rfl kt) ?_
  show G (s₁.setTop (mkF m 32 #[.val (.long q), .second, .val (.long ((own_x33 ((own_x33 q) * (-49064778989728563 : Int64))) * (-4265267296055464877 : Int64))), .second] [(.long (((own_x33 ((own_x33 q) * (-49064778989728563 : Int64))) * (-4265267296055464877 : Int64)) ^^^ ((((own_x33 ((own_x33 q) * (-49064778989728563 : Int64))) * (-4265267296055464877 : Int64)).toUInt64 >>> ((33 : Int32) &&& 0x3f).toInt64.toUInt64).toInt64)))]))
  show G (s₁.setTop (mkF m 32 #[.val (.long q), .second, .val (.long ((own_x33 ((own_x33 q) * (-49064778989728563 : Int64))) * (-4265267296055464877 : Int64))), .second] [(.long (own_x33 ((own_x33 ((own_x33 q) * (-49064778989728563 : Int64))) * (-4265267296055464877 : Int64))))]))
  exact hend (own_goRet X0 hx Bd.returns rfl (Or.inr (Or.inl ⟨rfl, rfl, _, rfl⟩)) (hb hby d1_32) Bd.notSynchronized (by rw [e0]; exact ⟨rfl, N0, rfl⟩) (by decide) (by decide))
theorem d2_0 : decode method_2_code 0 = .ok (.lload_n 0, 1) := by decide +kernel
theorem d2_1 : decode method_2_code 1 = .ok (.lload_n 0, 1) := by decide +kernel
theorem d2_2 : decode method_2_code 2 = .ok (.bipush 33, 2) := by decide +kernel
theorem d2_4 : decode method_2_code 4 = .ok (.lushr, 1) := by decide +kernel
theorem d2_5 : decode method_2_code 5 = .ok (.lxor, 1) := by decide +kernel
theorem d2_6 : decode method_2_code 6 = .ok (.lstore_n 2, 1) := by decide +kernel
theorem d2_7 : decode method_2_code 7 = .ok (.lload_n 2, 1) := by decide +kernel
theorem d2_8 : decode method_2_code 8 = .ok (.ldc2_w 7, 3) := by decide +kernel
theorem d2_11 : decode method_2_code 11 = .ok (.lmul, 1) := by decide +kernel
theorem d2_12 : decode method_2_code 12 = .ok (.lstore_n 2, 1) := by decide +kernel
theorem d2_13 : decode method_2_code 13 = .ok (.lload_n 2, 1) := by decide +kernel
theorem d2_14 : decode method_2_code 14 = .ok (.lload_n 2, 1) := by decide +kernel
theorem d2_15 : decode method_2_code 15 = .ok (.bipush 33, 2) := by decide +kernel
theorem d2_17 : decode method_2_code 17 = .ok (.lushr, 1) := by decide +kernel
theorem d2_18 : decode method_2_code 18 = .ok (.lxor, 1) := by decide +kernel
theorem d2_19 : decode method_2_code 19 = .ok (.lstore_n 2, 1) := by decide +kernel
theorem d2_20 : decode method_2_code 20 = .ok (.lload_n 2, 1) := by decide +kernel
theorem d2_21 : decode method_2_code 21 = .ok (.ldc2_w 9, 3) := by decide +kernel
theorem d2_24 : decode method_2_code 24 = .ok (.lmul, 1) := by decide +kernel
theorem d2_25 : decode method_2_code 25 = .ok (.lstore_n 2, 1) := by decide +kernel
theorem d2_26 : decode method_2_code 26 = .ok (.lload_n 2, 1) := by decide +kernel
theorem d2_27 : decode method_2_code 27 = .ok (.lload_n 2, 1) := by decide +kernel
theorem d2_28 : decode method_2_code 28 = .ok (.bipush 33, 2) := by decide +kernel
theorem d2_30 : decode method_2_code 30 = .ok (.lushr, 1) := by decide +kernel
theorem d2_31 : decode method_2_code 31 = .ok (.lxor, 1) := by decide +kernel
theorem d2_32 : decode method_2_code 32 = .ok (.lreturn, 1) := by decide +kernel
theorem ef_2 (m : MethodId) (q : Int64) : entryFrame m #[(.long q)] 4 = mkF m 0 #[.val (.long q), .second, .unset, .unset] [] := by first | (simp [entryFrame, mkF, argsToLocals, Value.category]; done) | rfl
theorem pn_2 : plainName x.cls = true := by first | decide +kernel | (simp [plainName, overriddenIn]; done)
set_option maxRecDepth 65536 in
set_option maxHeartbeats 40000000 in
theorem rm2 (l : Launch) (Z : State) (a0 : Array Value) (hw : ∀ d ∈ tables_1, d.before a0 Z = true) (ws : List Jvm.Cond) (q : Int64) (h0 : Heap) (n0 : Nat) (Z0 : n0 ≤ h0.size) :
    MetFree l (⟨x.cls, "unmix", "(J)J"⟩ : MethodName) (head1 (Jvm.Cond.code (⟨x.cls, "unmix", "(J)J"⟩ : MethodName) method_2_code 4 (some .long) :: ws) ({ frames := 0, cells := 0, slots := 0, locals := 0 } : Room)) (fun a_ U_ => a_ = #[(.long q)] ∧ Z.Warmed39 U_.vm ∧ U_.heap = h0) (fun _ _ _ _ _ => True) (fun _ U_ o_ W_ => ∃ v_ L_, o_ = .returned v_ ∧ own_QL (own_um q) h0 n0 v_ W_.heap L_ ∧ FrameEnd U_ o_ W_ L_ ({ frames := 0, cells := 0, slots := 0, locals := 0 } : Room).cells ({ frames := 0, cells := 0, slots := 0, locals := 0 } : Room).slots) := by
  refine MetFree.of_bodySF (plainFor_of_name pn_2) hisR ?_
  intro p e s m args below meth c s₁ Bd hml0 hP hK
  obtain ⟨rfl, hZ, hh⟩ := hP
  have hx := Bd.exec
  have hby := Bd.bytes
  have hml : c.maxLocals = 4 := hml0
  have hown : s.vm.findClass x.cls = some m.cls := by have z := findClass_of_methodNamed Bd.named; exact z
  have hnm := (name_of_methodNamed Bd.named Bd.method).1
  have X0 : Stand p l e ({ frames := 0, cells := 0, slots := 0, locals := 0 } : Room) s m #[(.long q)] below meth c s₁ [] 0 0 := Stand.of_body Bd
  have e0 : s₁.heap = h0 := by rw [← hh, Bd.state]; rfl
  have N0 := Fr.nil n0
  obtain ⟨G, hG, hst, hend⟩ := own_abs p e below s (own_QL (own_um q) h0 n0) ({ frames := 0, cells := 0, slots := 0, locals := 0 } : Room).cells ({ frames := 0, cells := 0, slots := 0, locals := 0 } : Room).slots
  refine hG (S := s₁.setTop (entryFrame m #[(.long q)] 4)) (hst (fun t k => castTop (ef_2 m q) k) ?_)
  show G (s₁.setTop (mkF m 0 #[.val (.long q), .second, .unset, .unset] []))
  refine hst (fun _ kt => XS.lloadN X0.here hx rfl (hb hby d2_0) rfl kt) ?_
  show G (s₁.setTop (mkF m 1 #[.val (.long q), .second, .unset, .unset] [(.long q)]))
  refine hst (fun _ kt => XS.lloadN X0.here hx rfl (hb hby d2_1) rfl kt) ?_
  show G (s₁.setTop (mkF m 2 #[.val (.long q), .second, .unset, .unset] [(.long q), (.long q)]))
  refine hst (fun _ kt => XS.bipush X0.here hx rfl (hb hby d2_2) kt) ?_
  show G (s₁.setTop (mkF m 4 #[.val (.long q), .second, .unset, .unset] [(.int (33 : Int32)), (.long q), (.long q)]))
  refine hst (fun _ kt => XS.lushr X0.here hx rfl (hb hby d2_4) rfl kt) ?_
  show G (s₁.setTop (mkF m 5 #[.val (.long q), .second, .unset, .unset] [(.long ((q.toUInt64 >>> ((33 : Int32) &&& 0x3f).toInt64.toUInt64).toInt64)), (.long q)]))
  refine hst (fun _ kt => XS.lxor X0.here hx rfl (hb hby d2_5) rfl kt) ?_
  show G (s₁.setTop (mkF m 6 #[.val (.long q), .second, .unset, .unset] [(.long (q ^^^ ((q.toUInt64 >>> ((33 : Int32) &&& 0x3f).toInt64.toUInt64).toInt64)))]))
  show G (s₁.setTop (mkF m 6 #[.val (.long q), .second, .unset, .unset] [(.long (own_x33 q))]))
  refine hst (fun _ kt => XS.lstoreN X0.here hx rfl (hb hby d2_6) rfl (l' := #[.val (.long q), .second, .val (.long (own_x33 q)), .second]) rfl kt) ?_
  show G (s₁.setTop (mkF m 7 #[.val (.long q), .second, .val (.long (own_x33 q)), .second] []))
  refine hst (fun _ kt => XS.lloadN X0.here hx rfl (hb hby d2_7) rfl kt) ?_
  show G (s₁.setTop (mkF m 8 #[.val (.long q), .second, .val (.long (own_x33 q)), .second] [(.long (own_x33 q))]))
  refine hst (X0.ldc2Long hx hown (mvT hZ (own_w10 hw)) (g := (mkF m 8 #[.val (.long q), .second, .val (.long (own_x33 q)), .second] [(.long (own_x33 q))])) rfl (hb hby d2_8)) ?_
  show G (s₁.setTop (mkF m 11 #[.val (.long q), .second, .val (.long (own_x33 q)), .second] [(.long (-7154897129451604005 : Int64)), (.long (own_x33 q))]))
  refine hst (fun _ kt => XS.lmul X0.here hx rfl (hb hby d2_11) rfl kt) ?_
  show G (s₁.setTop (mkF m 12 #[.val (.long q), .second, .val (.long (own_x33 q)), .second] [(.long ((own_x33 q) * (-7154897129451604005 : Int64)))]))
  refine hst (fun _ kt => XS.lstoreN X0.here hx rfl (hb hby d2_12) rfl (l' := #[.val (.long q), .second, .val (.long ((own_x33 q) * (-7154897129451604005 : Int64))), .second]) rfl kt) ?_
  show G (s₁.setTop (mkF m 13 #[.val (.long q), .second, .val (.long ((own_x33 q) * (-7154897129451604005 : Int64))), .second] []))
  refine hst (fun _ kt => XS.lloadN X0.here hx rfl (hb hby d2_13) rfl kt) ?_
  show G (s₁.setTop (mkF m 14 #[.val (.long q), .second, .val (.long ((own_x33 q) * (-7154897129451604005 : Int64))), .second] [(.long ((own_x33 q) * (-7154897129451604005 : Int64)))]))
  refine hst (fun _ kt => XS.lloadN X0.here hx rfl (hb hby d2_14) rfl kt) ?_
  show G (s₁.setTop (mkF m 15 #[.val (.long q), .second, .val (.long ((own_x33 q) * (-7154897129451604005 : Int64))), .second] [(.long ((own_x33 q) * (-7154897129451604005 : Int64))), (.long ((own_x33 q) * (-7154897129451604005 : Int64)))]))
  refine hst (fun _ kt => XS.bipush X0.here hx rfl (hb hby d2_15) kt) ?_
  show G (s₁.setTop (mkF m 17 #[.val (.long q), .second, .val (.long ((own_x33 q) * (-7154897129451604005 : Int64))), .second] [(.int (33 : Int32)), (.long ((own_x33 q) * (-7154897129451604005 : Int64))), (.long ((own_x33 q) * (-7154897129451604005 : Int64)))]))
  refine hst (fun _ kt => XS.lushr X0.here hx rfl (hb hby d2_17) rfl kt) ?_
  show G (s₁.setTop (mkF m 18 #[.val (.long q), .second, .val (.long ((own_x33 q) * (-7154897129451604005 : Int64))), .second] [(.long ((((own_x33 q) * (-7154897129451604005 : Int64)).toUInt64 >>> ((33 : Int32) &&& 0x3f).toInt64.toUInt64).toInt64)), (.long ((own_x33 q) * (-7154897129451604005 : Int64)))]))
  refine hst (fun _ kt => XS.lxor X0.here hx rfl (hb hby d2_18) rfl kt) ?_
  show G (s₁.setTop (mkF m 19 #[.val (.long q), .second, .val (.long ((own_x33 q) * (-7154897129451604005 : Int64))), .second] [(.long (((own_x33 q) * (-7154897129451604005 : Int64)) ^^^ ((((own_x33 q) * (-7154897129451604005 : Int64)).toUInt64 >>> ((33 : Int32) &&& 0x3f).toInt64.toUInt64).toInt64)))]))
  show G (s₁.setTop (mkF m 19 #[.val (.long q), .second, .val (.long ((own_x33 q) * (-7154897129451604005 : Int64))), .second] [(.long (own_x33 ((own_x33 q) * (-7154897129451604005 : Int64))))]))
  refine hst (fun _ kt => XS.lstoreN X0.here hx rfl (hb hby d2_19) rfl (l' := #[.val (.long q), .second, .val (.long (own_x33 ((own_x33 q) * (-7154897129451604005 : Int64)))), .second]) rfl kt) ?_
  show G (s₁.setTop (mkF m 20 #[.val (.long q), .second, .val (.long (own_x33 ((own_x33 q) * (-7154897129451604005 : Int64)))), .second] []))
  refine hst (fun _ kt => XS.lloadN X0.here hx rfl (hb hby d2_20) rfl kt) ?_
  show G (s₁.setTop (mkF m 21 #[.val (.long q), .second, .val (.long (own_x33 ((own_x33 q) * (-7154897129451604005 : Int64)))), .second] [(.long (own_x33 ((own_x33 q) * (-7154897129451604005 : Int64))))]))
  refine hst (X0.ldc2Long hx hown (mvT hZ (own_w11 hw)) (g := (mkF m 21 #[.val (.long q), .second, .val (.long (own_x33 ((own_x33 q) * (-7154897129451604005 : Int64)))), .second] [(.long (own_x33 ((own_x33 q) * (-7154897129451604005 : Int64))))])) rfl (hb hby d2_21)) ?_
  show G (s₁.setTop (mkF m 24 #[.val (.long q), .second, .val (.long (own_x33 ((own_x33 q) * (-7154897129451604005 : Int64)))), .second] [(.long (5725274745694666757 : Int64)), (.long (own_x33 ((own_x33 q) * (-7154897129451604005 : Int64))))]))
  refine hst (fun _ kt => XS.lmul X0.here hx rfl (hb hby d2_24) rfl kt) ?_
  show G (s₁.setTop (mkF m 25 #[.val (.long q), .second, .val (.long (own_x33 ((own_x33 q) * (-7154897129451604005 : Int64)))), .second] [(.long ((own_x33 ((own_x33 q) * (-7154897129451604005 : Int64))) * (5725274745694666757 : Int64)))]))
  refine hst (fun _ kt => XS.lstoreN X0.here hx rfl (hb hby d2_25) rfl (l' := #[.val (.long q), .second, .val (.long ((own_x33 ((own_x33 q) * (-7154897129451604005 : Int64))) * (5725274745694666757 : Int64))), .second]) rfl kt) ?_
  show G (s₁.setTop (mkF m 26 #[.val (.long q), .second, .val (.long ((own_x33 ((own_x33 q) * (-7154897129451604005 : Int64))) * (5725274745694666757 : Int64))), .second] []))
  refine hst (fun _ kt => XS.lloadN X0.here hx rfl (hb hby d2_26) rfl kt) ?_
  show G (s₁.setTop (mkF m 27 #[.val (.long q), .second, .val (.long ((own_x33 ((own_x33 q) * (-7154897129451604005 : Int64))) * (5725274745694666757 : Int64))), .second] [(.long ((own_x33 ((own_x33 q) * (-7154897129451604005 : Int64))) * (5725274745694666757 : Int64)))]))
  refine hst (fun _ kt => XS.lloadN X0.here hx rfl (hb hby d2_27) rfl kt) ?_
  show G (s₁.setTop (mkF m 28 #[.val (.long q), .second, .val (.long ((own_x33 ((own_x33 q) * (-7154897129451604005 : Int64))) * (5725274745694666757 : Int64))), .second] [(.long ((own_x33 ((own_x33 q) * (-7154897129451604005 : Int64))) * (5725274745694666757 : Int64))), (.long ((own_x33 ((own_x33 q) * (-7154897129451604005 : Int64))) * (5725274745694666757 : Int64)))]))
  refine hst (fun _ kt => XS.bipush X0.here hx rfl (hb hby d2_28) kt) ?_
  show G (s₁.setTop (mkF m 30 #[.val (.long q), .second, .val (.long ((own_x33 ((own_x33 q) * (-7154897129451604005 : Int64))) * (5725274745694666757 : Int64))), .second] [(.int (33 : Int32)), (.long ((own_x33 ((own_x33 q) * (-7154897129451604005 : Int64))) * (5725274745694666757 : Int64))), (.long ((own_x33 ((own_x33 q) * (-7154897129451604005 : Int64))) * (5725274745694666757 : Int64)))]))
  refine hst (fun _ kt => XS.lushr X0.here hx rfl (hb hby d2_30) rfl kt) ?_
  show G (s₁.setTop (mkF m 31 #[.val (.long q), .second, .val (.long ((own_x33 ((own_x33 q) * (-7154897129451604005 : Int64))) * (5725274745694666757 : Int64))), .second] [(.long ((((own_x33 ((own_x33 q) * (-7154897129451604005 : Int64))) * (5725274745694666757 : Int64)).toUInt64 >>> ((33 : Int32) &&& 0x3f).toInt64.toUInt64).toInt64)), (.long ((own_x33 ((own_x33 q) * (-7154897129451604005 : Int64))) * (5725274745694666757 : Int64)))]))
  refine hst (fun _ kt => XS.lxor X0.here hx rfl (hb hby d2_31) rfl kt) ?_
  show G (s₁.setTop (mkF m 32 #[.val (.long q), .second, .val (.long ((own_x33 ((own_x33 q) * (-7154897129451604005 : Int64))) * (5725274745694666757 : Int64))), .second] [(.long (((own_x33 ((own_x33 q) * (-7154897129451604005 : Int64))) * (5725274745694666757 : Int64)) ^^^ ((((own_x33 ((own_x33 q) * (-7154897129451604005 : Int64))) * (5725274745694666757 : Int64)).toUInt64 >>> ((33 : Int32) &&& 0x3f).toInt64.toUInt64).toInt64)))]))
  show G (s₁.setTop (mkF m 32 #[.val (.long q), .second, .val (.long ((own_x33 ((own_x33 q) * (-7154897129451604005 : Int64))) * (5725274745694666757 : Int64))), .second] [(.long (own_x33 ((own_x33 ((own_x33 q) * (-7154897129451604005 : Int64))) * (5725274745694666757 : Int64))))]))
  exact hend (own_goRet X0 hx Bd.returns rfl (Or.inr (Or.inl ⟨rfl, rfl, _, rfl⟩)) (hb hby d2_32) Bd.notSynchronized (by rw [e0]; exact ⟨rfl, N0, rfl⟩) (by decide) (by decide))
def own_Q0 (n0 : Nat) (v : Option Value) (h : Heap) (L : List Loc) : Prop := v = some (.int (1 : Int32)) ∧ Fr n0 L
theorem ef_0 (m : MethodId) (q : Int64) : entryFrame m #[(.long q)] maxLocals = mkF m 0 #[.val (.long q), .second, .unset, .unset, .unset, .unset] [] := by first | (simp [entryFrame, mkF, argsToLocals, Value.category, maxLocals]; done) | rfl
theorem pn_0 : plainName x.cls = true := by first | decide +kernel | (simp [plainName, overriddenIn]; done)
set_option maxRecDepth 65536 in
set_option maxHeartbeats 40000000 in
theorem rm0 (l : Launch) (Z : State) (a0 : Array Value) (hw : ∀ d ∈ tables_1, d.before a0 Z = true) (ws : List Jvm.Cond) (q : Int64) (h0 : Heap) (n0 : Nat) (Z0 : n0 ≤ h0.size) :
    MetFree l x (head1 (Jvm.Cond.code x code maxLocals ret :: ws) room_1) (fun a_ U_ => a_ = #[(.long q)] ∧ Z.Warmed39 U_.vm ∧ U_.heap = h0) (fun _ _ _ _ _ => True) (fun _ U_ o_ W_ => ∃ v_ L_, o_ = .returned v_ ∧ own_Q0 n0 v_ W_.heap L_ ∧ FrameEnd U_ o_ W_ L_ room_1.cells room_1.slots) := by
  refine MetFree.of_bodySF (plainFor_of_name pn_0) hisR ?_
  intro p e s m args below meth c s₁ Bd hml0 hP hK
  obtain ⟨rfl, hZ, hh⟩ := hP
  have hx := Bd.exec
  have hby := Bd.bytes
  have hml : c.maxLocals = 6 := hml0
  have hown : s.vm.findClass x.cls = some m.cls := by have z := findClass_of_methodNamed Bd.named; exact z
  have hnm := (name_of_methodNamed Bd.named Bd.method).1
  have X0 : Stand p l e room_1 s m #[(.long q)] below meth c s₁ [] 0 0 := Stand.of_body Bd
  have e0 : s₁.heap = h0 := by rw [← hh, Bd.state]; rfl
  have N0 := Fr.nil n0
  obtain ⟨G, hG, hst, hend⟩ := own_abs p e below s (own_Q0 n0) room_1.cells room_1.slots
  refine hG (S := s₁.setTop (entryFrame m #[(.long q)] maxLocals)) (hst (fun t k => castTop (ef_0 m q) k) ?_)
  show G (s₁.setTop (mkF m 0 #[.val (.long q), .second, .unset, .unset, .unset, .unset] []))
  refine hst (fun _ kt => XS.lloadN X0.here hx rfl (hb hby at_0) rfl kt) ?_
  show G (s₁.setTop (mkF m 1 #[.val (.long q), .second, .unset, .unset, .unset, .unset] [(.long q)]))
  obtain ⟨_, _, ⟨T_1, L_1, k_1, n_1⟩, -, X_1, ⟨Lc_1, hQ_1, l_1, y_1, z_1⟩, st_1⟩ := Jvm.LawKit.callS X0 hx (y := (⟨own_A, "finalMix", "(J)J"⟩ : MethodName)) hown (mvT hZ (own_w0 hw)) (mvT hZ (own_w1 hw)) (mvT hZ (own_w2 hw)) (mvT hZ (own_w3 hw)) (by decide) (backOf (W := 0) (rm1 l Z a0 hw [] q  h0 n0 Z0) hZ (own_w3 hw) (own_w2 hw) (by decide) (by decide)) (g := (mkF m 1 #[.val (.long q), .second, .unset, .unset, .unset, .unset] [(.long q)])) rfl (by rw [hml]; rfl) (argsL := [(.long q)]) (rest := []) (lenOf pd_0 rfl) rfl (by show 2 * 0 + _ ≤ _; exact Nat.le_of_eq rfl) (hb hby at_1) (fun _ _ => ⟨rfl, e0, (by decide : 0 + 0 ≤ _), (by decide : 0 + 0 ≤ _)⟩)
  dsimp only [Pt.U, Pt.locs, Pt.cells, Pt.slots] at X_1 l_1 y_1 z_1 st_1 hQ_1
  subst l_1 y_1 z_1
  obtain ⟨rfl, N_1q, eh_1⟩ := hQ_1
  have N_1 := Fr.app N0 N_1q
  refine hst (fun _ kt => st_1 _ kt) ?_
  show G (T_1.setTop (mkF m 4 #[.val (.long q), .second, .unset, .unset, .unset, .unset] [(.long (own_fm q))]))
  refine hst (fun _ kt => XS.lstoreN X_1.here hx rfl (hb hby at_4) rfl (l' := #[.val (.long q), .second, .val (.long (own_fm q)), .second, .unset, .unset]) rfl kt) ?_
  show G (T_1.setTop (mkF m 5 #[.val (.long q), .second, .val (.long (own_fm q)), .second, .unset, .unset] []))
  refine hst (fun _ kt => XS.lloadN X_1.here hx rfl (hb hby at_5) rfl kt) ?_
  show G (T_1.setTop (mkF m 6 #[.val (.long q), .second, .val (.long (own_fm q)), .second, .unset, .unset] [(.long q)]))
  obtain ⟨_, _, ⟨T_2, L_2, k_2, n_2⟩, -, X_2, ⟨Lc_2, hQ_2, l_2, y_2, z_2⟩, st_2⟩ := Jvm.LawKit.callS X_1 hx (y := (⟨x.cls, "unmix", "(J)J"⟩ : MethodName)) hown (mvT hZ (own_w6 hw)) (mvT hZ (own_w7 hw)) (mvT hZ (own_w8 hw)) (mvT hZ (own_w9 hw)) (by decide) (backOf (W := 0) (rm2 l Z a0 hw [] q  h0 n0 Z0) hZ (own_w9 hw) (own_w8 hw) (by decide) (by decide)) (g := (mkF m 6 #[.val (.long q), .second, .val (.long (own_fm q)), .second, .unset, .unset] [(.long q)])) rfl (by rw [hml]; rfl) (argsL := [(.long q)]) (rest := []) (lenOf pd_0 rfl) rfl (by show 2 * 0 + _ ≤ _; exact Nat.le_of_eq rfl) (hb hby at_6) (fun _ _ => ⟨rfl, eh_1, (by decide : 0 + 0 ≤ _), (by decide : 0 + 0 ≤ _)⟩)
  dsimp only [Pt.U, Pt.locs, Pt.cells, Pt.slots] at X_2 l_2 y_2 z_2 st_2 hQ_2
  subst l_2 y_2 z_2
  obtain ⟨rfl, N_2q, eh_2⟩ := hQ_2
  have N_2 := Fr.app N_1 N_2q
  refine hst (fun _ kt => st_2 _ kt) ?_
  show G (T_2.setTop (mkF m 9 #[.val (.long q), .second, .val (.long (own_fm q)), .second, .unset, .unset] [(.long (own_um q))]))
  obtain ⟨_, _, ⟨T_3, L_3, k_3, n_3⟩, -, X_3, ⟨Lc_3, hQ_3, l_3, y_3, z_3⟩, st_3⟩ := Jvm.LawKit.callS X_2 hx (y := (⟨own_A, "finalMix", "(J)J"⟩ : MethodName)) hown (mvT hZ (own_w0 hw)) (mvT hZ (own_w1 hw)) (mvT hZ (own_w2 hw)) (mvT hZ (own_w3 hw)) (by decide) (backOf (W := 0) (rm1 l Z a0 hw [] (own_um q)  h0 n0 Z0) hZ (own_w3 hw) (own_w2 hw) (by decide) (by decide)) (g := (mkF m 9 #[.val (.long q), .second, .val (.long (own_fm q)), .second, .unset, .unset] [(.long (own_um q))])) rfl (by rw [hml]; rfl) (argsL := [(.long (own_um q))]) (rest := []) (lenOf pd_0 rfl) rfl (by show 2 * 0 + _ ≤ _; exact Nat.le_of_eq rfl) (hb hby at_9) (fun _ _ => ⟨rfl, eh_2, (by decide : 0 + 0 ≤ _), (by decide : 0 + 0 ≤ _)⟩)
  dsimp only [Pt.U, Pt.locs, Pt.cells, Pt.slots] at X_3 l_3 y_3 z_3 st_3 hQ_3
  subst l_3 y_3 z_3
  obtain ⟨rfl, N_3q, eh_3⟩ := hQ_3
  have N_3 := Fr.app N_2 N_3q
  refine hst (fun _ kt => st_3 _ kt) ?_
  show G (T_3.setTop (mkF m 12 #[.val (.long q), .second, .val (.long (own_fm q)), .second, .unset, .unset] [(.long (own_fm (own_um q)))]))
  refine hst (fun _ kt => XS.lstore X_3.here hx rfl (hb hby at_12) rfl (l' := #[.val (.long q), .second, .val (.long (own_fm q)), .second, .val (.long (own_fm (own_um q))), .second]) rfl kt) ?_
  show G (T_3.setTop (mkF m 14 #[.val (.long q), .second, .val (.long (own_fm q)), .second, .val (.long (own_fm (own_um q))), .second] []))
  refine hst (fun _ kt => XS.lloadN X_3.here hx rfl (hb hby at_14) rfl kt) ?_
  show G (T_3.setTop (mkF m 15 #[.val (.long q), .second, .val (.long (own_fm q)), .second, .val (.long (own_fm (own_um q))), .second] [(.long (own_fm q))]))
  obtain ⟨_, _, ⟨T_4, L_4, k_4, n_4⟩, -, X_4, ⟨Lc_4, hQ_4, l_4, y_4, z_4⟩, st_4⟩ := Jvm.LawKit.callS X_3 hx (y := (⟨x.cls, "unmix", "(J)J"⟩ : MethodName)) hown (mvT hZ (own_w6 hw)) (mvT hZ (own_w7 hw)) (mvT hZ (own_w8 hw)) (mvT hZ (own_w9 hw)) (by decide) (backOf (W := 0) (rm2 l Z a0 hw [] (own_fm q)  h0 n0 Z0) hZ (own_w9 hw) (own_w8 hw) (by decide) (by decide)) (g := (mkF m 15 #[.val (.long q), .second, .val (.long (own_fm q)), .second, .val (.long (own_fm (own_um q))), .second] [(.long (own_fm q))])) rfl (by rw [hml]; rfl) (argsL := [(.long (own_fm q))]) (rest := []) (lenOf pd_0 rfl) rfl (by show 2 * 0 + _ ≤ _; exact Nat.le_of_eq rfl) (hb hby at_15) (fun _ _ => ⟨rfl, eh_3, (by decide : 0 + 0 ≤ _), (by decide : 0 + 0 ≤ _)⟩)
  dsimp only [Pt.U, Pt.locs, Pt.cells, Pt.slots] at X_4 l_4 y_4 z_4 st_4 hQ_4
  subst l_4 y_4 z_4
  obtain ⟨rfl, N_4q, eh_4⟩ := hQ_4
  have N_4 := Fr.app N_3 N_4q
  refine hst (fun _ kt => st_4 _ kt) ?_
  show G (T_4.setTop (mkF m 18 #[.val (.long q), .second, .val (.long (own_fm q)), .second, .val (.long (own_fm (own_um q))), .second] [(.long (own_um (own_fm q)))]))
  refine hst (fun _ kt => XS.lloadN X_4.here hx rfl (hb hby at_18) rfl kt) ?_
  show G (T_4.setTop (mkF m 19 #[.val (.long q), .second, .val (.long (own_fm q)), .second, .val (.long (own_fm (own_um q))), .second] [(.long q), (.long (own_um (own_fm q)))]))
  refine hst (fun _ kt => XS.lcmp X_4.here hx rfl (hb hby at_19) rfl kt) ?_
  show G (T_4.setTop (mkF m 20 #[.val (.long q), .second, .val (.long (own_fm q)), .second, .val (.long (own_fm (own_um q))), .second] [(.int (lcmpW (own_um (own_fm q)) q))]))
  have hc20 : (own_um (own_fm q)) = q := own_um_fm q
  refine hst (fun _ kt => XS.ifNo X_4.here hx rfl (hb hby at_20) rfl ((if0 _ _).trans (teq ((lw_eq _ _).mpr hc20)).2) kt) ?_
  show G (T_4.setTop (mkF m 23 #[.val (.long q), .second, .val (.long (own_fm q)), .second, .val (.long (own_fm (own_um q))), .second] []))
  refine hst (fun _ kt => XS.lload X_4.here hx rfl (hb hby at_23) rfl kt) ?_
  show G (T_4.setTop (mkF m 25 #[.val (.long q), .second, .val (.long (own_fm q)), .second, .val (.long (own_fm (own_um q))), .second] [(.long (own_fm (own_um q)))]))
  refine hst (fun _ kt => XS.lloadN X_4.here hx rfl (hb hby at_25) rfl kt) ?_
  show G (T_4.setTop (mkF m 26 #[.val (.long q), .second, .val (.long (own_fm q)), .second, .val (.long (own_fm (own_um q))), .second] [(.long q), (.long (own_fm (own_um q)))]))
  refine hst (fun _ kt => XS.lcmp X_4.here hx rfl (hb hby at_26) rfl kt) ?_
  show G (T_4.setTop (mkF m 27 #[.val (.long q), .second, .val (.long (own_fm q)), .second, .val (.long (own_fm (own_um q))), .second] [(.int (lcmpW (own_fm (own_um q)) q))]))
  have hc27 : (own_fm (own_um q)) = q := own_fm_um q
  refine hst (fun _ kt => XS.ifNo X_4.here hx rfl (hb hby at_27) rfl ((if0 _ _).trans (teq ((lw_eq _ _).mpr hc27)).2) kt) ?_
  show G (T_4.setTop (mkF m 30 #[.val (.long q), .second, .val (.long (own_fm q)), .second, .val (.long (own_fm (own_um q))), .second] []))
  refine hst (fun _ kt => XS.iconst X_4.here hx rfl (hb hby at_30) kt) ?_
  show G (T_4.setTop (mkF m 31 #[.val (.long q), .second, .val (.long (own_fm q)), .second, .val (.long (own_fm (own_um q))), .second] [(.int (1 : Int32))]))
  refine hst (fun _ kt => XS.goto X_4.here hx rfl (pc0 := 31) (pc' := 35) rfl (hb hby at_31) (by decide) (by decide) kt) ?_
  show G (T_4.setTop (mkF m 35 #[.val (.long q), .second, .val (.long (own_fm q)), .second, .val (.long (own_fm (own_um q))), .second] [(.int (1 : Int32))]))
  exact hend (own_goRet X_4 hx Bd.returns rfl (Or.inl ⟨rfl, by simp, _, rfl⟩) (hb hby at_35) Bd.notSynchronized (by rw [eh_4]; exact ⟨rfl, N_4⟩) (by decide) (by decide))
set_option maxRecDepth 65536 in
set_option maxHeartbeats 40000000 in
theorem comes_1 {Post : Tables → Env → Array Value → State → Outcome → State → Prop} (hpost : ∀ tb e args s v u, (limb_1_1.after args s (.returned v) u = true ∧ limb_1_2.after args s (.returned v) u = true ∧ True) → FrameEnd s (.returned v) u (Jvm.fieldLocs frame_1_writes args s ++ Jvm.arrayLocs frame_1_arrays args s ++ Jvm.staticLocs frame_1_statics s) 0 0 → Post tb e args s (.returned v) u) :
    ArmFor flags0 classFile x code maxLocals ret World_1 tables_1 room_1 Calls_1 rest_1 Pre_1 Post := by
  intro l hfl _ _ p e ha hc hk s m args below hf hA hF happ hP
  obtain ⟨hcalls, hrest, hpre⟩ := hP
  obtain ⟨-, -, -, hnamed, -, -, -, hat⟩ := (Spec.applies_iff hf).mp happ
  obtain ⟨hg, hn⟩ := and_e (Cond.before_iff.mp (show (Jvm.Cond.and given_1 narrow_1).before args s = true from hpre))
  obtain ⟨gc, g0⟩ := and_e hg
  obtain ⟨w0, rfl⟩ : ∃ w0 : Value, args = #[w0] := by
    have hs : args.size = 1 := by simpa [Cond.value, given_1] using gc
    obtain ⟨L⟩ := args
    match L, hs with
    | [w0], _ => exact ⟨w0, rfl⟩
  have hw := fun d (hd : d ∈ tables_1) => atoms_spec (ws := Jvm.Cond.code x code maxLocals ret :: tables_1) hat d (List.mem_cons_of_mem _ hd)
  have hfit : Fit s := fun {y c} hc i hi => by
    obtain ⟨ha, rfl⟩ := Array.getElem?_eq_some_iff.mp hc
    have q := List.all_eq_true.mp ((Array.all_eq_true_iff_forall_mem.mp hF) _ (Array.getElem_mem ha)) i (List.mem_range.mpr hi)
    simpa [Array.getElem?_eq_getElem hi] using q
  obtain ⟨i0, ei0⟩ := isL_v g0
  obtain rfl : w0 = (.long i0) := Option.some.inj ei0
  obtain ⟨n, o, h1, h2, h3, _, L, rfl, ⟨rfl, N⟩, hq⟩ := rm0 l s _ hw tables_1 i0  s.heap s.heap.size (Nat.le_refl _)  p e ha hc hk s m _ below hf ((Spec.applies_iff_loose hf).mp happ).1 ⟨rfl, State.Warmed39.refl s, rfl⟩ trivial
  refine ⟨n, _, h1, h2, h3, hpost _ _ _ _ _ _ ⟨Cond.after_iff.mpr rfl, Cond.after_iff.mpr (eq_i res_at (Term.int_eval (1)) rfl), trivial⟩ ⟨hq.1, hq.2.1, (hq.2.2.sift fun y hy => Or.inr (N y hy)).mono (by decide) (by decide)⟩⟩
theorem main_1_1 : Claimed_1_1 := comes_1 fun _ _ _ _ _ _ h hF => ⟨h.1, hF⟩
theorem main_1_2 : Claimed_1_2 := comes_1 fun _ _ _ _ _ _ h hF => ⟨h.2.1, hF⟩
end Jvm.Pilot.@@N@@
namespace Jvm.Pilot.@@N@@
open Jvm Jvm.ClassFile Sem Op Lib Jvm.Free Jvm.Stand Jvm.Pilot.@@N@@.Jvm.D
/-! MADE BY PROGRAM (witnessworld.py) out of the Statement's table words and the real class files: 9 classes; the members and pool entries that the words name. The judged class is class 1, her method 2. -/
namespace start1
open Jvm.ClassFile
def u (s : String) : CpInfo := .utf8 (stringToUtf16 s)
/-- a pool by its gaps: so many unusable entries, then the entry; so many at the end -/
def gap : Nat → List CpInfo → List CpInfo
  | 0, r => r
  | n + 1, r => .unusable :: gap n r
def poolList (es : List (Nat × CpInfo)) (last : Nat) : List CpInfo := es.foldr (fun e r => gap e.1 (e.2 :: r)) (gap last [])
def pool (es : List (Nat × CpInfo)) (last : Nat) : Array CpInfo := ⟨poolList es last⟩
def fileOf (pool : Array CpInfo) (this : Nat) (attrs : Array Attribute := #[]) (ms : Array MethodInfo := #[]) (fl : Nat := 33) (sup : Nat := 0) (ifs : Array Nat := #[]) (fds : Array FieldInfo := #[]) : ClassFile where
  minorVersion := 0
  majorVersion := 65
  constantPool := pool
  accessFlags := fl
  thisClass := this
  superClass := sup
  interfaces := ifs
  fields := fds
  methods := ms
  attributes := attrs
def plain (name : String) (sup : Option ClassId) : Class where
  name := name
  kind := .ordinary
  loader := none
  accessFlags := 33
  super := sup
  interfaces := #[]
  cf := none
  fields := #[]
  methods := #[]
  instanceTypes := #[]
  staticTypes := #[]
  resolved := #[]
  callSites := []
  init := .initialized
  statics := none
  mirror := none

def pool0 : Array CpInfo := pool [(5, u "<init>"), (0, u "()V"), (1, .class_ 10), (1, u "java/lang/Object")] 113

def k0m0 : Method := { name := "<init>", desc := "()V", sig := { parameters := [], returnType := none }, accessFlags := 1, code := none }
/-- java/lang/Object -/
def k0 : Class := { plain "java/lang/Object" none with
  accessFlags := 33
  interfaces := #[]
  cf := some (fileOf pool0 8 #[] #[{ accessFlags := 1, nameIndex := 5, descriptorIndex := 6, attributes := #[] }] 33 0 #[] #[])
  fields := #[]
  methods := #[k0m0]
  instanceTypes := #[]
  staticTypes := #[]
  resolved := Array.replicate 124 none
  statics := none }

def pool1 : Array CpInfo := pool [(2, .class_ 4), (1, u "java/lang/Object"), (0, u "<init>"), (0, u "()V"), (0, .long 11291846944257947611), (1, .long 5725274745694666757), (1, .methodref 12 13), (0, .class_ 14), (0, .nameAndType 15 16), (0, u "com/example/hash_to_host/hashtohost/MurmurHash3"), (0, u "finalMix"), (0, u "(J)J"), (0, .methodref 18 19), (0, .class_ 20), (0, .nameAndType 21 16), (0, u "com/example/hash_to_host/hashtohost/MurmurHash3FinalMixPinLaw"), (0, u "unmix"), (2, u "law"), (0, u "(J)Z")] 3

def k1m0 : Method := { name := "<init>", desc := "()V", sig := { parameters := [], returnType := none }, accessFlags := 2, code := none }
def k1c1 : Code := { maxStack := 5, maxLocals := 4, code := method_2_code, exceptionTable := #[], attributes := #[] }
def k1m1 : Method := { name := "unmix", desc := "(J)J", sig := { parameters := [.long], returnType := some .long }, accessFlags := 10, code := some k1c1 }
def k1c2 : Code := { maxStack := 4, maxLocals := 6, code := code, exceptionTable := #[], attributes := #[] }
def k1m2 : Method := { name := "law", desc := "(J)Z", sig := { parameters := [.long], returnType := some .boolean }, accessFlags := 9, code := some k1c2 }
/-- com/example/hash_to_host/hashtohost/MurmurHash3FinalMixPinLaw -/
def k1 : Class := { plain "com/example/hash_to_host/hashtohost/MurmurHash3FinalMixPinLaw" (some 0) with
  accessFlags := 49
  interfaces := #[]
  cf := some (fileOf pool1 18 #[] #[{ accessFlags := 2, nameIndex := 5, descriptorIndex := 6, attributes := #[] }, { accessFlags := 10, nameIndex := 21, descriptorIndex := 16, attributes := #[] }, { accessFlags := 9, nameIndex := 24, descriptorIndex := 25, attributes := #[] }] 49 2 #[] #[])
  fields := #[]
  methods := #[k1m0, k1m1, k1m2]
  instanceTypes := #[]
  staticTypes := #[]
  resolved := Array.replicate 29 none
  statics := none }

def pool2 : Array CpInfo := pool [(2, .class_ 4), (1, u "java/lang/Object"), (0, u "<init>"), (0, u "()V"), (7, .class_ 16), (1, u "com/example/hash_to_host/hashtohost/MurmurHash3"), (0, u "LITTLE_ENDIAN_LONG"), (0, u "Ljava/lang/invoke/VarHandle;"), (9, u "(J)J"), (27, u "finalMix"), (6, .long 18397679294719823053), (1, .long 14181476777654086739), (15, u "C1"), (0, u "J"), (1, u "C2")] 9

def k2m0 : Method := { name := "<init>", desc := "()V", sig := { parameters := [], returnType := none }, accessFlags := 2, code := none }
def k2c1 : Code := { maxStack := 5, maxLocals := 4, code := prog_16_method_6_code, exceptionTable := #[], attributes := #[] }
def k2m1 : Method := { name := "finalMix", desc := "(J)J", sig := { parameters := [.long], returnType := some .long }, accessFlags := 8, code := some k2c1 }
/-- com/example/hash_to_host/hashtohost/MurmurHash3 -/
def k2 : Class := { plain "com/example/hash_to_host/hashtohost/MurmurHash3" (some 0) with
  accessFlags := 48
  interfaces := #[]
  cf := some (fileOf pool2 14 #[] #[{ accessFlags := 2, nameIndex := 5, descriptorIndex := 6, attributes := #[] }, { accessFlags := 8, nameIndex := 56, descriptorIndex := 28, attributes := #[] }] 48 2 #[] #[{ accessFlags := 26, nameIndex := 81, descriptorIndex := 82, attributes := #[] }, { accessFlags := 26, nameIndex := 84, descriptorIndex := 82, attributes := #[] }, { accessFlags := 26, nameIndex := 17, descriptorIndex := 18, attributes := #[] }])
  fields := #[{ name := "C1", type := .long, accessFlags := 26, slot := 0, constantValue := 0 }, { name := "C2", type := .long, accessFlags := 26, slot := 1, constantValue := 0 }, { name := "LITTLE_ENDIAN_LONG", type := (.object "java/lang/invoke/VarHandle"), accessFlags := 26, slot := 2, constantValue := 0 }]
  methods := #[k2m0, k2m1]
  instanceTypes := #[]
  staticTypes := #[.long, .long, (.object "java/lang/invoke/VarHandle")]
  resolved := Array.replicate 94 none
  statics := none }

def pool3 : Array CpInfo := pool [(1, u "java/lang/Cloneable"), (0, .class_ 1), (0, u "java/lang/Object"), (0, .class_ 3)] 3

/-- java/lang/Cloneable -/
def k3 : Class := { plain "java/lang/Cloneable" (some 0) with
  accessFlags := 1537
  interfaces := #[]
  cf := some (fileOf pool3 2 #[] #[] 1537 4 #[] #[])
  fields := #[]
  methods := #[]
  instanceTypes := #[]
  staticTypes := #[]
  resolved := Array.replicate 8 none
  statics := none }

def pool4 : Array CpInfo := pool [(1, u "java/io/Serializable"), (0, .class_ 1), (0, u "java/lang/Object"), (0, .class_ 3)] 3

/-- java/io/Serializable -/
def k4 : Class := { plain "java/io/Serializable" (some 0) with
  accessFlags := 1537
  interfaces := #[]
  cf := some (fileOf pool4 2 #[] #[] 1537 4 #[] #[])
  fields := #[]
  methods := #[]
  instanceTypes := #[]
  staticTypes := #[]
  resolved := Array.replicate 8 none
  statics := none }

/-- the primitive byte -/
def k5 : Class := { plain "byte" none with kind := .primitive 'B', accessFlags := 0x411 }
/-- [B -/
def k6 : Class := { plain "[B" (some 0) with kind := .array 5 .byte, interfaces := #[3, 4], accessFlags := 1041 }

/-- the primitive int -/
def k7 : Class := { plain "int" none with kind := .primitive 'I', accessFlags := 0x411 }
/-- [I -/
def k8 : Class := { plain "[I" (some 0) with kind := .array 7 .int, interfaces := #[3, 4], accessFlags := 1041 }

def heap : Heap := #[]
def classes : Array Class := #[k0, k1, k2, k3, k4, k5, k6, k7, k8]
def interned : List (Array UInt16 × Addr) := []
def slotsUsed : Nat := 0
def theMethod : MethodId := ⟨1, 2⟩
def args0 : Array Value := #[.long 5]
def aboutOver (below : List Frame) : State where
  vm := { classes := classes, interned := interned.toArray }
  heap := heap
  slotsUsed := slotsUsed
  threads := #[{ frames := .invoking theMethod args0 :: below }]
def below0 : List Frame := [.native { method := ⟨0, 0⟩, args := #[] }]
def about1 : State := aboutOver below0
def p0 : Program := .bare "" "" ""
def e0 : Env := launch0.env 0 0 0
theorem w_frames : about1.frames = Frame.invoking theMethod args0 :: below0 := rfl
set_option maxRecDepth 65536 in
theorem w_args : argsFit about1.vm theMethod args0 = true := by decide +kernel
set_option maxRecDepth 65536 in
theorem w_heap : heapFits about1 = true := by decide +kernel
set_option maxRecDepth 65536 in
theorem w_runnable : about1.curStatus? = some .runnable := by decide +kernel
set_option maxRecDepth 65536 in
theorem w_alone : about1.alone = true := by decide +kernel
set_option maxRecDepth 65536 in
theorem w_named : about1.methodNamed? x = some theMethod := by decide +kernel
set_option maxRecDepth 65536 in
theorem w_hears : about1.hears theMethod below0 = true := by decide +kernel
set_option maxRecDepth 65536 in
theorem w_ripe : about1.ripe theMethod args0 below0 = true := by decide +kernel
theorem w_running : about1.status = .running := rfl
set_option maxRecDepth 65536 in
theorem w_room : about1.hasRoom e0.platform room_1 = true :=
  launch0.hasRoom_least _ room_1 (by decide +kernel) (by decide +kernel) (by decide +kernel) (by decide +kernel) (by decide +kernel) (by decide +kernel)
theorem allAtoms_all (ts : List Jvm.Cond) (a : Array Jvm.Value) (st : Jvm.State) : (allAtoms ts).before a st = ts.all (fun c => c.before a st) := by
  induction ts with
  | nil => rfl
  | cons c t ih =>
    show (Jvm.Cond.and c (allAtoms t)).before a st = _
    rw [Jvm.Cond.before_and, ih, List.all_cons]
def words1 : List Jvm.Cond := Jvm.Cond.code x code maxLocals ret :: tables_1
/-- a 'code' word, met by the world's own term for the bytes: nothing is compared byte by byte -/
theorem code_word {y : MethodName} {bytes : ByteArray} {mx : Nat} {rt : Option FieldType} {a : Array Value} {s : State} {m : MethodId} {meth : Method} {c : Code} (h1 : s.methodNamed? y = some m) (h2 : s.vm.method? m = some meth) (h3 : meth.code = some c) (h4 : c.code = bytes)
    (h5 : (c.maxLocals == mx && c.exceptionTable.isEmpty && decide (c.maxStack ≤ mostOperands) && decide (meth.sig.returnType = rt) && !meth.locks && decide (parseMethodDescriptor y.desc = some meth.sig)) = true) : (Jvm.Cond.code y bytes mx rt).before a s = true := by
  simp only [Bool.and_eq_true, beq_iff_eq, Bool.not_eq_true', decide_eq_true_eq] at h5
  obtain ⟨⟨⟨⟨⟨g1, g2⟩, g3⟩, g4⟩, g5⟩, g6⟩ := h5
  simp [Cond.before, Cond.holds, Cond.value, h1, h2, h3, h4, g1, g2, g3, g4, g5, g6]
def isCode : Jvm.Cond → Bool
  | .code _ _ _ _ => true
  | _ => false
theorem all_split {L : List Jvm.Cond} {P : Jvm.Cond → Bool} (h1 : L.all (fun c => isCode c || P c) = true) (h2 : ∀ c ∈ L.filter isCode, P c = true) : L.all P = true := by
  refine List.all_eq_true.mpr fun c hc => ?_
  have h := List.all_eq_true.mp h1 c hc
  rcases Bool.eq_false_or_eq_true (isCode c) with hi | hi
  · exact h2 c (List.mem_filter.mpr ⟨hc, hi⟩)
  · simpa [hi] using h
set_option maxRecDepth 65536 in
theorem w_c0 : (Jvm.Cond.code x code maxLocals ret).before args0 about1 = true := code_word (m := ⟨1, 2⟩) (meth := k1m2) (c := k1c2) (by decide +kernel) rfl rfl rfl (by decide +kernel)
set_option maxRecDepth 65536 in
theorem w_c1 : (Jvm.Cond.code ({ cls := "com/example/hash_to_host/hashtohost/MurmurHash3", name := "finalMix", desc := "(J)J" } : Jvm.MethodName) prog_16_method_6_code (4 : Nat) (Option.some Jvm.ClassFile.FieldType.long)).before args0 about1 = true := code_word (m := ⟨2, 1⟩) (meth := k2m1) (c := k2c1) (by decide +kernel) rfl rfl rfl (by decide +kernel)
set_option maxRecDepth 65536 in
theorem w_c2 : (Jvm.Cond.code ({ cls := "com/example/hash_to_host/hashtohost/MurmurHash3FinalMixPinLaw", name := "unmix", desc := "(J)J" } : Jvm.MethodName) method_2_code (4 : Nat) (Option.some Jvm.ClassFile.FieldType.long)).before args0 about1 = true := code_word (m := ⟨1, 1⟩) (meth := k1m1) (c := k1c1) (by decide +kernel) rfl rfl rfl (by decide +kernel)
def codes1 : List Jvm.Cond := [Jvm.Cond.code x code maxLocals ret, Jvm.Cond.code ({ cls := "com/example/hash_to_host/hashtohost/MurmurHash3", name := "finalMix", desc := "(J)J" } : Jvm.MethodName) prog_16_method_6_code (4 : Nat) (Option.some Jvm.ClassFile.FieldType.long), Jvm.Cond.code ({ cls := "com/example/hash_to_host/hashtohost/MurmurHash3FinalMixPinLaw", name := "unmix", desc := "(J)J" } : Jvm.MethodName) method_2_code (4 : Nat) (Option.some Jvm.ClassFile.FieldType.long)]
set_option maxRecDepth 65536 in
theorem codes_eq : words1.filter isCode = codes1 := rfl
theorem w_codes : ∀ c ∈ words1.filter isCode, c.before args0 about1 = true := by
  rw [codes_eq]
  intro c hc
  simp only [codes1, List.mem_cons, List.not_mem_nil, or_false] at hc
  rcases hc with rfl | rfl | rfl
  · exact w_c0
  · exact w_c1
  · exact w_c2
set_option maxRecDepth 65536 in
theorem w_t1 : words1.all (fun c => isCode c || c.before args0 about1) = true := by decide +kernel
theorem w_tables : (allAtoms (Jvm.Cond.code x code maxLocals ret :: tables_1)).before args0 about1 = true := by
  rw [allAtoms_all]
  show words1.all (fun c => c.before args0 about1) = true
  refine all_split ?_ w_codes
  rw [w_t1]
set_option maxRecDepth 65536 in
theorem w_case : (Jvm.Cond.and given_1 narrow_1).before args0 about1 = true := by decide +kernel
theorem w_applies : (headSpec (Jvm.Cond.code x code maxLocals ret :: tables_1) room_1).applies x e0.platform about1 = true :=
  (Spec.applies_iff w_frames).mpr ⟨w_running, w_runnable, w_alone, w_named, w_hears, w_ripe, w_room, w_tables⟩
theorem atStart : AtStart classFile x code maxLocals ret World_1 tables_1 room_1 Calls_1 rest_1 Pre_1 launch0 p0 e0 about1 theMethod args0 below0 :=
  ⟨lists_1, trivial, launch0.admits_env _ _ _, launch0.least_env, fairChoices_fair.cas, fairChoices_fair.clock, w_frames, w_args, w_heap, w_applies, trivial, trivial, w_case⟩
end start1
theorem witness_1 : WitnessClaimed_1 := ⟨start1.p0, start1.e0, start1.about1, start1.theMethod, start1.args0, start1.below0, start1.atStart⟩
end Jvm.Pilot.@@N@@
