import JvmDerived
import JvmDerived.Pilot.@@N@@Statement
import JvmDerived.Pilot.@@N@@Code
set_option linter.unusedVariables false
set_option linter.unusedSimpArgs false
/- laws to paste: Road.backV (cut by pick.py; bodies as the Statement names them) -/
namespace Jvm.Pilot.@@N@@
namespace StrChars
open Jvm Sem ClassFile Op Lib Jvm.Stand Jvm.Free.XT Jvm.Free.ALB Jvm.Free.JM Jvm.Free
open Jvm.Lib.Cold (StaticIs)
/-- a char array whose places are chars -/
def Ch (a : Addr) (A : Cell) (U : State) : Prop := Arr .char a A U ∧ Typed .char A
theorem Ch.mv {a : Addr} {A : Cell} {U U' : State} (h : Ch a A U) (hal : U.vm.Alike U'.vm) (hh : U'.heap = U.heap) : Ch a A U' := ⟨h.1.mv hal hh, h.2⟩
theorem Ch.keep {a : Addr} {A : Cell} {U U' : State} (h : Ch a A U) (hal : U.vm.Alike U'.vm) (hk : U'.heap[a]? = some A) : Ch a A U' := ⟨h.1.keep hal hk, h.2⟩
/-- what place i of a char[]'s cell holds -/
def cv (A : Cell) (i : Nat) : Int32 := match A.slots[i]? with | some (.int x) => x | _ => 0
theorem Ch.get {a : Addr} {A : Cell} {U : State} (h : Ch a A U) {i : Nat} (hi : i < A.slots.size) : A.slots[i]? = some (.int (cv A i)) := by
  have e := Array.getElem?_eq_getElem hi
  have f := h.2 i _ e
  unfold cv; rw [e]
  generalize A.slots[i] = v at f
  cases v <;> simp [fits] at f ⊢
/-- the byte that i2b leaves of a char -/
def lo8 (x : Int32) : Int32 := x.toInt8.toInt32
theorem fits_lo8 (y : Int32) : fits .byte (.int (lo8 y)) = true := by
  have h1 := y.toInt8.le_toInt
  have h2 := y.toInt8.toInt_lt
  simp only [lo8, fits, Bool.and_eq_true, decide_eq_true_eq, Int32.le_iff_toInt_le, Int8.toInt_toInt32, show (-128 : Int32).toInt = -128 from by decide, show (127 : Int32).toInt = 127 from by decide]
  omega
/-- A' is A but that each place j of lo .. hi - 1 holds f j -/
def Laid (A A' : Cell) (lo hi : Nat) (f : Nat → Value) : Prop := A'.cls = A.cls ∧ A'.vm = A.vm ∧ A'.slots.size = A.slots.size ∧ ∀ i, A'.slots[i]? = if lo ≤ i ∧ i < hi then some (f i) else A.slots[i]?
theorem Laid.zero (A : Cell) (lo : Nat) (f : Nat → Value) : Laid A A lo (lo + 0) f := ⟨rfl, rfl, rfl, fun i => by rw [if_neg (by omega)]⟩
theorem Laid.step {A Ak : Cell} {lo k : Nat} {f : Nat → Value} {v : Value} (h : Laid A Ak lo k f) (hlo : lo ≤ k) (hk : k < Ak.slots.size) (hv : v = f k) : Laid A (Ak.setSlot k v) lo (k + 1) f := by
  refine ⟨h.1, h.2.1, by simpa [Cell.setSlot] using h.2.2.1, fun i => ?_⟩
  by_cases e : k = i
  · subst e; rw [Cell.slots_setSlot_self v hk, if_pos (by omega), hv]
  · rw [Cell.slots_setSlot_ne v e, h.2.2.2 i]
    by_cases q : lo ≤ i ∧ i < k
    · rw [if_pos q, if_pos (by omega)]
    · rw [if_neg q, if_neg (by omega)]
def U16 : String := "java/lang/StringUTF16"
namespace Cmp5
def yN : MethodName := ⟨"java/lang/StringUTF16", "compress", "([CI[BII)I"⟩
abbrev yB : ByteArray := jdk_52_method_21_code
theorem d0 : decode yB 0 = .ok (.iconst 0, 1) := by decide +kernel
theorem d1 : decode yB 1 = .ok (.istore 5, 2) := by decide +kernel
theorem d3 : decode yB 3 = .ok (.iload 5, 2) := by decide +kernel
theorem d5 : decode yB 5 = .ok (.iload 4, 2) := by decide +kernel
theorem d7 : decode yB 7 = .ok (.if_icmp (.ge) 37, 3) := by decide +kernel
theorem d10 : decode yB 10 = .ok (.aload_n 0, 1) := by decide +kernel
theorem d11 : decode yB 11 = .ok (.iload_n 1, 1) := by decide +kernel
theorem d12 : decode yB 12 = .ok (.caload, 1) := by decide +kernel
theorem d13 : decode yB 13 = .ok (.istore 6, 2) := by decide +kernel
theorem d15 : decode yB 15 = .ok (.iload 6, 2) := by decide +kernel
theorem d17 : decode yB 17 = .ok (.sipush 255, 3) := by decide +kernel
theorem d20 : decode yB 20 = .ok (.if_icmp (.le) 6, 3) := by decide +kernel
theorem d26 : decode yB 26 = .ok (.aload_n 2, 1) := by decide +kernel
theorem d27 : decode yB 27 = .ok (.iload_n 3, 1) := by decide +kernel
theorem d28 : decode yB 28 = .ok (.iload 6, 2) := by decide +kernel
theorem d30 : decode yB 30 = .ok (.i2b, 1) := by decide +kernel
theorem d31 : decode yB 31 = .ok (.bastore, 1) := by decide +kernel
theorem d32 : decode yB 32 = .ok (.iinc 1 1, 3) := by decide +kernel
theorem d35 : decode yB 35 = .ok (.iinc 3 1, 3) := by decide +kernel
theorem d38 : decode yB 38 = .ok (.iinc 5 1, 3) := by decide +kernel
theorem d41 : decode yB 41 = .ok (.goto (-38), 3) := by decide +kernel
theorem d44 : decode yB 44 = .ok (.iload 4, 2) := by decide +kernel
theorem d46 : decode yB 46 = .ok (.ireturn, 1) := by decide +kernel
def site : List Cond := []
def tab : Cond := tabOf yN yB 7 (some .int) site
def P (b : Addr) (A : Cell) (d : Addr) (B : Cell) (o q len : Nat) (args : Array Value) (s : State) : Prop := args = #[.ref b, .int (Int32.ofNat o), .ref d, .int (Int32.ofNat q), .int (Int32.ofNat len)] ∧ Ch b A s ∧ Arr .byte d B s ∧ b ≠ d ∧ o + len ≤ A.slots.size ∧ q + len ≤ B.slots.size ∧ ∀ i, i < len → ¬ 255 < cv A (o + i)
def E (b : Addr) (A : Cell) (d : Addr) (B : Cell) (o q len : Nat) (r : Option Value) (s u : State) : Prop := r = some (.int (Int32.ofNat len)) ∧ ∃ B', Put d B' s u ∧ Laid B B' q (q + len) (fun j => Value.int (lo8 (cv A (o + (j - q)))))
/-- no char of the range above 255: len; the places written hold each char's low byte -/
theorem law (l : Launch) (b : Addr) (A : Cell) (d : Addr) (B : Cell) (o q len : Nat) : Law l yN 5 5 0 0 yB 7 (some .int) site (P b A d B o q len) (E b A d B o q len) (copyLocs d q len) 0 0 := by
  refine Law.of_walk (plainFor_of_name (by decide +kernel)) (by decide +kernel) (by decide +kernel) (by decide) (fun _ _ h => by rw [h.1]; rfl) (fun _ U U' hal hh h => ⟨h.1, h.2.1.mv hal hh, h.2.2.1.mv hal hh, h.2.2.2⟩) (fun r U U' V V' h1 hal h2 h => ⟨h.1, h.2.elim fun B' q => ⟨B', q.1.mv h1 h2, q.2⟩⟩) ?_
  intro p e s m args below meth c s₁ X0 hexec hbytes hml hret hlk hnm hown hh0 W hP
  obtain ⟨rfl, hA, hB, hne, l1, l2, hp⟩ := hP
  have c1 : Steps p.tables e below (s₁.setTop (entryFrame m #[.ref b, .int (Int32.ofNat o), .ref d, .int (Int32.ofNat q), .int (Int32.ofNat len)] 7)) (s₁.setTop (mkF m 0 #[.val (.ref b), .val (.int (Int32.ofNat o)), .val (.ref d), .val (.int (Int32.ofNat q)), .val (.int (Int32.ofNat len)), .unset, .unset] [])) := entry rfl
  have hA0 := hA.1.mv X0.warmed.alike hh0
  have hB0 := hB.mv X0.warmed.alike hh0
  have a31 := hA.1.2.2.2
  have c2 : Steps p.tables e below (s₁.setTop (entryFrame m #[.ref b, .int (Int32.ofNat o), .ref d, .int (Int32.ofNat q), .int (Int32.ofNat len)] 7)) (s₁.setTop (mkF m 3 #[.val (.ref b), .val (.int (Int32.ofNat o)), .val (.ref d), .val (.int (Int32.ofNat q)), .val (.int (Int32.ofNat len)), .val (.int 0), .unset] [])) := c1.trans (by
    refine iconstV X0.here hexec rfl 0 (hb hbytes d0) (by decide) ?_
    refine XS.istore X0.here hexec rfl (hb hbytes d1) rfl rfl ?_
    exact Steps.refl _)
  have loop : ∀ (r i : Nat), i + r = len → ∀ (z : Slot), (z = .unset ∨ ∃ w, z = .val w ∧ w.category = 1) → ∀ (Tl : State) (Bk : Cell), Stand p l e { frames := 0, locals := 0, cells := 0, slots := 0 } s m #[.ref b, .int (Int32.ofNat o), .ref d, .int (Int32.ofNat q), .int (Int32.ofNat len)] below meth c Tl ([] ++ copyLocs d q i) 0 0 → Put d Bk s₁ Tl → Laid B Bk q (q + i) (fun j => Value.int (lo8 (cv A (o + (j - q))))) →
      Steps p.tables e below (s₁.setTop (entryFrame m #[.ref b, .int (Int32.ofNat o), .ref d, .int (Int32.ofNat q), .int (Int32.ofNat len)] 7)) (Tl.setTop (mkF m 3 #[.val (.ref b), .val (.int (Int32.ofNat (o + i))), .val (.ref d), .val (.int (Int32.ofNat (q + i))), .val (.int (Int32.ofNat len)), .val (.int (Int32.ofNat i)), z] [])) → ∃ (T' : State) (B' : Cell) (z' : Slot), Stand p l e { frames := 0, locals := 0, cells := 0, slots := 0 } s m #[.ref b, .int (Int32.ofNat o), .ref d, .int (Int32.ofNat q), .int (Int32.ofNat len)] below meth c T' ([] ++ copyLocs d q len) 0 0 ∧ Put d B' s₁ T' ∧ Laid B B' q (q + len) (fun j => Value.int (lo8 (cv A (o + (j - q))))) ∧
      Steps p.tables e below (s₁.setTop (entryFrame m #[.ref b, .int (Int32.ofNat o), .ref d, .int (Int32.ofNat q), .int (Int32.ofNat len)] 7)) (T'.setTop (mkF m 3 #[.val (.ref b), .val (.int (Int32.ofNat (o + len))), .val (.ref d), .val (.int (Int32.ofNat (q + len))), .val (.int (Int32.ofNat len)), .val (.int (Int32.ofNat len)), z'] [])) := by
    intro r
    induction r with
    | zero =>
      intro i hi z hz Tl Bk Xl pl fl cl
      have hil : i = len := by omega
      rw [hil] at Xl fl cl
      exact ⟨Tl, Bk, z, Xl, pl, fl, cl⟩
    | succ r ih =>
      intro i hi z hz Tl Bk Xl pl fl cl
      have all := X0.warmed.alike.symm.trans Xl.warmed.alike
      have hAl := hA0.keep all (pl.other hne hA0.1)
      have hBk := hB0.like all pl.1 fl.1 fl.2.1 fl.2.2.1
      have hlt : q + i < Bk.slots.size := by rw [fl.2.2.1]; omega
      have c3 : Steps p.tables e below (s₁.setTop (entryFrame m #[.ref b, .int (Int32.ofNat o), .ref d, .int (Int32.ofNat q), .int (Int32.ofNat len)] 7)) (Tl.setTop (mkF m 12 #[.val (.ref b), .val (.int (Int32.ofNat (o + i))), .val (.ref d), .val (.int (Int32.ofNat (q + i))), .val (.int (Int32.ofNat len)), .val (.int (Int32.ofNat i)), z] [.int (Int32.ofNat (o + i)), .ref b])) := cl.trans (by
        refine XS.iload Xl.here hexec rfl (hb hbytes d3) rfl ?_
        refine XS.iload Xl.here hexec rfl (hb hbytes d5) rfl ?_
        refine XS.icmpNo Xl.here hexec rfl (hb hbytes d7) rfl (ii_ge_f (lt32 (by omega) (by omega))) ?_
        refine XS.aloadN Xl.here hexec rfl (hb hbytes d10) rfl rfl ?_
        refine XS.iloadN Xl.here hexec rfl (hb hbytes d11) rfl ?_
        exact Steps.refl _)
      have c4 : Steps p.tables e below (s₁.setTop (entryFrame m #[.ref b, .int (Int32.ofNat o), .ref d, .int (Int32.ofNat q), .int (Int32.ofNat len)] 7)) (Tl.setTop (mkF m 13 #[.val (.ref b), .val (.int (Int32.ofNat (o + i))), .val (.ref d), .val (.int (Int32.ofNat (q + i))), .val (.int (Int32.ofNat len)), .val (.int (Int32.ofNat i)), z] [.int (cv A (o + i))])) := c3.trans (by
        refine Xl.aget hexec hAl rfl (hA.get (i := o + i) (by omega)) rfl rfl (hb hbytes d12) ?_
        exact Steps.refl _)
      have c5 : Steps p.tables e below (s₁.setTop (entryFrame m #[.ref b, .int (Int32.ofNat o), .ref d, .int (Int32.ofNat q), .int (Int32.ofNat len)] 7)) (Tl.setTop (mkF m 15 #[.val (.ref b), .val (.int (Int32.ofNat (o + i))), .val (.ref d), .val (.int (Int32.ofNat (q + i))), .val (.int (Int32.ofNat len)), .val (.int (Int32.ofNat i)), .val (.int (cv A (o + i)))] [])) := c4.trans (by
        refine XS.istoreS Xl.here hexec rfl (hb hbytes d13) rfl rfl hz ?_
        exact Steps.refl _)
      have c6 : Steps p.tables e below (s₁.setTop (entryFrame m #[.ref b, .int (Int32.ofNat o), .ref d, .int (Int32.ofNat q), .int (Int32.ofNat len)] 7)) (Tl.setTop (mkF m 31 #[.val (.ref b), .val (.int (Int32.ofNat (o + i))), .val (.ref d), .val (.int (Int32.ofNat (q + i))), .val (.int (Int32.ofNat len)), .val (.int (Int32.ofNat i)), .val (.int (cv A (o + i)))] [.int (lo8 (cv A (o + i))), .int (Int32.ofNat (q + i)), .ref d])) := c5.trans (by
        refine XS.iload Xl.here hexec rfl (hb hbytes d15) rfl ?_
        refine sipushV Xl.here hexec rfl 255 (hb hbytes d17) (by decide) ?_
        refine XS.icmpYes Xl.here hexec rfl (pc0 := 20) rfl (hb hbytes d20) rfl (ii_le_t (hp i (by omega))) (by decide) rfl ?_
        refine XS.aloadN Xl.here hexec rfl (hb hbytes d26) rfl rfl ?_
        refine XS.iloadN Xl.here hexec rfl (hb hbytes d27) rfl ?_
        refine XS.iload Xl.here hexec rfl (hb hbytes d28) rfl ?_
        refine i2b Xl.here hexec rfl (hb hbytes d30) rfl ?_
        exact Steps.refl _)
      obtain ⟨T7, X7, p7, st7⟩ := Xl.aput hexec hBk rfl hlt rfl (fits_lo8 (cv A (o + i))) (g := (mkF m 31 #[.val (.ref b), .val (.int (Int32.ofNat (o + i))), .val (.ref d), .val (.int (Int32.ofNat (q + i))), .val (.int (Int32.ofNat len)), .val (.int (Int32.ofNat i)), .val (.int (cv A (o + i)))] [.int (lo8 (cv A (o + i))), .int (Int32.ofNat (q + i)), .ref d])) rfl (rest := []) rfl (hb hbytes d31)
      have c8 : Steps p.tables e below (s₁.setTop (entryFrame m #[.ref b, .int (Int32.ofNat o), .ref d, .int (Int32.ofNat q), .int (Int32.ofNat len)] 7)) (T7.setTop (mkF m 32 #[.val (.ref b), .val (.int (Int32.ofNat (o + i))), .val (.ref d), .val (.int (Int32.ofNat (q + i))), .val (.int (Int32.ofNat len)), .val (.int (Int32.ofNat i)), .val (.int (cv A (o + i)))] [])) := c6.trans (st7 _ (Steps.refl _))
      have c9 : Steps p.tables e below (s₁.setTop (entryFrame m #[.ref b, .int (Int32.ofNat o), .ref d, .int (Int32.ofNat q), .int (Int32.ofNat len)] 7)) (T7.setTop (mkF m 3 #[.val (.ref b), .val (.int (Int32.ofNat (o + i) + 1)), .val (.ref d), .val (.int (Int32.ofNat (q + i) + 1)), .val (.int (Int32.ofNat len)), .val (.int (Int32.ofNat i + 1)), .val (.int (cv A (o + i)))] [])) := c8.trans (by
        refine iincV X7.here hexec rfl 1 (hb hbytes d32) (by decide) rfl rfl ?_
        refine iincV X7.here hexec rfl 1 (hb hbytes d35) (by decide) rfl rfl ?_
        refine iincV X7.here hexec rfl 1 (hb hbytes d38) (by decide) rfl rfl ?_
        refine XS.goto X7.here hexec rfl (pc0 := 41) rfl (hb hbytes d41) (by decide) rfl ?_
        exact Steps.refl _)
      have c10 : Steps p.tables e below (s₁.setTop (entryFrame m #[.ref b, .int (Int32.ofNat o), .ref d, .int (Int32.ofNat q), .int (Int32.ofNat len)] 7)) (T7.setTop (mkF m 3 #[.val (.ref b), .val (.int (Int32.ofNat (o + (i + 1)))), .val (.ref d), .val (.int (Int32.ofNat (q + (i + 1)))), .val (.int (Int32.ofNat len)), .val (.int (Int32.ofNat (i + 1))), .val (.int (cv A (o + i)))] [])) := by
        have := c9
        rw [succ32, succ32, succ32] at this
        exact this
      exact ih (i + 1) (by omega) _ (Or.inr ⟨_, rfl, rfl⟩) T7 _ (by rw [copyLocs_step, ← List.append_assoc]; exact X7) (pl.trans p7) (fl.step (by omega) hlt (by simp)) c10
  obtain ⟨T9, B9, z9, X9, p9, f9, g9⟩ := loop len 0 (by omega) .unset (Or.inl rfl) s₁ B (by simpa [copyLocs] using X0) ⟨hB0.1, fun _ _ => rfl, rfl⟩ (Laid.zero _ _ _) c2
  have c11 : Steps p.tables e below (s₁.setTop (entryFrame m #[.ref b, .int (Int32.ofNat o), .ref d, .int (Int32.ofNat q), .int (Int32.ofNat len)] 7)) (T9.setTop (mkF m 46 #[.val (.ref b), .val (.int (Int32.ofNat (o + len))), .val (.ref d), .val (.int (Int32.ofNat (q + len))), .val (.int (Int32.ofNat len)), .val (.int (Int32.ofNat len)), z9] [.int (Int32.ofNat len)])) := g9.trans (by
    refine XS.iload X9.here hexec rfl (hb hbytes d3) rfl ?_
    refine XS.iload X9.here hexec rfl (hb hbytes d5) rfl ?_
    refine XS.icmpYes X9.here hexec rfl (pc0 := 7) rfl (hb hbytes d7) rfl (ii_ge_t (nlt32 (by omega) (Nat.le_refl _))) (by decide) rfl ?_
    refine XS.iload X9.here hexec rfl (hb hbytes d44) rfl ?_
    exact Steps.refl _)
  exact ⟨T9, some (.int (Int32.ofNat len)), _, _, _, X9, by simp, rfl, rfl, (fun h => by cases h), ⟨rfl, B9, p9.from hh0, f9⟩, fun fs hl => c11.trans (X9.ireturnOut hexec hret rfl (Or.inl rfl) (hb hbytes d46) hl)⟩
end Cmp5
namespace Cmp3
def yN : MethodName := ⟨"java/lang/StringUTF16", "compress", "([CII)[B"⟩
abbrev yB : ByteArray := jdk_52_method_16_code
theorem d0 : decode yB 0 = .ok (.iload_n 2, 1) := by decide +kernel
theorem d1 : decode yB 1 = .ok (.newarray .byte, 2) := by decide +kernel
theorem d3 : decode yB 3 = .ok (.astore_n 3, 1) := by decide +kernel
theorem d4 : decode yB 4 = .ok (.aload_n 0, 1) := by decide +kernel
theorem d5 : decode yB 5 = .ok (.iload_n 1, 1) := by decide +kernel
theorem d6 : decode yB 6 = .ok (.aload_n 3, 1) := by decide +kernel
theorem d7 : decode yB 7 = .ok (.iconst 0, 1) := by decide +kernel
theorem d8 : decode yB 8 = .ok (.iload_n 2, 1) := by decide +kernel
theorem d9 : decode yB 9 = .ok (.invokestatic 115, 3) := by decide +kernel
theorem d12 : decode yB 12 = .ok (.istore 4, 2) := by decide +kernel
theorem d14 : decode yB 14 = .ok (.iload 4, 2) := by decide +kernel
theorem d16 : decode yB 16 = .ok (.iload_n 2, 1) := by decide +kernel
theorem d17 : decode yB 17 = .ok (.if_icmp (.eq) 40, 3) := by decide +kernel
theorem d57 : decode yB 57 = .ok (.aload_n 3, 1) := by decide +kernel
theorem d58 : decode yB 58 = .ok (.areturn, 1) := by decide +kernel
def site : List Cond := [.arrayClass .byte, Cmp5.tab] ++ staticW U16 115 Cmp5.yN
def tab : Cond := tabOf yN yB 6 (some (.array .byte)) site
def P (b : Addr) (A : Cell) (o len : Nat) (args : Array Value) (s : State) : Prop := args = #[.ref b, .int (Int32.ofNat o), .int (Int32.ofNat len)] ∧ Ch b A s ∧ o + len ≤ A.slots.size ∧ len ≤ 536870912 ∧ ∀ i, i < len → ¬ 255 < cv A (o + i)
def E (b : Addr) (A : Cell) (o len : Nat) (r : Option Value) (s u : State) : Prop := NewArr .byte "[B" len (fun j => .int (lo8 (cv A (o + j)))) r s u ∧ u.heap.size = s.heap.size + 1
/-- no char of the range above 255: a new byte[] of their low bytes -/
theorem law (l : Launch) (b : Addr) (A : Cell) (o len : Nat) : Law l yN 3 3 1 18 yB 6 (some (.array .byte)) site (P b A o len) (E b A o len) [] 1 len := by
  refine Law.of_walk (plainFor_of_name (by decide +kernel)) (by decide +kernel) (by decide +kernel) (by decide) (fun _ _ h => by rw [h.1]; rfl) (fun _ U U' hal hh h => ⟨h.1, h.2.1.mv hal hh, h.2.2⟩) (fun r U U' V V' h1 hal h2 h => ⟨NewArr.mv r U U' V V' h1 hal h2 h.1, by rw [h1, h2]; exact h.2⟩) ?_
  intro p e s m args below meth c s₁ X0 hexec hbytes hml hret hlk hnm hown hh0 W hP
  obtain ⟨rfl, hA, l1, l2, hp⟩ := hP
  have a31 := hA.1.2.2.2
  have c1 : Steps p.tables e below (s₁.setTop (entryFrame m #[.ref b, .int (Int32.ofNat o), .int (Int32.ofNat len)] 6)) (s₁.setTop (mkF m 0 #[.val (.ref b), .val (.int (Int32.ofNat o)), .val (.int (Int32.ofNat len)), .unset, .unset, .unset] [])) := entry rfl
  have c2 : Steps p.tables e below (s₁.setTop (entryFrame m #[.ref b, .int (Int32.ofNat o), .int (Int32.ofNat len)] 6)) (s₁.setTop (mkF m 1 #[.val (.ref b), .val (.int (Int32.ofNat o)), .val (.int (Int32.ofNat len)), .unset, .unset, .unset] [.int (Int32.ofNat len)])) := c1.trans (by
    refine XS.iloadN X0.here hexec rfl (hb hbytes d0) rfl ?_
    exact Steps.refl _)
  obtain ⟨T3, B3, X3, ba3, bs3, bv3, bh3, bf3, st3⟩ := X0.anew hexec (atype := .byte) (wk W (.arrayClass .byte)) rfl (by show len * 1 ≤ _; omega) (by omega) (g := (mkF m 1 #[.val (.ref b), .val (.int (Int32.ofNat o)), .val (.int (Int32.ofNat len)), .unset, .unset, .unset] [.int (Int32.ofNat len)])) rfl (hb hbytes d1) (rest := []) rfl (Nat.le_refl _) (by show 0 + len ≤ len; omega)
  rw [hh0] at ba3 st3
  have kp3 : XT.Kept s T3 := (XT.Kept.of_eq hh0).push bh3
  have hA3 := hA.keep X3.warmed.alike (kp3 _ _ hA.1.1)
  have hne : b ≠ s.heap.size := hA.1.ne
  have c4 : Steps p.tables e below (s₁.setTop (entryFrame m #[.ref b, .int (Int32.ofNat o), .int (Int32.ofNat len)] 6)) (T3.setTop (mkF m 3 #[.val (.ref b), .val (.int (Int32.ofNat o)), .val (.int (Int32.ofNat len)), .unset, .unset, .unset] [.ref s.heap.size])) := c2.trans (st3 _ (Steps.refl _))
  have c5 : Steps p.tables e below (s₁.setTop (entryFrame m #[.ref b, .int (Int32.ofNat o), .int (Int32.ofNat len)] 6)) (T3.setTop (mkF m 9 #[.val (.ref b), .val (.int (Int32.ofNat o)), .val (.int (Int32.ofNat len)), .val (.ref s.heap.size), .unset, .unset] [.int (Int32.ofNat len), .int 0, .ref s.heap.size, .int (Int32.ofNat o), .ref b])) := c4.trans (by
    refine XS.astoreN X3.here hexec rfl (hb hbytes d3) rfl rfl rfl ?_
    refine XS.aloadN X3.here hexec rfl (hb hbytes d4) rfl rfl ?_
    refine XS.iloadN X3.here hexec rfl (hb hbytes d5) rfl ?_
    refine XS.aloadN X3.here hexec rfl (hb hbytes d6) rfl rfl ?_
    refine iconstV X3.here hexec rfl 0 (hb hbytes d7) (by decide) ?_
    refine XS.iloadN X3.here hexec rfl (hb hbytes d8) rfl ?_
    exact Steps.refl _)
  obtain ⟨v6, T6, X6, E6, g6⟩ := X3.callS hexec (Cmp5.law l b A s.heap.size B3 o 0 len) hown (wks W (staticW U16 115 Cmp5.yN)) (wk W Cmp5.tab) (W := 0) (Nat.le_of_ble_eq_true rfl) (Nat.le_of_ble_eq_true rfl) (Nat.le_refl _) (by show 0 + len + 0 ≤ len; omega) (g := (mkF m 9 #[.val (.ref b), .val (.int (Int32.ofNat o)), .val (.int (Int32.ofNat len)), .val (.ref s.heap.size), .unset, .unset] [.int (Int32.ofNat len), .int (Int32.ofNat 0), .ref s.heap.size, .int (Int32.ofNat o), .ref b])) rfl (by rw [hml]; rfl) c5 (argsL := [.ref b, .int (Int32.ofNat o), .ref s.heap.size, .int (Int32.ofNat 0), .int (Int32.ofNat len)]) (rest := []) rfl rfl (by show 2 * 0 + 0 ≤ _; decide) (hb hbytes d9) (⟨rfl, hA3, ba3, hne, l1, by rw [bs3]; simp, hp⟩)
  obtain ⟨rfl, B6, p6, f6⟩ := E6
  have c7 : Steps p.tables e below (s₁.setTop (entryFrame m #[.ref b, .int (Int32.ofNat o), .int (Int32.ofNat len)] 6)) (T6.setTop (mkF m 12 #[.val (.ref b), .val (.int (Int32.ofNat o)), .val (.int (Int32.ofNat len)), .val (.ref s.heap.size), .unset, .unset] [.int (Int32.ofNat len)])) := g6
  have c8 : Steps p.tables e below (s₁.setTop (entryFrame m #[.ref b, .int (Int32.ofNat o), .int (Int32.ofNat len)] 6)) (T6.setTop (mkF m 58 #[.val (.ref b), .val (.int (Int32.ofNat o)), .val (.int (Int32.ofNat len)), .val (.ref s.heap.size), .val (.int (Int32.ofNat len)), .unset] [.ref s.heap.size])) := c7.trans (by
    refine XS.istore X6.here hexec rfl (hb hbytes d12) rfl rfl ?_
    refine XS.iload X6.here hexec rfl (hb hbytes d14) rfl ?_
    refine XS.iloadN X6.here hexec rfl (hb hbytes d16) rfl ?_
    refine XS.icmpYes X6.here hexec rfl (pc0 := 17) rfl (hb hbytes d17) rfl (ii_eq_t rfl) (by decide) rfl ?_
    refine XS.aloadN X6.here hexec rfl (hb hbytes d57) rfl rfl ?_
    exact Steps.refl _)
  have X8 := X6.wide (L' := []) (cells' := 1) (slots' := len) (fun x hx hlt => by
    simp only [List.nil_append, copyLocs, List.mem_map, List.mem_range] at hx
    obtain ⟨i, -, rfl⟩ := hx
    exact absurd hlt (Nat.lt_irrefl _)) (Nat.le_refl _) (by omega)
  exact ⟨T6, some (.ref s.heap.size), _, _, _, X8, rfl, rfl, rfl, (fun h => by cases h), ⟨⟨rfl, B6, ba3.like (X3.warmed.alike.symm.trans X6.warmed.alike) p6.1 f6.1 f6.2.1 f6.2.2.1, f6.2.1.trans bv3, by rw [X6.warmed.alike.findClass, f6.1]; exact bf3, by rw [f6.2.2.1, bs3]; simp, fun j hj => by rw [f6.2.2.2 j, if_pos (by omega)]; rfl, kp3.put p6 (Nat.le_refl _)⟩, by rw [p6.2.2, bh3, hh0]; simp⟩, fun fs hl => c8.trans (X8.areturnOut hexec rfl hret rfl (hb hbytes d58) hl)⟩
end Cmp3
namespace CodL
def yN : MethodName := ⟨"java/lang/StringUTF16", "coderFromArrayLen", "([BI)B"⟩
abbrev yB : ByteArray := jdk_52_method_15_code
theorem d0 : decode yB 0 = .ok (.iload_n 1, 1) := by decide +kernel
theorem d1 : decode yB 1 = .ok (.aload_n 0, 1) := by decide +kernel
theorem d2 : decode yB 2 = .ok (.arraylength, 1) := by decide +kernel
theorem d3 : decode yB 3 = .ok (.isub, 1) := by decide +kernel
theorem d4 : decode yB 4 = .ok (.bipush 31, 2) := by decide +kernel
theorem d6 : decode yB 6 = .ok (.iushr, 1) := by decide +kernel
theorem d7 : decode yB 7 = .ok (.i2b, 1) := by decide +kernel
theorem d8 : decode yB 8 = .ok (.ireturn, 1) := by decide +kernel
def site : List Cond := []
def tab : Cond := tabOf yN yB 2 (some .byte) site
def P (d : Addr) (B : Cell) (args : Array Value) (s : State) : Prop := args = #[.ref d, .int (Int32.ofNat B.slots.size)] ∧ Arr .byte d B s
def E (r : Option Value) (s u : State) : Prop := XT.PureE (some (.int 0)) r s u
/-- an array as long as the number of chars: LATIN1 -/
theorem law (l : Launch) (d : Addr) (B : Cell) : Law l yN 2 2 0 0 yB 2 (some .byte) site (P d B) E [] 0 0 := by
  refine Law.of_walk (plainFor_of_name (by decide +kernel)) (by decide +kernel) (by decide +kernel) (by decide) (fun _ _ h => by rw [h.1]; rfl) (fun _ U U' hal hh h => ⟨h.1, h.2.mv hal hh⟩) (fun r U U' V V' h1 hal h2 h => XT.PureE.mv r U U' V V' h1 hal h2 h) ?_
  intro p e s m args below meth c s₁ X0 hexec hbytes hml hret hlk hnm hown hh0 W hP
  obtain ⟨rfl, hB⟩ := hP
  have hB0 := hB.mv X0.warmed.alike hh0
  have c1 : Steps p.tables e below (s₁.setTop (entryFrame m #[.ref d, .int (Int32.ofNat B.slots.size)] 2)) (s₁.setTop (mkF m 0 #[.val (.ref d), .val (.int (Int32.ofNat B.slots.size))] [])) := entry rfl
  have c2 : Steps p.tables e below (s₁.setTop (entryFrame m #[.ref d, .int (Int32.ofNat B.slots.size)] 2)) (s₁.setTop (mkF m 2 #[.val (.ref d), .val (.int (Int32.ofNat B.slots.size))] [.ref d, .int (Int32.ofNat B.slots.size)])) := c1.trans (by
    refine XS.iloadN X0.here hexec rfl (hb hbytes d0) rfl ?_
    refine XS.aloadN X0.here hexec rfl (hb hbytes d1) rfl rfl ?_
    exact Steps.refl _)
  have c3 : Steps p.tables e below (s₁.setTop (entryFrame m #[.ref d, .int (Int32.ofNat B.slots.size)] 2)) (s₁.setTop (mkF m 8 #[.val (.ref d), .val (.int (Int32.ofNat B.slots.size))] [.int (lo8 (ushr (Int32.ofNat B.slots.size - Int32.ofNat B.slots.size) 31))])) := c2.trans (by
    refine X0.alen hexec hB0 rfl rfl (hb hbytes d2) ?_
    refine XS.isub X0.here hexec rfl (hb hbytes d3) rfl ?_
    refine bipushV X0.here hexec rfl 31 (hb hbytes d4) (by decide) ?_
    refine iushr X0.here hexec rfl (hb hbytes d6) rfl ?_
    refine i2b X0.here hexec rfl (hb hbytes d7) rfl ?_
    exact Steps.refl _)
  have e0 : lo8 (ushr (Int32.ofNat B.slots.size - Int32.ofNat B.slots.size) 31) = 0 := by rw [Int32.sub_self]; decide
  rw [e0] at c3
  exact ⟨s₁, some (.int 0), _, _, _, X0, rfl, rfl, rfl, (fun h => by cases h), ⟨rfl, hh0⟩, fun fs hl => c3.trans (X0.ireturnOut hexec hret rfl (Or.inr (Or.inr (Or.inl rfl))) (hb hbytes d8) hl)⟩
end CodL
/-- the String at a is Latin-1 over a new byte[] (the heap's one new cell): the low bytes of the len chars of A from o on; every cell but a is kept -/
def Got (a : Addr) (D : Cell) (fV fC : Field) (A : Cell) (o len : Nat) (r : Option Value) (s u : State) : Prop := r = none ∧ ∃ D' V : Cell, Blank "java/lang/String" a D' u ∧ Same D D' [fV.slot, fC.slot] ∧ D'.slots[fV.slot]? = some (.ref s.heap.size) ∧ D'.slots[fC.slot]? = some (.int 0) ∧ Arr .byte s.heap.size V u ∧ V.vm = .none ∧ u.vm.findClass "[B" = some V.cls ∧ V.slots.size = len ∧ (∀ j, j < len → V.slots[j]? = some (.int (lo8 (cv A (o + j))))) ∧ (∀ (y : Addr) (c : Cell), y ≠ a → s.heap[y]? = some c → u.heap[y]? = some c) ∧ u.heap.size = s.heap.size + 1
theorem Got.mv {a : Addr} {D A : Cell} {fV fC : Field} {o len : Nat} : ∀ r (U U' V V' : State), U'.heap = U.heap → V.vm.Alike V'.vm → V'.heap = V.heap → Got a D fV fC A o len r U V → Got a D fV fC A o len r U' V' :=
  fun r U U' V V' h1 hal h2 ⟨e0, D', X, a1, a2, a3, a4, a5, a6, a7, a8, a9, a10, a11⟩ => ⟨e0, D', X, a1.mv hal h2, a2, by rw [h1]; exact a3, a4, by rw [h1]; exact a5.mv hal h2, a6, by rw [hal.findClass]; exact a7, a8, a9, by rw [h1, h2]; exact a10, by rw [h1, h2]; exact a11⟩
namespace New4
def yN : MethodName := ⟨"java/lang/String", "<init>", "([CIILjava/lang/Void;)V"⟩
abbrev yB : ByteArray := jdk_42_method_149_code
theorem d0 : decode yB 0 = .ok (.aload_n 0, 1) := by decide +kernel
theorem d1 : decode yB 1 = .ok (.invokespecial 1, 3) := by decide +kernel
theorem d4 : decode yB 4 = .ok (.iload_n 3, 1) := by decide +kernel
theorem d5 : decode yB 5 = .ok (.ifCond (.ne) 22, 3) := by decide +kernel
theorem d27 : decode yB 27 = .ok (.getstatic 38, 3) := by decide +kernel
theorem d30 : decode yB 30 = .ok (.ifCond (.eq) 28, 3) := by decide +kernel
theorem d33 : decode yB 33 = .ok (.aload_n 1, 1) := by decide +kernel
theorem d34 : decode yB 34 = .ok (.iload_n 2, 1) := by decide +kernel
theorem d35 : decode yB 35 = .ok (.iload_n 3, 1) := by decide +kernel
theorem d36 : decode yB 36 = .ok (.invokestatic 177, 3) := by decide +kernel
theorem d39 : decode yB 39 = .ok (.astore 5, 2) := by decide +kernel
theorem d41 : decode yB 41 = .ok (.aload_n 0, 1) := by decide +kernel
theorem d42 : decode yB 42 = .ok (.aload 5, 2) := by decide +kernel
theorem d44 : decode yB 44 = .ok (.iload_n 3, 1) := by decide +kernel
theorem d45 : decode yB 45 = .ok (.invokestatic 47, 3) := by decide +kernel
theorem d48 : decode yB 48 = .ok (.putfield 15, 3) := by decide +kernel
theorem d51 : decode yB 51 = .ok (.aload_n 0, 1) := by decide +kernel
theorem d52 : decode yB 52 = .ok (.aload 5, 2) := by decide +kernel
theorem d54 : decode yB 54 = .ok (.putfield 9, 3) := by decide +kernel
theorem d57 : decode yB 57 = .ok (.return_, 1) := by decide +kernel
def site : List Cond := [.fieldLink "java/lang/String" 38 "java/lang/String" "COMPACT_STRINGS" "Z", Cmp3.tab, CodL.tab, .laysFinal "java/lang/String" "java/lang/String" "value" "[B", .fieldLink "java/lang/String" 9 "java/lang/String" "value" "[B", .laysFinal "java/lang/String" "java/lang/String" "coder" "B", .fieldLink "java/lang/String" 15 "java/lang/String" "coder" "B"] ++ objW "java/lang/String" 1 ++ staticW "java/lang/String" 177 Cmp3.yN ++ staticW "java/lang/String" 47 CodL.yN
def tab : Cond := tabOf yN yB 6 none site
def P (a : Addr) (D : Cell) (fV fC : Field) (b : Addr) (A : Cell) (z : Int32) (o len : Nat) (args : Array Value) (s : State) : Prop := args = #[.ref a, .ref b, .int (Int32.ofNat o), .int (Int32.ofNat len), .null] ∧ Blank "java/lang/String" a D s ∧ Found "java/lang/String" "value" "[B" fV s ∧ Found "java/lang/String" "coder" "B" fC s ∧ Ch b A s ∧ StaticIs s "java/lang/String" "COMPACT_STRINGS" "Z" (.int z) ∧ ¬ z = 0 ∧ 0 < len ∧ o + len ≤ A.slots.size ∧ len ≤ 536870912 ∧ ∀ i, i < len → ¬ 255 < cv A (o + i)
def E (a : Addr) (D : Cell) (fV fC : Field) (A : Cell) (o len : Nat) (r : Option Value) (s u : State) : Prop := Got a D fV fC A o len r s u
/-- len > 0, no char of the range above 255: a Latin-1 String of their low bytes -/
theorem law (l : Launch) (a : Addr) (D : Cell) (fV fC : Field) (b : Addr) (A : Cell) (z : Int32) (o len : Nat) : Law l yN 5 4 2 35 yB 6 none site (P a D fV fC b A z o len) (E a D fV fC A o len) [⟨a, fC.slot⟩, ⟨a, fV.slot⟩] 1 len := by
  refine Law.of_walk (plainFor_of_name (by decide +kernel)) (by decide +kernel) (by decide +kernel) (by decide) (fun _ _ h => by rw [h.1]; rfl) (fun _ U U' hal hh h => ⟨h.1, h.2.1.mv hal hh, h.2.2.1.al hal, h.2.2.2.1.al hal, h.2.2.2.2.1.mv hal hh, h.2.2.2.2.2.1.there hal hh, h.2.2.2.2.2.2⟩) (fun r U U' V V' h1 hal h2 h => Got.mv r U U' V V' h1 hal h2 h) ?_
  intro p e s m args below meth c s₁ X0 hexec hbytes hml hret hlk hnm hown hh0 W hP
  obtain ⟨rfl, hB, f1, f2, hA, s1, hz, l0, l1, l2, hp⟩ := hP
  have a31 := hA.1.2.2.2
  have c1 : Steps p.tables e below (s₁.setTop (entryFrame m #[.ref a, .ref b, .int (Int32.ofNat o), .int (Int32.ofNat len), .null] 6)) (s₁.setTop (mkF m 0 #[.val (.ref a), .val (.ref b), .val (.int (Int32.ofNat o)), .val (.int (Int32.ofNat len)), .val .null, .unset] [])) := entry rfl
  have c2 : Steps p.tables e below (s₁.setTop (entryFrame m #[.ref a, .ref b, .int (Int32.ofNat o), .int (Int32.ofNat len), .null] 6)) (s₁.setTop (mkF m 1 #[.val (.ref a), .val (.ref b), .val (.int (Int32.ofNat o)), .val (.int (Int32.ofNat len)), .val .null, .unset] [.ref a])) := c1.trans (by
    refine XS.aloadN X0.here hexec rfl (hb hbytes d0) rfl rfl ?_
    exact Steps.refl _)
  obtain ⟨T3, X3, q3, st3⟩ := X0.oinit hexec hown (wks W (objW "java/lang/String" 1)) (g := (mkF m 1 #[.val (.ref a), .val (.ref b), .val (.int (Int32.ofNat o)), .val (.int (Int32.ofNat len)), .val .null, .unset] [.ref a])) rfl (by rw [hml]; rfl) (rest := []) rfl (hb hbytes d1) (W := 0) (by show 2 * 0 + 0 ≤ _; decide) (Nat.le_of_ble_eq_true rfl) (Nat.le_of_ble_eq_true rfl)
  have hh3 := q3.trans hh0
  have c4 : Steps p.tables e below (s₁.setTop (entryFrame m #[.ref a, .ref b, .int (Int32.ofNat o), .int (Int32.ofNat len), .null] 6)) (T3.setTop (mkF m 27 #[.val (.ref a), .val (.ref b), .val (.int (Int32.ofNat o)), .val (.int (Int32.ofNat len)), .val .null, .unset] [])) := (c2.trans (st3 _ (Steps.refl _))).trans (by
    refine XS.iloadN X3.here hexec rfl (hb hbytes d4) rfl ?_
    refine XS.ifYes X3.here hexec rfl (pc0 := 5) rfl (hb hbytes d5) rfl (i0_ne_t (nz32 (by omega) l0)) (by decide) rfl ?_
    exact Steps.refl _)
  obtain ⟨T5, X5, q5, st5⟩ := X3.sget hexec hown (wk W (.fieldLink "java/lang/String" 38 "java/lang/String" "COMPACT_STRINGS" "Z")) s1 (fun _ _ h => by rw [hh3]; exact h) (g := (mkF m 27 #[.val (.ref a), .val (.ref b), .val (.int (Int32.ofNat o)), .val (.int (Int32.ofNat len)), .val .null, .unset] [])) rfl (hb hbytes d27)
  have hh5 := q5.trans hh3
  have c6 : Steps p.tables e below (s₁.setTop (entryFrame m #[.ref a, .ref b, .int (Int32.ofNat o), .int (Int32.ofNat len), .null] 6)) (T5.setTop (mkF m 30 #[.val (.ref a), .val (.ref b), .val (.int (Int32.ofNat o)), .val (.int (Int32.ofNat len)), .val .null, .unset] [.int z])) := c4.trans (st5 _ (Steps.refl _))
  have c7 : Steps p.tables e below (s₁.setTop (entryFrame m #[.ref a, .ref b, .int (Int32.ofNat o), .int (Int32.ofNat len), .null] 6)) (T5.setTop (mkF m 36 #[.val (.ref a), .val (.ref b), .val (.int (Int32.ofNat o)), .val (.int (Int32.ofNat len)), .val .null, .unset] [.int (Int32.ofNat len), .int (Int32.ofNat o), .ref b])) := c6.trans (by
    refine XS.ifNo X5.here hexec rfl (hb hbytes d30) rfl (i0_eq_f hz) ?_
    refine XS.aloadN X5.here hexec rfl (hb hbytes d33) rfl rfl ?_
    refine XS.iloadN X5.here hexec rfl (hb hbytes d34) rfl ?_
    refine XS.iloadN X5.here hexec rfl (hb hbytes d35) rfl ?_
    exact Steps.refl _)
  obtain ⟨v8, T8, X8, E8, g8⟩ := X5.callS hexec (Cmp3.law l b A o len) hown (wks W (staticW "java/lang/String" 177 Cmp3.yN)) (wk W Cmp3.tab) (W := 0) (Nat.le_of_ble_eq_true rfl) (Nat.le_of_ble_eq_true rfl) (Nat.le_refl _) (by show 0 + len ≤ len; omega) (g := (mkF m 36 #[.val (.ref a), .val (.ref b), .val (.int (Int32.ofNat o)), .val (.int (Int32.ofNat len)), .val .null, .unset] [.int (Int32.ofNat len), .int (Int32.ofNat o), .ref b])) rfl (by rw [hml]; rfl) c7 (argsL := [.ref b, .int (Int32.ofNat o), .int (Int32.ofNat len)]) (rest := []) rfl rfl (by show 2 * 0 + 0 ≤ _; decide) (hb hbytes d36) (⟨rfl, hA.mv X5.warmed.alike hh5, l1, l2, hp⟩)
  obtain ⟨e8, z8⟩ := E8
  obtain ⟨rfl, N, n1, n2, n3, n4, n5, n6⟩ := NewArr.mv _ T5 s _ _ hh5.symm (Vm.Alike.refl _) rfl e8
  rw [hh5] at z8
  have hB1 := hB.keep X8.warmed.alike (n6 _ _ hB.1)
  have hne : s.heap.size ≠ a := (Nat.ne_of_lt (Array.getElem?_eq_some_iff.mp hB.1).1).symm
  have c9 : Steps p.tables e below (s₁.setTop (entryFrame m #[.ref a, .ref b, .int (Int32.ofNat o), .int (Int32.ofNat len), .null] 6)) (T8.setTop (mkF m 39 #[.val (.ref a), .val (.ref b), .val (.int (Int32.ofNat o)), .val (.int (Int32.ofNat len)), .val .null, .unset] [.ref s.heap.size])) := g8
  have c10 : Steps p.tables e below (s₁.setTop (entryFrame m #[.ref a, .ref b, .int (Int32.ofNat o), .int (Int32.ofNat len), .null] 6)) (T8.setTop (mkF m 45 #[.val (.ref a), .val (.ref b), .val (.int (Int32.ofNat o)), .val (.int (Int32.ofNat len)), .val .null, .val (.ref s.heap.size)] [.int (Int32.ofNat N.slots.size), .ref s.heap.size, .ref a])) := by
    have hc : Steps p.tables e below (s₁.setTop (entryFrame m #[.ref a, .ref b, .int (Int32.ofNat o), .int (Int32.ofNat len), .null] 6)) (T8.setTop (mkF m 45 #[.val (.ref a), .val (.ref b), .val (.int (Int32.ofNat o)), .val (.int (Int32.ofNat len)), .val .null, .val (.ref s.heap.size)] [.int (Int32.ofNat len), .ref s.heap.size, .ref a])) := c9.trans (by
      refine XS.astore X8.here hexec rfl (hb hbytes d39) rfl rfl rfl ?_
      refine XS.aloadN X8.here hexec rfl (hb hbytes d41) rfl rfl ?_
      refine XS.aload X8.here hexec rfl (hb hbytes d42) rfl rfl ?_
      refine XS.iloadN X8.here hexec rfl (hb hbytes d44) rfl ?_
      exact Steps.refl _)
    rw [n4]; exact hc
  obtain ⟨v11, T11, X11, E11, g11⟩ := X8.callS hexec (CodL.law l s.heap.size N) hown (wks W (staticW "java/lang/String" 47 CodL.yN)) (wk W CodL.tab) (W := 1) (Nat.le_of_ble_eq_true rfl) (Nat.le_of_ble_eq_true rfl) (Nat.le_refl _) (by show 0 + len + 0 ≤ len; omega) (g := (mkF m 45 #[.val (.ref a), .val (.ref b), .val (.int (Int32.ofNat o)), .val (.int (Int32.ofNat len)), .val .null, .val (.ref s.heap.size)] [.int (Int32.ofNat N.slots.size), .ref s.heap.size, .ref a])) rfl (by rw [hml]; rfl) c10 (argsL := [.ref s.heap.size, .int (Int32.ofNat N.slots.size)]) (rest := [.ref a]) rfl rfl (by show 2 * 0 + (1 + 0) ≤ _; decide) (hb hbytes d45) (⟨rfl, n1⟩)
  obtain ⟨rfl, q11⟩ := E11
  have hB11 := hB1.mv (X8.warmed.alike.symm.trans X11.warmed.alike) q11
  have c12 : Steps p.tables e below (s₁.setTop (entryFrame m #[.ref a, .ref b, .int (Int32.ofNat o), .int (Int32.ofNat len), .null] 6)) (T11.setTop (mkF m 48 #[.val (.ref a), .val (.ref b), .val (.int (Int32.ofNat o)), .val (.int (Int32.ofNat len)), .val .null, .val (.ref s.heap.size)] [.int 0, .ref a])) := g11
  obtain ⟨T13, X13, p13, bl13, sl13, st13⟩ := X11.finit hexec hown (wk W (.fieldLink "java/lang/String" 15 "java/lang/String" "coder" "B")) (Or.inr ⟨_, (wk W (.laysFinal "java/lang/String" "java/lang/String" "coder" "B"))⟩) (Or.inl ⟨rfl, hnm⟩) f2 (Or.inl rfl) hB11 (t := .byte) (by decide +kernel) rfl (g := (mkF m 48 #[.val (.ref a), .val (.ref b), .val (.int (Int32.ofNat o)), .val (.int (Int32.ofNat len)), .val .null, .val (.ref s.heap.size)] [.int 0, .ref a])) rfl (rest := []) rfl (hb hbytes d48)
  have c14 : Steps p.tables e below (s₁.setTop (entryFrame m #[.ref a, .ref b, .int (Int32.ofNat o), .int (Int32.ofNat len), .null] 6)) (T13.setTop (mkF m 54 #[.val (.ref a), .val (.ref b), .val (.int (Int32.ofNat o)), .val (.int (Int32.ofNat len)), .val .null, .val (.ref s.heap.size)] [.ref s.heap.size, .ref a])) := (c12.trans (st13 _ (Steps.refl _))).trans (by
    refine XS.aloadN X13.here hexec rfl (hb hbytes d51) rfl rfl ?_
    refine XS.aload X13.here hexec rfl (hb hbytes d52) rfl rfl ?_
    exact Steps.refl _)
  obtain ⟨T15, X15, p15, bl15, sl15, st15⟩ := X13.finit hexec hown (wk W (.fieldLink "java/lang/String" 9 "java/lang/String" "value" "[B")) (Or.inr ⟨_, (wk W (.laysFinal "java/lang/String" "java/lang/String" "value" "[B"))⟩) (Or.inl ⟨rfl, hnm⟩) f1 (Or.inl rfl) bl13 (t := (.array .byte)) (by decide +kernel) rfl (g := (mkF m 54 #[.val (.ref a), .val (.ref b), .val (.int (Int32.ofNat o)), .val (.int (Int32.ofNat len)), .val .null, .val (.ref s.heap.size)] [.ref s.heap.size, .ref a])) rfl (rest := []) rfl (hb hbytes d54)
  have c16 : Steps p.tables e below (s₁.setTop (entryFrame m #[.ref a, .ref b, .int (Int32.ofNat o), .int (Int32.ofNat len), .null] 6)) (T15.setTop (mkF m 57 #[.val (.ref a), .val (.ref b), .val (.int (Int32.ofNat o)), .val (.int (Int32.ofNat len)), .val .null, .val (.ref s.heap.size)] [])) := c14.trans (st15 _ (Steps.refl _))
  have ap := apart (Or.inr ⟨_, (wk W (.laysFinal "java/lang/String" "java/lang/String" "value" "[B"))⟩) (Or.inr ⟨_, (wk W (.laysFinal "java/lang/String" "java/lang/String" "coder" "B"))⟩) f1 f2 (t₁ := .array .byte) (t₂ := .byte) (by decide +kernel) (by decide +kernel) (by decide)
  have al := X8.warmed.alike.symm.trans X15.warmed.alike
  have n7 : T11.heap[s.heap.size]? = some N := by rw [q11]; exact n1.1
  exact ⟨T15, none, _, _, _, X15, by simp, rfl, by omega, (fun _ => rfl), ⟨rfl, _, N, bl15, ((Same.refl D _).set _ (by simp)).set _ (by simp), sl15, (Cell.slots_setSlot_ne _ ap).trans sl13, n1.keep al (p15.other hne (p13.other hne n7)), n2, by rw [al.findClass]; exact n3, n4, n5, fun y c h1 h2 => p15.other h1 (p13.other h1 (by rw [q11]; exact n6 y c h2)), by rw [p15.2.2, p13.2.2, q11]; exact z8⟩, fun fs hl => c16.trans (X15.returnOut hexec hret (hb hbytes d57) hl)⟩
end New4
namespace New1
def yN : MethodName := ⟨"java/lang/String", "<init>", "([C)V"⟩
abbrev yB : ByteArray := jdk_42_method_3_code
theorem d0 : decode yB 0 = .ok (.aload_n 0, 1) := by decide +kernel
theorem d1 : decode yB 1 = .ok (.aload_n 1, 1) := by decide +kernel
theorem d2 : decode yB 2 = .ok (.iconst 0, 1) := by decide +kernel
theorem d3 : decode yB 3 = .ok (.aload_n 1, 1) := by decide +kernel
theorem d4 : decode yB 4 = .ok (.arraylength, 1) := by decide +kernel
theorem d5 : decode yB 5 = .ok (.aconst_null, 1) := by decide +kernel
theorem d6 : decode yB 6 = .ok (.invokespecial 27, 3) := by decide +kernel
theorem d9 : decode yB 9 = .ok (.return_, 1) := by decide +kernel
def site : List Cond := [New4.tab] ++ initW "java/lang/String" 27 New4.yN
def tab : Cond := tabOf yN yB 2 none site
def P (a : Addr) (D : Cell) (fV fC : Field) (b : Addr) (A : Cell) (z : Int32) (args : Array Value) (s : State) : Prop := args = #[.ref a, .ref b] ∧ Blank "java/lang/String" a D s ∧ Found "java/lang/String" "value" "[B" fV s ∧ Found "java/lang/String" "coder" "B" fC s ∧ Ch b A s ∧ StaticIs s "java/lang/String" "COMPACT_STRINGS" "Z" (.int z) ∧ ¬ z = 0 ∧ 0 < A.slots.size ∧ A.slots.size ≤ 536870912 ∧ ∀ i, i < A.slots.size → ¬ 255 < cv A i
def E (a : Addr) (D : Cell) (fV fC : Field) (A : Cell) (r : Option Value) (s u : State) : Prop := Got a D fV fC A 0 A.slots.size r s u
/-- new String(chars), not empty, no char above 255: a Latin-1 String of their low bytes -/
theorem law (l : Launch) (a : Addr) (D : Cell) (fV fC : Field) (b : Addr) (A : Cell) (z : Int32) : Law l yN 2 1 3 52 yB 2 none site (P a D fV fC b A z) (E a D fV fC A) [⟨a, fC.slot⟩, ⟨a, fV.slot⟩] 1 A.slots.size := by
  refine Law.of_walk (plainFor_of_name (by decide +kernel)) (by decide +kernel) (by decide +kernel) (by decide) (fun _ _ h => by rw [h.1]; rfl) (fun _ U U' hal hh h => ⟨h.1, h.2.1.mv hal hh, h.2.2.1.al hal, h.2.2.2.1.al hal, h.2.2.2.2.1.mv hal hh, h.2.2.2.2.2.1.there hal hh, h.2.2.2.2.2.2⟩) (fun r U U' V V' h1 hal h2 h => Got.mv r U U' V V' h1 hal h2 h) ?_
  intro p e s m args below meth c s₁ X0 hexec hbytes hml hret hlk hnm hown hh0 W hP
  obtain ⟨rfl, hB, f1, f2, hA, s1, hz, l0, l2, hp⟩ := hP
  have c1 : Steps p.tables e below (s₁.setTop (entryFrame m #[.ref a, .ref b] 2)) (s₁.setTop (mkF m 0 #[.val (.ref a), .val (.ref b)] [])) := entry rfl
  have c2 : Steps p.tables e below (s₁.setTop (entryFrame m #[.ref a, .ref b] 2)) (s₁.setTop (mkF m 6 #[.val (.ref a), .val (.ref b)] [.null, .int (Int32.ofNat A.slots.size), .int 0, .ref b, .ref a])) := c1.trans (by
    refine XS.aloadN X0.here hexec rfl (hb hbytes d0) rfl rfl ?_
    refine XS.aloadN X0.here hexec rfl (hb hbytes d1) rfl rfl ?_
    refine iconstV X0.here hexec rfl 0 (hb hbytes d2) (by decide) ?_
    refine XS.aloadN X0.here hexec rfl (hb hbytes d3) rfl rfl ?_
    refine X0.alen hexec (hA.1.mv X0.warmed.alike hh0) rfl rfl (hb hbytes d4) ?_
    refine XS.aconstNull X0.here hexec rfl (hb hbytes d5) ?_
    exact Steps.refl _)
  obtain ⟨v3, T3, X3, E3, g3⟩ := X0.callN hexec (New4.law l a D fV fC b A z 0 A.slots.size) rfl hown (wks W (initW "java/lang/String" 27 New4.yN)) (W New4.tab (by simp only [site, List.mem_cons, List.mem_append, true_or, or_true])) (W := 0) (Nat.le_of_ble_eq_true rfl) (Nat.le_of_ble_eq_true rfl) (Nat.le_refl _) (by show 0 + A.slots.size ≤ A.slots.size; omega) (g := (mkF m 6 #[.val (.ref a), .val (.ref b)] [.null, .int (Int32.ofNat A.slots.size), .int (Int32.ofNat 0), .ref b, .ref a])) rfl (by rw [hml]; rfl) c2 (argsL := [.ref b, .int (Int32.ofNat 0), .int (Int32.ofNat A.slots.size), .null]) (rest := []) rfl rfl (by show 2 * 0 + 0 ≤ _; decide) (hb hbytes d6) (⟨rfl, hB.mv X0.warmed.alike hh0, f1.al X0.warmed.alike, f2.al X0.warmed.alike, hA.mv X0.warmed.alike hh0, s1.there X0.warmed.alike hh0, hz, l0, by omega, l2, fun i hi => by rw [Nat.zero_add]; exact hp i hi⟩)
  have e0 := Got.mv _ s₁ s _ _ hh0.symm (Vm.Alike.refl _) rfl E3
  obtain rfl := e0.1
  have c4 : Steps p.tables e below (s₁.setTop (entryFrame m #[.ref a, .ref b] 2)) (T3.setTop (mkF m 9 #[.val (.ref a), .val (.ref b)] [])) := g3
  exact ⟨T3, none, _, _, _, X3, by simp, rfl, by omega, (fun _ => rfl), e0, fun fs hl => c4.trans (X3.returnOut hexec hret (hb hbytes d9) hl)⟩
theorem pays {l : Launch} {R : Room} {p : Program} {e : Env} {below : List Frame} {s : State} {sargs : Array Value} {len W : Nat} (a : Addr) (D : Cell) (fV fC : Field) (b : Addr) (A : Cell) (z : Int32) (htab : tab.before sargs s = true) (hfr : 4 ≤ R.frames) (hlo : W + 65 ≤ R.locals) :
    Back l R p e below s sargs yN len W (fun A₁ a₁ => A₁.cells + 1 ≤ R.cells ∧ A₁.slots + A.slots.size ≤ R.slots ∧ P a D fV fC b A z a₁ A₁.U) (fun A₁ _ v₁ B₁ => E a D fV fC A v₁ A₁.U B₁.U ∧ B₁.locs = A₁.locs ++ [⟨a, fC.slot⟩, ⟨a, fV.slot⟩] ∧ B₁.cells = A₁.cells + 1 ∧ B₁.slots = A₁.slots + A.slots.size) :=
  (law l a D fV fC b A z).pays htab hfr (by omega)
end New1
end StrChars
namespace StrChars.Road
open Jvm Sem ClassFile Op Lib Jvm.Stand Jvm.Free Jvm.Free.XT
open Jvm.Lib.Cold (StaticIs)
abbrev ST : String := "java/lang/String"
/-- every table word that New1's law asks, flat -/
abbrev words : List Jvm.Cond := [.code New1.yN New1.yB 2 none, .initialized ST, .methodLink ST 27 New4.yN, .instanceMethod New4.yN,
  .code New4.yN New4.yB 6 none, .fieldLink ST 38 ST "COMPACT_STRINGS" "Z", .laysFinal ST ST "value" "[B", .fieldLink ST 9 ST "value" "[B", .laysFinal ST ST "coder" "B", .fieldLink ST 15 ST "coder" "B",
  .methodLink ST 1 Lib.objectInit, .instanceMethod Lib.objectInit, .code Lib.objectInit ⟨#[0xb1]⟩ 1 none, .methodLink ST 177 Cmp3.yN, .static Cmp3.yN, .methodLink ST 47 CodL.yN, .static CodL.yN,
  .code Cmp3.yN Cmp3.yB 6 (some (.array .byte)), .initialized U16, .arrayClass .byte, .methodLink U16 115 Cmp5.yN, .static Cmp5.yN, .code Cmp5.yN Cmp5.yB 7 (some .int), .code CodL.yN CodL.yB 2 (some .byte)]
theorem tab_of {a : Array Value} {s : State} (h : ∀ w ∈ words, w.before a s = true) : New1.tab.before a s = true := by
  have h5 : Cmp5.tab.before a s = true := unparts (wk h (.code Cmp5.yN Cmp5.yB 7 (some .int))) (wks h (.initialized Cmp5.yN.cls :: Cmp5.site))
  have hc : CodL.tab.before a s = true := unparts (wk h (.code CodL.yN CodL.yB 2 (some .byte))) (wks h (.initialized CodL.yN.cls :: CodL.site))
  have q5 : ∀ w ∈ Cmp5.tab :: words, w.before a s = true := fun w hw => (List.mem_cons.mp hw).elim (fun e => e ▸ h5) (h w)
  have h3 : Cmp3.tab.before a s = true := unparts (wk q5 (.code Cmp3.yN Cmp3.yB 6 (some (.array .byte)))) (wks q5 (.initialized Cmp3.yN.cls :: Cmp3.site))
  have q3 : ∀ w ∈ Cmp3.tab :: CodL.tab :: words, w.before a s = true := fun w hw => (List.mem_cons.mp hw).elim (fun e => e ▸ h3) fun hw => (List.mem_cons.mp hw).elim (fun e => e ▸ hc) (h w)
  have h4 : New4.tab.before a s = true := unparts (wk q3 (.code New4.yN New4.yB 6 none)) (wks q3 (.initialized New4.yN.cls :: New4.site))
  have q4 : ∀ w ∈ New4.tab :: words, w.before a s = true := fun w hw => (List.mem_cons.mp hw).elim (fun e => e ▸ h4) (h w)
  exact unparts (wk q4 (.code New1.yN New1.yB 2 none)) (wks q4 (.initialized New1.yN.cls :: New1.site))
/-- the words ride from the start Z to the walk's own state -/
theorem moved {Z s : State} {a0 args : Array Value} (hZ : Z.Warmed39 s.vm) (hw : ∀ d ∈ words, d.before a0 Z = true) : ∀ d ∈ words, d.before args s = true := fun d hd => by
  have q := hw d hd
  have t : ∀ d ∈ words, d = .arrayClass .byte ∨ (d.onTables && d.keepsFace) = true := by decide +kernel
  rcases t d hd with rfl | t
  · exact RoadKit.mvA hZ q
  · exact RoadKit.mv hZ q t
/-- WHAT COMES BACK, over the tables of the start Z: h the heap at the call, h' behind it -/
def Q (Z : State) (x : Addr) (A : Cell) (h : Heap) (v : Option Value) (h' : Heap) (L : List Loc) : Prop := v = none ∧ (∀ y ∈ L, y.base = x) ∧ RoadKit.Keep h h' [x] ∧ h'.size = h.size + 1 ∧ RoadKit.Exa Z h' x ST ∧ RoadKit.Fld Z h' x ST "value" "[B" (.ref h.size) ∧ RoadKit.Fld Z h' x ST "coder" "B" (.int 0) ∧
  (∃ V : Cell, RoadKit.Arr Z h' h.size V .byte ∧ V.vm = .none ∧ Z.vm.findClass "[B" = some V.cls ∧ V.slots.size = A.slots.size ∧ ∀ j, j < A.slots.size → V.slots[j]? = some (.int (lo8 (cv A j)))) ∧
  ∀ (O n d : String) (w : Value), RoadKit.Fld Z h x O n d w → RoadKit.slotOf Z O n d ≠ RoadKit.slotOf Z ST "value" "[B" → RoadKit.slotOf Z O n d ≠ RoadKit.slotOf Z ST "coder" "B" → RoadKit.Fld Z h' x O n d w
/-- **new String(chars) AT A CALL, IN THE ROAD'S FORM**: for specialBack behind newO: x the fresh String, b the char[] with the cell A -/
theorem back {p : Program} {l : Launch} {e : Env} {R : Room} {s : State} {args : Array Value} {below : List Frame} {len W : Nat} {Z : State} {a0 : Array Value} {h : Heap} (hZ : Z.Warmed39 s.vm) (hw : ∀ d ∈ words, d.before a0 Z = true) {kI : Nat} (wi : (Jvm.Cond.instantiable ST kI).before a0 Z = true)
    {x b : Addr} {A : Cell} {z : Int32} {v0 c0 : Value} (E : RoadKit.Exa Z h x ST) (V : RoadKit.Fld Z h x ST "value" "[B" v0) (C : RoadKit.Fld Z h x ST "coder" "B" c0) (K : RoadKit.Arr Z h b A .char) (hty : Typed .char A) (S : RoadKit.Sta Z h ST "COMPACT_STRINGS" "Z" (.int z)) (hz : ¬ z = 0)
    (l0 : 0 < A.slots.size) (l2 : A.slots.size ≤ 536870912) (hp : ∀ i, i < A.slots.size → ¬ 255 < cv A i) (hfr : 4 ≤ R.frames) (hlo : W + 65 ≤ R.locals) :
    Back l R p e below s args New1.yN len W (fun P a => a = #[.ref x, .ref b] ∧ P.U.heap = h ∧ P.cells + 1 ≤ R.cells ∧ P.slots + A.slots.size ≤ R.slots)
      (fun P _ v B => ∃ L, Q Z x A h v B.U.heap L ∧ B.locs = P.locs ++ L ∧ B.cells = P.cells + 1 ∧ B.slots = P.slots + A.slots.size) := by
  intro m meth c P g ig mk a X hg hsize hdg hW hn hp'
  obtain ⟨rfl, rfl, r1, r2⟩ := hp'
  have al : Z.vm.Alike P.U.vm := hZ.alike.trans X.warmed.alike
  obtain ⟨D, cfV, kV, iV, fV, hD, gV, stV, knV, obV, asV, slV⟩ := id V
  obtain ⟨D', cfC, kC, iC, fC, hD', gC, stC, -, -, asC, slC⟩ := id C
  cases hD.symm.trans hD'
  obtain ⟨D2, kD, e1, e2, e3, e4, e5⟩ := id E
  cases hD.symm.trans e1
  obtain ⟨c2, k2, i1, i2, i3, -⟩ := Cond.instantiable_spec wi
  cases e2.symm.trans i1
  cases e3.symm.trans i2
  obtain ⟨kU, u1, u2⟩ := al.2.2 _ _ e3
  have hB : Blank ST x D P.U := ⟨hD, ⟨knV, fun q hq => by rw [hq] at obV; cases obV⟩, by rw [al.findClass]; exact e2, kU, u1, by rw [u2]; exact i3, by rw [u2]; exact e5 i3⟩
  have F1 : Found ST "value" "[B" fV P.U := ⟨SBG.found_only al ⟨cfV, kV, iV, gV⟩, stV⟩
  have F2 : Found ST "coder" "B" fC P.U := ⟨SBG.found_only al ⟨cfC, kC, iC, gC⟩, stC⟩
  have hA : Ch b A P.U := ⟨⟨K.1, State.isArrayOf_alike al K.2.1, K.2.2, by omega⟩, hty⟩
  have hS : StaticIs P.U ST "COMPACT_STRINGS" "Z" (.int z) := by
    obtain ⟨cfS, iS, kS, fS, st, cS, t1, t2, t3, t4, t5, t6, t7⟩ := S
    exact StaticIs.there (s := { Z with heap := P.U.heap }) ⟨cfS, iS, kS, fS, st, cS, t1, t2, t3, t4, t5, (fun q => by rw [q] at t6; cases t6), t7⟩ al rfl
  obtain ⟨v, B, X', ⟨⟨hv, E', V', q1, q2, q3, q4, q5, q6, q7, q8, q9, q10, q11⟩, hl, hc, hs⟩, st⟩ := New1.pays x D fV fC b A z (tab_of (moved hZ hw)) hfr hlo m meth c P g ig mk _ X hg hsize hdg hW hn ⟨r1, r2, rfl, hB, F1, F2, hA, hS, hz, l0, l2, hp⟩
  have al' : Z.vm.Alike B.U.vm := hZ.alike.trans X'.warmed.alike
  have hsz : E'.slots.size = D.slots.size := by
    obtain ⟨-, -, -, kB, w1, w2, w3⟩ := q1
    obtain ⟨kB', y1, y2⟩ := al'.2.2 _ _ e3
    rw [q2.2.1] at w1
    cases w1.symm.trans y1
    rw [w3, e5 i3, y2]
  refine ⟨v, B, X', ⟨_, ⟨hv, ?_, ⟨by omega, fun y cy hy hn' => q10 y cy (by simpa using hn') hy, fun y cy hy => ?_⟩, q11, ⟨E', _, q1.1, by rw [q2.2.1]; exact e2, by rw [q2.2.1]; exact e3, by rw [q2.1]; exact obV, fun _ => by rw [hsz]; exact e5 i3⟩,
    ⟨E', cfV, kV, iV, fV, q1.1, gV, stV, by rw [q2.1]; exact knV, by rw [q2.1]; exact obV, by rw [q2.2.1]; exact asV, q3⟩, ⟨E', cfC, kC, iC, fC, q1.1, gC, stC, by rw [q2.1]; exact knV, by rw [q2.1]; exact obV, by rw [q2.2.1]; exact asC, q4⟩,
    ⟨V', ⟨q5.1, State.isArrayOf_alike al'.symm q5.2.1, q5.2.2.1⟩, q6, by rw [← al'.findClass]; exact q7, q8, fun j hj => by have := q9 j hj; rwa [Nat.zero_add] at this⟩, fun O n d w F n1 n2 => ?_⟩, hl, hc, hs⟩, st⟩
  · intro y hy
    simp only [List.mem_cons, List.not_mem_nil, or_false] at hy
    rcases hy with rfl | rfl <;> rfl
  · by_cases q : y = x
    · subst q
      cases hD.symm.trans hy
      exact ⟨E', q1.1, q2.2.1, q2.1, hsz⟩
    · exact ⟨cy, q10 y cy q hy, rfl, rfl, rfl⟩
  · obtain ⟨D3, cf, k, i, f, g1, g2, g3, g4, g5, g6, g7⟩ := F
    cases hD.symm.trans g1
    simp only [RoadKit.slotOf, g2, gV, gC, Option.map_some, Option.getD_some] at n1 n2
    exact ⟨E', cf, k, i, f, q1.1, g2, g3, by rw [q2.1]; exact g4, by rw [q2.1]; exact g5, by rw [q2.2.1]; exact g6, by rw [q2.2.2 f.slot (by simp [n1, n2])]; exact g7⟩
end StrChars.Road
namespace StrChars.Road
open Jvm Sem ClassFile Op Lib Jvm.Stand Jvm.Free Jvm.Free.XT
/-- WHAT COMES BACK, the byte[] as a list of values -/
def QA (Z : State) (x : Addr) (zn : Int32) (cs : List Int32) (h : Heap) (v : Option Value) (h' : Heap) (L : List Loc) : Prop := v = none ∧ (∀ y ∈ L, y.base = x) ∧ RoadKit.Keep h h' [x] ∧ h'.size = h.size + 1 ∧ RoadKit.Exa Z h' x ST ∧ RoadKit.Fld Z h' x ST "value" "[B" (.ref h.size) ∧ RoadKit.Fld Z h' x ST "coder" "B" (.int 0) ∧
  (∃ kb, Z.vm.findClass "[B" = some kb ∧ RoadKit.Arv Z h' h.size kb .byte zn (cs.map fun c => .int (lo8 c)) (.int 0)) ∧
  ∀ (O n d : String) (w : Value), RoadKit.Fld Z h x O n d w → RoadKit.slotOf Z O n d ≠ RoadKit.slotOf Z ST "value" "[B" → RoadKit.slotOf Z O n d ≠ RoadKit.slotOf Z ST "coder" "B" → RoadKit.Fld Z h' x O n d w
/-- **new String(chars) AT A CALL, THE ARRAYS AS LISTS**: the char[] at b holds cs, not empty, no char above 255 -/
theorem backArv {p : Program} {l : Launch} {e : Env} {R : Room} {s : State} {args : Array Value} {below : List Frame} {len W : Nat} {Z : State} {a0 : Array Value} {h : Heap} (hZ : Z.Warmed39 s.vm) (hw : ∀ d ∈ words, d.before a0 Z = true) {kI : Nat} (wi : (Jvm.Cond.instantiable ST kI).before a0 Z = true)
    {x b : Addr} {k : ClassId} {zn z : Int32} {cs : List Int32} {dv v0 c0 : Value} (E : RoadKit.Exa Z h x ST) (V : RoadKit.Fld Z h x ST "value" "[B" v0) (C : RoadKit.Fld Z h x ST "coder" "B" c0) (K : RoadKit.Arv Z h b k .char zn (cs.map Value.int) dv) (S : RoadKit.Sta Z h ST "COMPACT_STRINGS" "Z" (.int z)) (hz : ¬ z = 0)
    (hlen : zn.toNatClampNeg = cs.length) (h0 : 0 < cs.length) (hbig : cs.length ≤ 536870912) (hall : ∀ c ∈ cs, ¬ 255 < c) (hfr : 4 ≤ R.frames) (hlo : W + 65 ≤ R.locals) :
    Back l R p e below s args New1.yN len W (fun P a => a = #[.ref x, .ref b] ∧ P.U.heap = h ∧ P.cells + 1 ≤ R.cells ∧ P.slots + cs.length ≤ R.slots)
      (fun P _ v B => ∃ L, QA Z x zn cs h v B.U.heap L ∧ B.locs = P.locs ++ L ∧ B.cells = P.cells + 1 ∧ B.slots = P.slots + cs.length) := by
  obtain ⟨A, K1, K2, K3, K4, K5, K6⟩ := K
  have e : A.slots.size = cs.length := K3.trans hlen
  have hat : ∀ (i : Nat) (hi : i < cs.length), A.slots[i]? = some (.int cs[i]) := fun i hi => by rw [K5 i (by omega)]; simp [List.getD_eq_getElem?_getD, hi]
  have hcv : ∀ (i : Nat) (hi : i < cs.length), cv A i = cs[i] := fun i hi => by unfold cv; rw [hat i hi]
  have hty : Typed .char A := fun i v hv => by
    have hi : i < A.slots.size := (Array.getElem?_eq_some_iff.mp hv).1
    have q := K5 i hi
    rw [hv] at q
    rw [Option.some.inj q]
    exact K6 i hi
  refine Back.mono (back hZ hw wi E V C K1 hty S hz (by omega) (by omega) (fun i hi => by rw [hcv i (by omega)]; exact hall _ (List.getElem_mem _)) hfr hlo) (fun P a hp => ⟨hp.1, hp.2.1, hp.2.2.1, by rw [e]; exact hp.2.2.2⟩) (fun P a v B hp hq => ?_)
  obtain ⟨L, ⟨q1, q2, q3, q4, q5, q6, q7, ⟨V', v1, v2, v3, v4, v5⟩, q9⟩, hl, hc, hs⟩ := hq
  refine ⟨L, ⟨q1, q2, q3, q4, q5, q6, q7, ⟨V'.cls, v3, V', v1, rfl, by rw [v4, e, hlen], K4, fun i hi => ?_, fun i hi => ?_⟩, q9⟩, hl, hc, by rw [hs, e]⟩
  · have hi' : i < cs.length := by omega
    rw [v5 i (by omega), hcv i hi']; simp [List.getD_eq_getElem?_getD, hi']
  · have hi' : i < cs.length := by omega
    simp only [List.getD_eq_getElem?_getD, List.getElem?_map, List.getElem?_eq_getElem hi', Option.map_some, Option.getD_some]
    exact fits_lo8 _
end StrChars.Road
namespace StrChars.Road
open Jvm Sem ClassFile Op Lib Jvm.Stand Jvm.Free Jvm.Free.XT
/-- WHAT COMES BACK, in the writer's own shape -/
def QV (Z : State) (x : Addr) (N : Int32) (bs : List Int32) (h : Heap) (n0 : Nat) (v : Option Value) (h' : Heap) (L : List Loc) : Prop := v = none ∧ RoadKit.Fr n0 L ∧ RoadKit.Keep h h' [x] ∧ RoadKit.Exa Z h' x ST ∧ RoadKit.Fld Z h' x ST "coder" "B" (.int 0) ∧
  ∃ (t : Addr) (kb : ClassId), n0 ≤ t ∧ h.size ≤ t ∧ ¬ t = x ∧ RoadKit.Fld Z h' x ST "value" "[B" (.ref t) ∧ RoadKit.Arv Z h' t kb .byte N (bs.map Value.int) (.int 0)
/-- **new String(chars) AT A CALL, FOR THE WRITER**: a char[] of n known ints, each 0 to 255 -/
theorem backV {p : Program} {l : Launch} {e : Env} {R : Room} {s : State} {args : Array Value} {below : List Frame} {len W : Nat} {Z : State} {a0 : Array Value} {h : Heap} (hZ : Z.Warmed39 s.vm) (hw : ∀ d ∈ words, d.before a0 Z = true) {kI : Nat} (wi : (Jvm.Cond.instantiable ST kI).before a0 Z = true)
    {x b : Addr} {kC : ClassId} {cs bs : List Int32} {d v0 c0 : Value} {z N : Int32} {n n0 : Nat} (hx0 : n0 ≤ x) (hh0 : n0 ≤ h.size) (E : RoadKit.Exa Z h x ST) (V : RoadKit.Fld Z h x ST "value" "[B" v0) (C : RoadKit.Fld Z h x ST "coder" "B" c0) (K : RoadKit.Arv Z h b kC .char N (cs.map Value.int) d) (S : RoadKit.Sta Z h ST "COMPACT_STRINGS" "Z" (.int z)) (hz : ¬ z = 0)
    (hn : cs.length = n) (hN : N = Int32.ofNat n) (l0 : 0 < n) (l2 : n ≤ 4000) (hp : ∀ c ∈ cs, ¬ c < 0 ∧ ¬ (255 : Int32) < c) (hb : bs = cs.map (fun c => c.toInt8.toInt32)) (hfr : 4 ≤ R.frames) (hlo : W + 65 ≤ R.locals) :
    Back l R p e below s args (⟨"java/lang/String", "<init>", "([C)V"⟩ : MethodName) len W (fun P a => a = #[.ref x, .ref b] ∧ P.U.heap = h ∧ P.cells + 1 ≤ R.cells ∧ P.slots + n ≤ R.slots)
      (fun P _ v B => ∃ L, QV Z x N bs h n0 v B.U.heap L ∧ B.locs = P.locs ++ L ∧ B.cells = P.cells + 1 ∧ B.slots = P.slots + n) := by
  subst hn hN hb
  refine Back.mono (backArv hZ hw wi E V C K S hz (n32 (by omega)) l0 (by omega) (fun c hc => (hp c hc).2) hfr hlo) (fun P a hp => hp) (fun P a v B hp hq => ?_)
  obtain ⟨L, ⟨q1, q2, q3, q4, q5, q6, q7, ⟨kb, v1, v2⟩, q9⟩, hl, hc, hs⟩ := hq
  exact ⟨L, ⟨q1, fun y hy => by rw [q2 y hy]; exact hx0, q3, q5, q7, h.size, kb, hh0, Nat.le_refl _, Nat.ne_of_gt E.lt, q6, by rw [List.map_map]; exact v2⟩, hl, hc, hs⟩
end StrChars.Road
end Jvm.Pilot.@@N@@
namespace Jvm.Pilot.@@N@@
open Jvm Jvm.ClassFile Sem Op Lib Jvm.Free Jvm.Stand Jvm.LawKit Jvm.RoadKit Bundle Jvm.Pilot.@@N@@.Jvm.D
/-- from S on the run ends as Q says -/
def own_Go (p : Program) (e : Env) (below : List Frame) (s : State) (Q : Option Value → Heap → List Loc → Prop) (k n : Nat) (S : State) : Prop :=
  ∃ s₂ o, Steps p.tables e below S s₂ ∧ s₂.status = .running ∧ Ended s₂ below o ∧ ∃ v L, o = .returned v ∧ Q v s₂.heap L ∧ FrameEnd s o s₂ L k n
/-- the goal, as a predicate that is closed under steps -/
theorem own_abs (p : Program) (e : Env) (below : List Frame) (s : State) (Q : Option Value → Heap → List Loc → Prop) (k n : Nat) :
    ∃ G : State → Prop, (∀ {S : State}, G S → own_Go p e below s Q k n S) ∧ (∀ {S S' : State}, (∀ t, Steps p.tables e below S' t → Steps p.tables e below S t) → G S' → G S) ∧ (∀ {S : State}, own_Go p e below s Q k n S → G S) :=
  ⟨own_Go p e below s Q k n, fun h => h, fun h g => by obtain ⟨s2, o, h1, r⟩ := g; exact ⟨s2, o, h _ h1, r⟩, fun h => h⟩
section OwnEnd
variable {p : Program} {l : Launch} {e : Env} {R : Room} {s : State} {m : MethodId} {args : Array Value} {below : List Frame} {meth : Method} {c : Code} {T : State} {locs : List Loc} {cells slots : Nat} {Q : Option Value → Heap → List Loc → Prop} {k n : Nat}
theorem own_goRet (X : Stand p l e R s m args below meth c T locs cells slots) (hx : p.tables.exec = Jvm.exec) {pc : Nat} {Ls : Array Slot} {w : Value} {t : FieldType} {i : Instr} {rest : List Value} (hret : meth.sig.returnType = some t) (hn : narrow t w = w)
    (hi : (i = .ireturn ∧ (t = .int ∨ t = .boolean ∨ t = .byte ∨ t = .char ∨ t = .short) ∧ ∃ z, w = .int z) ∨ (i = .lreturn ∧ t = .long ∧ ∃ z, w = .long z) ∨ (i = .dreturn ∧ t = .double ∧ ∃ z, w = .double z) ∨ (i = .freturn ∧ t = .float ∧ ∃ z, w = .float z) ∨ (i = .areturn ∧ t.isReference = true ∧ w.isRef = true))
    (hd : decode c.code pc = .ok (i, 1)) (hlk : meth.locks = false) (hQ : Q (some w) T.heap locs) (hk : cells ≤ k) (hn' : slots ≤ n) : own_Go p e below s Q k n (T.setTop (mkF m pc Ls (w :: rest))) := by
  obtain ⟨fs, hr, hrun, hended, hW, hsame⟩ := X.leave (v := some w) (fun h => by rw [hret] at h; cases h) hlk
  exact ⟨_, _, retOut X hx hret hn hi hd hr, hrun, hended, _, _, rfl, hQ, ⟨_, rfl⟩, hW, hsame.mono hk hn'⟩
theorem own_goVoid (X : Stand p l e R s m args below meth c T locs cells slots) (hx : p.tables.exec = Jvm.exec) {pc : Nat} {Ls : Array Slot} (hret : meth.sig.returnType = none)
    (hd : decode c.code pc = .ok (.return_, 1)) (hlk : meth.locks = false) (hQ : Q none T.heap locs) (hk : cells ≤ k) (hn' : slots ≤ n) : own_Go p e below s Q k n (T.setTop (mkF m pc Ls [])) := by
  obtain ⟨fs, hr, hrun, hended, hW, hsame⟩ := X.leave (v := none) (fun _ => rfl) hlk
  exact ⟨_, _, X.returnOut hx hret hd hr, hrun, hended, _, _, rfl, hQ, ⟨_, rfl⟩, hW, hsame.mono hk hn'⟩
end OwnEnd
abbrev own_V : String := "com/example/cairnstream/cairnstream/config/SettingValue"
section OwnPure
variable {Z : State} {h h' : Heap} {C n d : String} {v : Value}
theorem own_Sta_keep (F : Sta Z h C n d v) (K : Keep h h' []) : Sta Z h' C n d v := by
  obtain ⟨cf, i, k, f, st, cell, h1, h2, h3, h4, h5, r⟩ := F
  exact ⟨cf, i, k, f, st, cell, h1, h2, h3, h4, K.2.1 _ _ h5 nin0, r⟩
end OwnPure
theorem own_ch (y : Int32) : ¬ nar .char ((y &&& (255 : Int32)).toUInt32.toUInt16.toUInt32.toInt32) < 0 ∧ ¬ (255 : Int32) < nar .char ((y &&& (255 : Int32)).toUInt32.toUInt16.toUInt32.toInt32) := by
  have h1 := c_mask y 255 8 (by decide) (by decide)
  simp only [Nat.reducePow] at h1
  have h2 := c_i2c (y &&& (255 : Int32))
  have h3 := c_i2c ((y &&& (255 : Int32)).toUInt32.toUInt16.toUInt32.toInt32)
  have h4 : nar .char ((y &&& (255 : Int32)).toUInt32.toUInt16.toUInt32.toInt32) = ((y &&& (255 : Int32)).toUInt32.toUInt16.toUInt32.toInt32).toUInt32.toUInt16.toUInt32.toInt32 := rfl
  rw [h4]
  simp only [Int32.lt_iff_toInt_lt, show (0 : Int32).toInt = 0 from rfl, show (255 : Int32).toInt = 255 from rfl]
  omega
def own_QV (h0 : Heap) (n0 : Nat) (v : Option Value) (h : Heap) (L : List Loc) : Prop := v = none ∧ Fr n0 L ∧ h = h0
def own_QR (r : Value) (h0 : Heap) (n0 : Nat) (v : Option Value) (h : Heap) (L : List Loc) : Prop := v = some r ∧ Fr n0 L ∧ h = h0
def own_Qd (h0 : Heap) (n0 : Nat) (v : Option Value) (h : Heap) (L : List Loc) : Prop := ∃ r, v = some (.ref r) ∧ Fr n0 L ∧ Keep h0 h []
def own_Qi (Z : State) (a : Addr) (t b d : Value) (h0 : Heap) (n0 : Nat) (v : Option Value) (h : Heap) (L : List Loc) : Prop := v = none ∧ Fr n0 L ∧ Keep h0 h [a] ∧ Exa Z h a own_V ∧ Fld Z h a own_V "topic" "Ljava/lang/String;" t ∧ Fld Z h a own_V "broker" "Ljava/lang/String;" b ∧ Fld Z h a own_V "defaultValue" "Ljava/lang/String;" d
def own_Q0 (n0 : Nat) (v : Option Value) (h : Heap) (L : List Loc) : Prop := v = some (.int (1 : Int32)) ∧ Fr n0 L
theorem own_w0 {Z : State} {a0 : Array Value} (hw : ∀ d ∈ tables_1, d.before a0 Z = true) : Jvm.Cond.before (Jvm.Cond.methodLink x.cls (12 : Nat) ({ cls := x.cls, name := "draw", desc := "(I)Ljava/lang/String;" } : Jvm.MethodName)) a0 Z = true := hw _ (List.mem_of_getElem? (i := 0) rfl)
theorem own_w1 {Z : State} {a0 : Array Value} (hw : ∀ d ∈ tables_1, d.before a0 Z = true) : Jvm.Cond.before (Jvm.Cond.static ({ cls := x.cls, name := "draw", desc := "(I)Ljava/lang/String;" } : Jvm.MethodName)) a0 Z = true := hw _ (List.mem_of_getElem? (i := 1) rfl)
theorem own_w2 {Z : State} {a0 : Array Value} (hw : ∀ d ∈ tables_1, d.before a0 Z = true) : Jvm.Cond.before (Jvm.Cond.initialized x.cls) a0 Z = true := hw _ (List.mem_of_getElem? (i := 2) rfl)
theorem own_w3 {Z : State} {a0 : Array Value} (hw : ∀ d ∈ tables_1, d.before a0 Z = true) : Jvm.Cond.before (Jvm.Cond.code ({ cls := x.cls, name := "draw", desc := "(I)Ljava/lang/String;" } : Jvm.MethodName) method_2_code (2 : Nat) (Option.some (Jvm.ClassFile.FieldType.object "java/lang/String"))) a0 Z = true := hw _ (List.mem_of_getElem? (i := 3) rfl)
theorem own_w4 {Z : State} {a0 : Array Value} (hw : ∀ d ∈ tables_1, d.before a0 Z = true) : Jvm.Cond.before (Jvm.Cond.arrayClass Jvm.ClassFile.FieldType.char) a0 Z = true := hw _ (List.mem_of_getElem? (i := 4) rfl)
theorem own_w5 {Z : State} {a0 : Array Value} (hw : ∀ d ∈ tables_1, d.before a0 Z = true) : Jvm.Cond.before (Jvm.Cond.classLink x.cls (7 : Nat) "java/lang/String") a0 Z = true := hw _ (List.mem_of_getElem? (i := 5) rfl)
theorem own_w6 {Z : State} {a0 : Array Value} (hw : ∀ d ∈ tables_1, d.before a0 Z = true) : Jvm.Cond.before (Jvm.Cond.instantiable "java/lang/String" (4 : Nat)) a0 Z = true := hw _ (List.mem_of_getElem? (i := 6) rfl)
theorem own_w7 {Z : State} {a0 : Array Value} (hw : ∀ d ∈ tables_1, d.before a0 Z = true) : Jvm.Cond.before (Jvm.Cond.initialized "java/lang/String") a0 Z = true := hw _ (List.mem_of_getElem? (i := 7) rfl)
theorem own_w8 {Z : State} {a0 : Array Value} (hw : ∀ d ∈ tables_1, d.before a0 Z = true) : Jvm.Cond.before (Jvm.Cond.methodLink x.cls (9 : Nat) ({ cls := "java/lang/String", name := "<init>", desc := "([C)V" } : Jvm.MethodName)) a0 Z = true := hw _ (List.mem_of_getElem? (i := 8) rfl)
theorem own_w9 {Z : State} {a0 : Array Value} (hw : ∀ d ∈ tables_1, d.before a0 Z = true) : Jvm.Cond.before (Jvm.Cond.instanceMethod ({ cls := "java/lang/String", name := "<init>", desc := "([C)V" } : Jvm.MethodName)) a0 Z = true := hw _ (List.mem_of_getElem? (i := 9) rfl)
theorem own_w10 {Z : State} {a0 : Array Value} (hw : ∀ d ∈ tables_1, d.before a0 Z = true) : Jvm.Cond.before (Jvm.Cond.code ({ cls := "java/lang/String", name := "<init>", desc := "([C)V" } : Jvm.MethodName) jdk_42_method_3_code (2 : Nat) (Option.none : Option Jvm.ClassFile.FieldType)) a0 Z = true := hw _ (List.mem_of_getElem? (i := 10) rfl)
theorem own_w16 {Z : State} {a0 : Array Value} (hw : ∀ d ∈ tables_1, d.before a0 Z = true) : Jvm.Cond.before (Jvm.Cond.instanceMethod ({ cls := "java/lang/Object", name := "<init>", desc := "()V" } : Jvm.MethodName)) a0 Z = true := hw _ (List.mem_of_getElem? (i := 16) rfl)
theorem own_w17 {Z : State} {a0 : Array Value} (hw : ∀ d ∈ tables_1, d.before a0 Z = true) : Jvm.Cond.before (Jvm.Cond.code ({ cls := "java/lang/Object", name := "<init>", desc := "()V" } : Jvm.MethodName) object_method_1_code (1 : Nat) (Option.none : Option Jvm.ClassFile.FieldType)) a0 Z = true := hw _ (List.mem_of_getElem? (i := 17) rfl)
theorem own_w31 {Z : State} {a0 : Array Value} (hw : ∀ d ∈ tables_1, d.before a0 Z = true) : Jvm.Cond.before (Jvm.Cond.laysFinal "java/lang/String" "java/lang/String" "coder" "B") a0 Z = true := hw _ (List.mem_of_getElem? (i := 31) rfl)
theorem own_w33 {Z : State} {a0 : Array Value} (hw : ∀ d ∈ tables_1, d.before a0 Z = true) : Jvm.Cond.before (Jvm.Cond.laysFinal "java/lang/String" "java/lang/String" "value" "[B") a0 Z = true := hw _ (List.mem_of_getElem? (i := 33) rfl)
theorem own_w34 {Z : State} {a0 : Array Value} (hw : ∀ d ∈ tables_1, d.before a0 Z = true) : Jvm.Cond.before (Jvm.Cond.classLink x.cls (18 : Nat) own_V) a0 Z = true := hw _ (List.mem_of_getElem? (i := 34) rfl)
theorem own_w35 {Z : State} {a0 : Array Value} (hw : ∀ d ∈ tables_1, d.before a0 Z = true) : Jvm.Cond.before (Jvm.Cond.instantiable own_V (4 : Nat)) a0 Z = true := hw _ (List.mem_of_getElem? (i := 35) rfl)
theorem own_w36 {Z : State} {a0 : Array Value} (hw : ∀ d ∈ tables_1, d.before a0 Z = true) : Jvm.Cond.before (Jvm.Cond.initialized own_V) a0 Z = true := hw _ (List.mem_of_getElem? (i := 36) rfl)
theorem own_w37 {Z : State} {a0 : Array Value} (hw : ∀ d ∈ tables_1, d.before a0 Z = true) : Jvm.Cond.before (Jvm.Cond.methodLink x.cls (20 : Nat) ({ cls := own_V, name := "<init>", desc := "(Ljava/lang/String;Ljava/lang/String;Ljava/lang/String;Ljava/lang/String;)V" } : Jvm.MethodName)) a0 Z = true := hw _ (List.mem_of_getElem? (i := 37) rfl)
theorem own_w38 {Z : State} {a0 : Array Value} (hw : ∀ d ∈ tables_1, d.before a0 Z = true) : Jvm.Cond.before (Jvm.Cond.instanceMethod ({ cls := own_V, name := "<init>", desc := "(Ljava/lang/String;Ljava/lang/String;Ljava/lang/String;Ljava/lang/String;)V" } : Jvm.MethodName)) a0 Z = true := hw _ (List.mem_of_getElem? (i := 38) rfl)
theorem own_w39 {Z : State} {a0 : Array Value} (hw : ∀ d ∈ tables_1, d.before a0 Z = true) : Jvm.Cond.before (Jvm.Cond.code ({ cls := own_V, name := "<init>", desc := "(Ljava/lang/String;Ljava/lang/String;Ljava/lang/String;Ljava/lang/String;)V" } : Jvm.MethodName) prog_49_method_1_code (5 : Nat) (Option.none : Option Jvm.ClassFile.FieldType)) a0 Z = true := hw _ (List.mem_of_getElem? (i := 39) rfl)
theorem own_w40 {Z : State} {a0 : Array Value} (hw : ∀ d ∈ tables_1, d.before a0 Z = true) : Jvm.Cond.before (Jvm.Cond.methodLink own_V (1 : Nat) ({ cls := "java/lang/Record", name := "<init>", desc := "()V" } : Jvm.MethodName)) a0 Z = true := hw _ (List.mem_of_getElem? (i := 40) rfl)
theorem own_w41 {Z : State} {a0 : Array Value} (hw : ∀ d ∈ tables_1, d.before a0 Z = true) : Jvm.Cond.before (Jvm.Cond.instanceMethod ({ cls := "java/lang/Record", name := "<init>", desc := "()V" } : Jvm.MethodName)) a0 Z = true := hw _ (List.mem_of_getElem? (i := 41) rfl)
theorem own_w43 {Z : State} {a0 : Array Value} (hw : ∀ d ∈ tables_1, d.before a0 Z = true) : Jvm.Cond.before (Jvm.Cond.initialized "java/lang/Record") a0 Z = true := hw _ (List.mem_of_getElem? (i := 43) rfl)
theorem own_w44 {Z : State} {a0 : Array Value} (hw : ∀ d ∈ tables_1, d.before a0 Z = true) : Jvm.Cond.before (Jvm.Cond.code ({ cls := "java/lang/Record", name := "<init>", desc := "()V" } : Jvm.MethodName) jdk_30_method_1_code (1 : Nat) (Option.none : Option Jvm.ClassFile.FieldType)) a0 Z = true := hw _ (List.mem_of_getElem? (i := 44) rfl)
theorem own_w45 {Z : State} {a0 : Array Value} (hw : ∀ d ∈ tables_1, d.before a0 Z = true) : Jvm.Cond.before (Jvm.Cond.methodLink "java/lang/Record" (1 : Nat) ({ cls := "java/lang/Object", name := "<init>", desc := "()V" } : Jvm.MethodName)) a0 Z = true := hw _ (List.mem_of_getElem? (i := 45) rfl)
theorem own_w46 {Z : State} {a0 : Array Value} (hw : ∀ d ∈ tables_1, d.before a0 Z = true) : Jvm.Cond.before (Jvm.Cond.fieldLink own_V (7 : Nat) own_V "key" "Ljava/lang/String;") a0 Z = true := hw _ (List.mem_of_getElem? (i := 46) rfl)
theorem own_w47 {Z : State} {a0 : Array Value} (hw : ∀ d ∈ tables_1, d.before a0 Z = true) : Jvm.Cond.before (Jvm.Cond.laysFinal own_V own_V "key" "Ljava/lang/String;") a0 Z = true := hw _ (List.mem_of_getElem? (i := 47) rfl)
theorem own_w48 {Z : State} {a0 : Array Value} (hw : ∀ d ∈ tables_1, d.before a0 Z = true) : Jvm.Cond.before (Jvm.Cond.fieldLink own_V (13 : Nat) own_V "topic" "Ljava/lang/String;") a0 Z = true := hw _ (List.mem_of_getElem? (i := 48) rfl)
theorem own_w49 {Z : State} {a0 : Array Value} (hw : ∀ d ∈ tables_1, d.before a0 Z = true) : Jvm.Cond.before (Jvm.Cond.laysFinal own_V own_V "topic" "Ljava/lang/String;") a0 Z = true := hw _ (List.mem_of_getElem? (i := 49) rfl)
theorem own_w50 {Z : State} {a0 : Array Value} (hw : ∀ d ∈ tables_1, d.before a0 Z = true) : Jvm.Cond.before (Jvm.Cond.fieldLink own_V (16 : Nat) own_V "broker" "Ljava/lang/String;") a0 Z = true := hw _ (List.mem_of_getElem? (i := 50) rfl)
theorem own_w51 {Z : State} {a0 : Array Value} (hw : ∀ d ∈ tables_1, d.before a0 Z = true) : Jvm.Cond.before (Jvm.Cond.laysFinal own_V own_V "broker" "Ljava/lang/String;") a0 Z = true := hw _ (List.mem_of_getElem? (i := 51) rfl)
theorem own_w52 {Z : State} {a0 : Array Value} (hw : ∀ d ∈ tables_1, d.before a0 Z = true) : Jvm.Cond.before (Jvm.Cond.fieldLink own_V (19 : Nat) own_V "defaultValue" "Ljava/lang/String;") a0 Z = true := hw _ (List.mem_of_getElem? (i := 52) rfl)
theorem own_w53 {Z : State} {a0 : Array Value} (hw : ∀ d ∈ tables_1, d.before a0 Z = true) : Jvm.Cond.before (Jvm.Cond.laysFinal own_V own_V "defaultValue" "Ljava/lang/String;") a0 Z = true := hw _ (List.mem_of_getElem? (i := 53) rfl)
theorem own_w54 {Z : State} {a0 : Array Value} (hw : ∀ d ∈ tables_1, d.before a0 Z = true) : Jvm.Cond.before (Jvm.Cond.methodLink x.cls (23 : Nat) ({ cls := own_V, name := "value", desc := "()Ljava/lang/String;" } : Jvm.MethodName)) a0 Z = true := hw _ (List.mem_of_getElem? (i := 54) rfl)
theorem own_w55 {Z : State} {a0 : Array Value} (hw : ∀ d ∈ tables_1, d.before a0 Z = true) : Jvm.Cond.before (Jvm.Cond.declares ({ cls := own_V, name := "value", desc := "()Ljava/lang/String;" } : Jvm.MethodName)) a0 Z = true := hw _ (List.mem_of_getElem? (i := 55) rfl)
theorem own_w56 {Z : State} {a0 : Array Value} (hw : ∀ d ∈ tables_1, d.before a0 Z = true) : Jvm.Cond.before (Jvm.Cond.instanceMethod ({ cls := own_V, name := "value", desc := "()Ljava/lang/String;" } : Jvm.MethodName)) a0 Z = true := hw _ (List.mem_of_getElem? (i := 56) rfl)
theorem own_w57 {Z : State} {a0 : Array Value} (hw : ∀ d ∈ tables_1, d.before a0 Z = true) : Jvm.Cond.before (Jvm.Cond.selects own_V ({ cls := own_V, name := "value", desc := "()Ljava/lang/String;" } : Jvm.MethodName) ({ cls := own_V, name := "value", desc := "()Ljava/lang/String;" } : Jvm.MethodName)) a0 Z = true := hw _ (List.mem_of_getElem? (i := 57) rfl)
theorem own_w58 {Z : State} {a0 : Array Value} (hw : ∀ d ∈ tables_1, d.before a0 Z = true) : Jvm.Cond.before (Jvm.Cond.code ({ cls := own_V, name := "value", desc := "()Ljava/lang/String;" } : Jvm.MethodName) prog_49_method_2_code (2 : Nat) (Option.some (Jvm.ClassFile.FieldType.object "java/lang/String"))) a0 Z = true := hw _ (List.mem_of_getElem? (i := 58) rfl)
theorem pd_0 : parseMethodDescriptor "([C)V" = some ⟨[(.array .char)], none⟩ := by decide +kernel
theorem pd_1 : parseMethodDescriptor "()V" = some ⟨[], none⟩ := by decide +kernel
theorem pd_2 : parseMethodDescriptor "(I)Ljava/lang/String;" = some ⟨[.int], some (.object "java/lang/String")⟩ := by decide +kernel
theorem pd_3 : parseMethodDescriptor "(Ljava/lang/String;Ljava/lang/String;Ljava/lang/String;Ljava/lang/String;)V" = some ⟨[(.object "java/lang/String"), (.object "java/lang/String"), (.object "java/lang/String"), (.object "java/lang/String")], none⟩ := by decide +kernel
theorem pd_4 : parseMethodDescriptor "()Ljava/lang/String;" = some ⟨[], some (.object "java/lang/String")⟩ := by decide +kernel
theorem d3_0 : decode prog_49_method_2_code 0 = .ok (.aload_n 0, 1) := by decide +kernel
theorem d3_1 : decode prog_49_method_2_code 1 = .ok (.getfield 13, 3) := by decide +kernel
theorem d3_4 : decode prog_49_method_2_code 4 = .ok (.ifnull 11, 3) := by decide +kernel
theorem d3_7 : decode prog_49_method_2_code 7 = .ok (.aload_n 0, 1) := by decide +kernel
theorem d3_8 : decode prog_49_method_2_code 8 = .ok (.getfield 13, 3) := by decide +kernel
theorem d3_11 : decode prog_49_method_2_code 11 = .ok (.astore_n 1, 1) := by decide +kernel
theorem d3_12 : decode prog_49_method_2_code 12 = .ok (.goto 23, 3) := by decide +kernel
theorem d3_15 : decode prog_49_method_2_code 15 = .ok (.aload_n 0, 1) := by decide +kernel
theorem d3_16 : decode prog_49_method_2_code 16 = .ok (.getfield 16, 3) := by decide +kernel
theorem d3_19 : decode prog_49_method_2_code 19 = .ok (.ifnull 11, 3) := by decide +kernel
theorem d3_22 : decode prog_49_method_2_code 22 = .ok (.aload_n 0, 1) := by decide +kernel
theorem d3_23 : decode prog_49_method_2_code 23 = .ok (.getfield 16, 3) := by decide +kernel
theorem d3_26 : decode prog_49_method_2_code 26 = .ok (.astore_n 1, 1) := by decide +kernel
theorem d3_27 : decode prog_49_method_2_code 27 = .ok (.goto 8, 3) := by decide +kernel
theorem d3_30 : decode prog_49_method_2_code 30 = .ok (.aload_n 0, 1) := by decide +kernel
theorem d3_31 : decode prog_49_method_2_code 31 = .ok (.getfield 19, 3) := by decide +kernel
theorem d3_34 : decode prog_49_method_2_code 34 = .ok (.astore_n 1, 1) := by decide +kernel
theorem d3_35 : decode prog_49_method_2_code 35 = .ok (.aload_n 1, 1) := by decide +kernel
theorem d3_36 : decode prog_49_method_2_code 36 = .ok (.areturn, 1) := by decide +kernel
theorem d1_0 : decode method_2_code 0 = .ok (.iconst 2, 1) := by decide +kernel
theorem d1_1 : decode method_2_code 1 = .ok (.newarray .char, 2) := by decide +kernel
theorem d1_3 : decode method_2_code 3 = .ok (.astore_n 1, 1) := by decide +kernel
theorem d1_4 : decode method_2_code 4 = .ok (.aload_n 1, 1) := by decide +kernel
theorem d1_5 : decode method_2_code 5 = .ok (.iconst 0, 1) := by decide +kernel
theorem d1_6 : decode method_2_code 6 = .ok (.iload_n 0, 1) := by decide +kernel
theorem d1_7 : decode method_2_code 7 = .ok (.sipush 255, 3) := by decide +kernel
theorem d1_10 : decode method_2_code 10 = .ok (.iand, 1) := by decide +kernel
theorem d1_11 : decode method_2_code 11 = .ok (.i2c, 1) := by decide +kernel
theorem d1_12 : decode method_2_code 12 = .ok (.castore, 1) := by decide +kernel
theorem d1_13 : decode method_2_code 13 = .ok (.aload_n 1, 1) := by decide +kernel
theorem d1_14 : decode method_2_code 14 = .ok (.iconst 1, 1) := by decide +kernel
theorem d1_15 : decode method_2_code 15 = .ok (.iload_n 0, 1) := by decide +kernel
theorem d1_16 : decode method_2_code 16 = .ok (.bipush 8, 2) := by decide +kernel
theorem d1_18 : decode method_2_code 18 = .ok (.iushr, 1) := by decide +kernel
theorem d1_19 : decode method_2_code 19 = .ok (.sipush 255, 3) := by decide +kernel
theorem d1_22 : decode method_2_code 22 = .ok (.iand, 1) := by decide +kernel
theorem d1_23 : decode method_2_code 23 = .ok (.i2c, 1) := by decide +kernel
theorem d1_24 : decode method_2_code 24 = .ok (.castore, 1) := by decide +kernel
theorem d1_25 : decode method_2_code 25 = .ok (.new 7, 3) := by decide +kernel
theorem d1_28 : decode method_2_code 28 = .ok (.dup, 1) := by decide +kernel
theorem d1_29 : decode method_2_code 29 = .ok (.aload_n 1, 1) := by decide +kernel
theorem d1_30 : decode method_2_code 30 = .ok (.invokespecial 9, 3) := by decide +kernel
theorem d1_33 : decode method_2_code 33 = .ok (.areturn, 1) := by decide +kernel
theorem ef_1 (m : MethodId) (y : Int32) : entryFrame m #[(.int y)] 2 = mkF m 0 #[.val (.int y), .unset] [] := by first | (simp [entryFrame, mkF, argsToLocals, Value.category]; done) | rfl
theorem pn_1 : plainName x.cls = true := by first | decide +kernel | (simp [plainName, overriddenIn]; done)
set_option maxRecDepth 65536 in
set_option maxHeartbeats 40000000 in
theorem rm1 (l : Launch) (Z : State) (a0 : Array Value) (hw : ∀ d ∈ tables_1, d.before a0 Z = true) (ws : List Jvm.Cond) (y : Int32) (cz : Int32) (h0 : Heap) (n0 : Nat) (Z0 : n0 ≤ h0.size) (S_c : Sta Z h0 "java/lang/String" "COMPACT_STRINGS" "Z" (.int cz)) (hcz : ¬ cz = 0) :
    MetFree l (⟨x.cls, "draw", "(I)Ljava/lang/String;"⟩ : MethodName) (head1 (Jvm.Cond.code (⟨x.cls, "draw", "(I)Ljava/lang/String;"⟩ : MethodName) method_2_code 2 (some (.object "java/lang/String")) :: ws) ({ frames := 4, cells := 3, slots := 8, locals := 66 } : Room)) (fun a_ U_ => a_ = #[(.int y)] ∧ Z.Warmed39 U_.vm ∧ U_.heap = h0) (fun _ _ _ _ _ => True) (fun _ U_ o_ W_ => ∃ v_ L_, o_ = .returned v_ ∧ own_Qd h0 n0 v_ W_.heap L_ ∧ FrameEnd U_ o_ W_ L_ ({ frames := 4, cells := 3, slots := 8, locals := 66 } : Room).cells ({ frames := 4, cells := 3, slots := 8, locals := 66 } : Room).slots) := by
  refine MetFree.of_bodySF (plainFor_of_name pn_1) hisR ?_
  intro p e s m args below meth c s₁ Bd hml0 hP hK
  obtain ⟨rfl, hZ, hh⟩ := hP
  have hx := Bd.exec
  have hby := Bd.bytes
  have hml : c.maxLocals = 2 := hml0
  have hown : s.vm.findClass x.cls = some m.cls := by have z := findClass_of_methodNamed Bd.named; exact z
  have hnm := (name_of_methodNamed Bd.named Bd.method).1
  have X0 : Stand p l e ({ frames := 4, cells := 3, slots := 8, locals := 66 } : Room) s m #[(.int y)] below meth c s₁ [] 0 0 := Stand.of_body Bd
  have e0 : s₁.heap = h0 := by rw [← hh, Bd.state]; rfl
  have N0 := Fr.nil n0
  obtain ⟨G, hG, hst, hend⟩ := own_abs p e below s (own_Qd h0 n0) ({ frames := 4, cells := 3, slots := 8, locals := 66 } : Room).cells ({ frames := 4, cells := 3, slots := 8, locals := 66 } : Room).slots
  refine hG (S := s₁.setTop (entryFrame m #[(.int y)] 2)) (hst (fun t_ kt_ => castTop (ef_1 m y) kt_) ?_)
  have Z1 := Nat.le_refl h0.size
  have K0 := Keep.refl h0 []
  show G (s₁.setTop (mkF m 0 #[.val (.int y), .unset] []))
  refine hst (fun _ kt => XS.iconst X0.here hx rfl (hb hby d1_0) kt) ?_
  show G (s₁.setTop (mkF m 1 #[.val (.int y), .unset] [(.int (2 : Int32))]))
  obtain ⟨T_1, h_1, k_b, X_1, e_1, E_1, A_1, st_1⟩ := newP (aty := .char) X0 hx hZ (own_w4 hw) e0 (g := (mkF m 1 #[.val (.int y), .unset] [(.int (2 : Int32))])) rfl (hb hby d1_1) rfl (by decide) (cap := 2) (by decide) (by decide) (by decide) (by decide)
  obtain ⟨b, g_b⟩ : ∃ z, z = h0.size := ⟨_, rfl⟩
  rw [← g_b] at A_1 st_1
  have le_n0_b : n0 ≤ b := Nat.le_trans Z0 (Nat.le_of_eq g_b.symm)
  have le_hh_b : h0.size ≤ b := Nat.le_trans Z1 (Nat.le_of_eq g_b.symm)
  have Z0 := Nat.le_trans Z0 E_1.1
  have Z1 := Nat.le_trans Z1 E_1.1
  have S_c := S_c.ext E_1
  have K0 := K0.ext E_1
  have V_b : Arv Z h_1 b k_b .char (2 : Int32) [(.int (0 : Int32)), (.int (0 : Int32))] (.int (0 : Int32)) := (Arv.new A_1 (by decide)).pad (pad_rep [] (.int (0 : Int32)) 2)
  refine hst st_1 ?_
  show G (T_1.setTop (mkF m 3 #[.val (.int y), .unset] [(.ref b)]))
  refine hst (fun _ kt => XS.astoreN X_1.here hx rfl (hb hby d1_3) rfl rfl (l' := #[.val (.int y), .val (.ref b)]) rfl kt) ?_
  show G (T_1.setTop (mkF m 4 #[.val (.int y), .val (.ref b)] []))
  refine hst (fun _ kt => XS.aloadN X_1.here hx rfl (hb hby d1_4) rfl rfl kt) ?_
  show G (T_1.setTop (mkF m 5 #[.val (.int y), .val (.ref b)] [(.ref b)]))
  refine hst (fun _ kt => XS.iconst X_1.here hx rfl (hb hby d1_5) kt) ?_
  show G (T_1.setTop (mkF m 6 #[.val (.int y), .val (.ref b)] [(.int (0 : Int32)), (.ref b)]))
  refine hst (fun _ kt => XS.iloadN X_1.here hx rfl (hb hby d1_6) rfl kt) ?_
  show G (T_1.setTop (mkF m 7 #[.val (.int y), .val (.ref b)] [(.int y), (.int (0 : Int32)), (.ref b)]))
  refine hst (fun _ kt => XS.sipush X_1.here hx rfl (hb hby d1_7) kt) ?_
  show G (T_1.setTop (mkF m 10 #[.val (.int y), .val (.ref b)] [(.int (255 : Int32)), (.int y), (.int (0 : Int32)), (.ref b)]))
  refine hst (fun _ kt => XS.iand X_1.here hx rfl (hb hby d1_10) rfl kt) ?_
  show G (T_1.setTop (mkF m 11 #[.val (.int y), .val (.ref b)] [(.int (y &&& (255 : Int32))), (.int (0 : Int32)), (.ref b)]))
  refine hst (fun _ kt => XS.i2c X_1.here hx rfl (hb hby d1_11) rfl kt) ?_
  show G (T_1.setTop (mkF m 12 #[.val (.int y), .val (.ref b)] [(.int ((y &&& (255 : Int32)).toUInt32.toUInt16.toUInt32.toInt32)), (.int (0 : Int32)), (.ref b)]))
  obtain ⟨cl_2, Ar_2, q_2, S_2, M_2, Hs_2, Gs_2⟩ := V_b
  have hin_2 : ¬ ((0 : Int32) < 0 ∨ cl_2.slots.size ≤ ((0 : Int32)).toNatClampNeg) := inb_of S_2 ⟨by decide, by decide⟩
  obtain ⟨T_2, h_2, X_2, e_2, W_2, st_2⟩ := stC X_1 hx hZ e_1 Ar_2 (j := (0 : Int32)) hin_2 (g := (mkF m 12 #[.val (.int y), .val (.ref b)] [(.int ((y &&& (255 : Int32)).toUInt32.toUInt16.toUInt32.toInt32)), (.int (0 : Int32)), (.ref b)])) rfl rfl (hb hby d1_12)
  have V_b := Arv.set Ar_2 q_2 S_2 M_2 Hs_2 Gs_2 (fits_nar_char _) W_2 0 rfl (Nat.le_of_ble_eq_true rfl)
  have V_b : Arv Z h_2 b k_b .char (2 : Int32) [(.int (nar .char ((y &&& (255 : Int32)).toUInt32.toUInt16.toUInt32.toInt32))), (.int (0 : Int32))] (.int (0 : Int32)) := V_b
  have Z0 := Nat.le_trans Z0 (Keep.of_wr W_2).1
  have Z1 := Nat.le_trans Z1 (Keep.of_wr W_2).1
  have S_c := S_c.wr W_2
  have K0 := K0.wr W_2 (Or.inr le_hh_b)
  have N_2 := Fr.snoc X_2 N0 le_n0_b
  refine hst st_2 ?_
  show G (T_2.setTop (mkF m 13 #[.val (.int y), .val (.ref b)] []))
  refine hst (fun _ kt => XS.aloadN X_2.here hx rfl (hb hby d1_13) rfl rfl kt) ?_
  show G (T_2.setTop (mkF m 14 #[.val (.int y), .val (.ref b)] [(.ref b)]))
  refine hst (fun _ kt => XS.iconst X_2.here hx rfl (hb hby d1_14) kt) ?_
  show G (T_2.setTop (mkF m 15 #[.val (.int y), .val (.ref b)] [(.int (1 : Int32)), (.ref b)]))
  refine hst (fun _ kt => XS.iloadN X_2.here hx rfl (hb hby d1_15) rfl kt) ?_
  show G (T_2.setTop (mkF m 16 #[.val (.int y), .val (.ref b)] [(.int y), (.int (1 : Int32)), (.ref b)]))
  refine hst (fun _ kt => XS.bipush X_2.here hx rfl (hb hby d1_16) kt) ?_
  show G (T_2.setTop (mkF m 18 #[.val (.int y), .val (.ref b)] [(.int (8 : Int32)), (.int y), (.int (1 : Int32)), (.ref b)]))
  refine hst (fun _ kt => XS.iushr X_2.here hx rfl (hb hby d1_18) rfl kt) ?_
  show G (T_2.setTop (mkF m 19 #[.val (.int y), .val (.ref b)] [(.int ((y.toUInt32 >>> ((8 : Int32) &&& 31).toUInt32).toInt32)), (.int (1 : Int32)), (.ref b)]))
  refine hst (fun _ kt => XS.sipush X_2.here hx rfl (hb hby d1_19) kt) ?_
  show G (T_2.setTop (mkF m 22 #[.val (.int y), .val (.ref b)] [(.int (255 : Int32)), (.int ((y.toUInt32 >>> ((8 : Int32) &&& 31).toUInt32).toInt32)), (.int (1 : Int32)), (.ref b)]))
  refine hst (fun _ kt => XS.iand X_2.here hx rfl (hb hby d1_22) rfl kt) ?_
  show G (T_2.setTop (mkF m 23 #[.val (.int y), .val (.ref b)] [(.int (((y.toUInt32 >>> ((8 : Int32) &&& 31).toUInt32).toInt32) &&& (255 : Int32))), (.int (1 : Int32)), (.ref b)]))
  refine hst (fun _ kt => XS.i2c X_2.here hx rfl (hb hby d1_23) rfl kt) ?_
  show G (T_2.setTop (mkF m 24 #[.val (.int y), .val (.ref b)] [(.int ((((y.toUInt32 >>> ((8 : Int32) &&& 31).toUInt32).toInt32) &&& (255 : Int32)).toUInt32.toUInt16.toUInt32.toInt32)), (.int (1 : Int32)), (.ref b)]))
  obtain ⟨cl_3, Ar_3, q_3, S_3, M_3, Hs_3, Gs_3⟩ := V_b
  have hin_3 : ¬ ((1 : Int32) < 0 ∨ cl_3.slots.size ≤ ((1 : Int32)).toNatClampNeg) := inb_of S_3 ⟨by decide, by decide⟩
  obtain ⟨T_3, h_3, X_3, e_3, W_3, st_3⟩ := stC X_2 hx hZ e_2 Ar_3 (j := (1 : Int32)) hin_3 (g := (mkF m 24 #[.val (.int y), .val (.ref b)] [(.int ((((y.toUInt32 >>> ((8 : Int32) &&& 31).toUInt32).toInt32) &&& (255 : Int32)).toUInt32.toUInt16.toUInt32.toInt32)), (.int (1 : Int32)), (.ref b)])) rfl rfl (hb hby d1_24)
  have V_b := Arv.set Ar_3 q_3 S_3 M_3 Hs_3 Gs_3 (fits_nar_char _) W_3 1 rfl (Nat.le_of_ble_eq_true rfl)
  have V_b : Arv Z h_3 b k_b .char (2 : Int32) [(.int (nar .char ((y &&& (255 : Int32)).toUInt32.toUInt16.toUInt32.toInt32))), (.int (nar .char ((((y.toUInt32 >>> ((8 : Int32) &&& 31).toUInt32).toInt32) &&& (255 : Int32)).toUInt32.toUInt16.toUInt32.toInt32)))] (.int (0 : Int32)) := V_b
  have Z0 := Nat.le_trans Z0 (Keep.of_wr W_3).1
  have Z1 := Nat.le_trans Z1 (Keep.of_wr W_3).1
  have S_c := S_c.wr W_3
  have K0 := K0.wr W_3 (Or.inr le_hh_b)
  have N_3 := Fr.snoc X_3 N_2 le_n0_b
  refine hst st_3 ?_
  show G (T_3.setTop (mkF m 25 #[.val (.int y), .val (.ref b)] []))
  obtain ⟨T_4, h_4, X_4, e_4, E_4, A_4, D_4, -, st_4⟩ := newO X_3 hx hZ hown (own_w5 hw) (own_w6 hw) (own_w7 hw) e_3 (g := (mkF m 25 #[.val (.int y), .val (.ref b)] [])) rfl (hb hby d1_25) (by decide) (by decide)
  obtain ⟨r, g_r⟩ : ∃ z, z = h_3.size := ⟨_, rfl⟩
  rw [← g_r] at A_4 D_4 st_4
  have ne_b_r : b ≠ r := Nat.ne_of_lt (Nat.lt_of_lt_of_le V_b.lt (Nat.le_of_eq g_r.symm))
  have le_n0_r : n0 ≤ r := Nat.le_trans Z0 (Nat.le_of_eq g_r.symm)
  have le_hh_r : h0.size ≤ r := Nat.le_trans Z1 (Nat.le_of_eq g_r.symm)
  have Z0 := Nat.le_trans Z0 E_4.1
  have Z1 := Nat.le_trans Z1 E_4.1
  have S_c := S_c.ext E_4
  have K0 := K0.ext E_4
  have V_b := V_b.ext E_4
  have E_r : Exa Z h_4 r "java/lang/String" := A_4
  have F_coder_r : Fld Z h_4 r "java/lang/String" "coder" "B" (.int (0 : Int32)) := D_4 (Or.inr (own_w31 hw)) (ty := .byte) (by decide)
  have F_value_r : Fld Z h_4 r "java/lang/String" "value" "[B" .null := D_4 (Or.inr (own_w33 hw)) (ty := (.array .byte)) (by decide)
  refine hst st_4 ?_
  show G (T_4.setTop (mkF m 28 #[.val (.int y), .val (.ref b)] [(.ref r)]))
  refine hst (fun _ kt => XS.dup X_4.here hx rfl (hb hby d1_28) rfl rfl kt) ?_
  show G (T_4.setTop (mkF m 29 #[.val (.int y), .val (.ref b)] [(.ref r), (.ref r)]))
  refine hst (fun _ kt => XS.aloadN X_4.here hx rfl (hb hby d1_29) rfl rfl kt) ?_
  show G (T_4.setTop (mkF m 30 #[.val (.int y), .val (.ref b)] [(.ref b), (.ref r), (.ref r)]))
  have hws : ∀ d ∈ StrChars.Road.words, d.before a0 Z = true := fun d hd => hw d ((by decide +kernel : ∀ d ∈ StrChars.Road.words, d ∈ tables_1) d hd)
  have hp : ∀ ch ∈ ([(nar .char ((y &&& (255 : Int32)).toUInt32.toUInt16.toUInt32.toInt32)), (nar .char ((((y.toUInt32 >>> ((8 : Int32) &&& 31).toUInt32).toInt32) &&& (255 : Int32)).toUInt32.toUInt16.toUInt32.toInt32))] : List Int32), ¬ ch < 0 ∧ ¬ (255 : Int32) < ch := by
    intro ch hch
    simp only [List.mem_cons, List.not_mem_nil, or_false] at hch
    rcases hch with rfl | rfl
    · exact own_ch _
    · exact own_ch _
  obtain ⟨_, _, ⟨T_5, L_5, k_5, n_5⟩, -, X_5, ⟨Lc_5, hQ_5, l_5, y_5, z_5⟩, st_5⟩ := X_4.specialBack hx (y := (⟨"java/lang/String", "<init>", "([C)V"⟩ : MethodName)) rfl hown (mvT hZ (own_w8 hw)) (mvT hZ (own_w9 hw)) (mvT hZ (own_w10 hw)) (by decide) (StrChars.Road.backV (W := 1) hZ hws (kI := 4) (own_w6 hw) (cs := ([(nar .char ((y &&& (255 : Int32)).toUInt32.toUInt16.toUInt32.toInt32)), (nar .char ((((y.toUInt32 >>> ((8 : Int32) &&& 31).toUInt32).toInt32) &&& (255 : Int32)).toUInt32.toUInt16.toUInt32.toInt32))] : List Int32)) (bs := (([(nar .char ((y &&& (255 : Int32)).toUInt32.toUInt16.toUInt32.toInt32)), (nar .char ((((y.toUInt32 >>> ((8 : Int32) &&& 31).toUInt32).toInt32) &&& (255 : Int32)).toUInt32.toUInt16.toUInt32.toInt32))] : List Int32)).map (fun c => c.toInt8.toInt32)) (n := 2) le_n0_r Z0 E_r F_value_r F_coder_r V_b S_c hcz rfl rfl (by decide) (by decide) hp rfl (by decide) (by decide)) (g := (mkF m 30 #[.val (.int y), .val (.ref b)] [(.ref b), (.ref r), (.ref r)])) rfl (by rw [hml]; rfl) (Steps.refl _) (a := r) (argsL := [(.ref b)]) (rest := [(.ref r)]) (lenOf pd_0 rfl) rfl (by show 2 * 0 + _ ≤ _; exact Nat.le_of_eq rfl) (hb hby d1_30) (fun _ _ => ⟨rfl, e_4, (by decide : 2 + 1 ≤ _), (by decide : 6 + 2 ≤ _)⟩)
  dsimp only [Pt.U, Pt.locs, Pt.cells, Pt.slots] at X_5 l_5 y_5 z_5 st_5 hQ_5
  subst l_5 y_5 z_5
  obtain ⟨rfl, N_5q, K_5, -⟩ := hQ_5
  have Z0 := Nat.le_trans Z0 K_5.1
  have Z1 := Nat.le_trans Z1 K_5.1
  have K0 := K0.trans K_5 (allS (Or.inr le_hh_r) all0)
  have E_r := E_r.keep K_5
  have N_5 := Fr.app N_3 N_5q
  refine hst (fun _ kt => st_5.trans kt) ?_
  show G (T_5.setTop (mkF m 33 #[.val (.int y), .val (.ref b)] [(.ref r)]))
  exact hend (own_goRet X_5 hx Bd.returns rfl (Or.inr (Or.inr (Or.inr (Or.inr ⟨rfl, rfl, rfl⟩)))) (hb hby d1_33) Bd.notSynchronized (by exact ⟨r, rfl, N_5, K0⟩) (by decide) (by decide))
theorem dR_0 : decode jdk_30_method_1_code 0 = .ok (.aload_n 0, 1) := by decide +kernel
theorem dR_1 : decode jdk_30_method_1_code 1 = .ok (.invokespecial 1, 3) := by decide +kernel
theorem dR_4 : decode jdk_30_method_1_code 4 = .ok (.return_, 1) := by decide +kernel
theorem ef_R (m : MethodId) (a : Addr) : entryFrame m #[(.ref a)] 1 = mkF m 0 #[.val (.ref a)] [] := by first | (simp [entryFrame, mkF, argsToLocals, Value.category]; done) | rfl
theorem pn_R : plainName "java/lang/Record" = true := by first | decide +kernel | (simp [plainName, overriddenIn]; done)
set_option maxRecDepth 65536 in
set_option maxHeartbeats 40000000 in
theorem rmR (l : Launch) (Z : State) (a0 : Array Value) (hw : ∀ d ∈ tables_1, d.before a0 Z = true) (ws : List Jvm.Cond) (a : Addr) (h0 : Heap) (n0 : Nat) (Z0 : n0 ≤ h0.size) :
    MetFree l (⟨"java/lang/Record", "<init>", "()V"⟩ : MethodName) (head1 (Jvm.Cond.code (⟨"java/lang/Record", "<init>", "()V"⟩ : MethodName) jdk_30_method_1_code 1 none :: ws) ({ frames := 1, cells := 0, slots := 0, locals := 12 } : Room)) (fun a_ U_ => a_ = #[(.ref a)] ∧ Z.Warmed39 U_.vm ∧ U_.heap = h0) (fun _ _ _ _ _ => True) (fun _ U_ o_ W_ => ∃ v_ L_, o_ = .returned v_ ∧ own_QV h0 n0 v_ W_.heap L_ ∧ FrameEnd U_ o_ W_ L_ ({ frames := 1, cells := 0, slots := 0, locals := 12 } : Room).cells ({ frames := 1, cells := 0, slots := 0, locals := 12 } : Room).slots) := by
  refine MetFree.of_bodySF (plainFor_of_name pn_R) hisR ?_
  intro p e s m args below meth c s₁ Bd hml0 hP hK
  obtain ⟨rfl, hZ, hh⟩ := hP
  have hx := Bd.exec
  have hby := Bd.bytes
  have hml : c.maxLocals = 1 := hml0
  have hown : s.vm.findClass "java/lang/Record" = some m.cls := by have z := findClass_of_methodNamed Bd.named; exact z
  have hnm := (name_of_methodNamed Bd.named Bd.method).1
  have X0 : Stand p l e ({ frames := 1, cells := 0, slots := 0, locals := 12 } : Room) s m #[(.ref a)] below meth c s₁ [] 0 0 := Stand.of_body Bd
  have e0 : s₁.heap = h0 := by rw [← hh, Bd.state]; rfl
  have N0 := Fr.nil n0
  obtain ⟨G, hG, hst, hend⟩ := own_abs p e below s (own_QV h0 n0) ({ frames := 1, cells := 0, slots := 0, locals := 12 } : Room).cells ({ frames := 1, cells := 0, slots := 0, locals := 12 } : Room).slots
  refine hG (S := s₁.setTop (entryFrame m #[(.ref a)] 1)) (hst (fun t_ kt_ => castTop (ef_R m a) kt_) ?_)
  show G (s₁.setTop (mkF m 0 #[.val (.ref a)] []))
  refine hst (fun _ kt => XS.aloadN X0.here hx rfl (hb hby dR_0) rfl rfl kt) ?_
  show G (s₁.setTop (mkF m 1 #[.val (.ref a)] [(.ref a)]))
  obtain ⟨T_1, X_1, e_1, st_1⟩ := initO X0 hx hZ hown (own_w45 hw) (own_w16 hw) (own_w17 hw) e0 (g := (mkF m 1 #[.val (.ref a)] [(.ref a)])) rfl (by rw [hml]; rfl) rfl (hb hby dR_1) (by decide) (W := 0) (by show 2 * 0 + _ ≤ _; exact Nat.le_of_eq rfl) (by decide)
  refine hst st_1 ?_
  show G (T_1.setTop (mkF m 4 #[.val (.ref a)] []))
  exact hend (own_goVoid X_1 hx Bd.returns (hb hby dR_4) Bd.notSynchronized (by rw [e_1]; exact ⟨rfl, N0, rfl⟩) (by decide) (by decide))
theorem d2_0 : decode prog_49_method_1_code 0 = .ok (.aload_n 0, 1) := by decide +kernel
theorem d2_1 : decode prog_49_method_1_code 1 = .ok (.invokespecial 1, 3) := by decide +kernel
theorem d2_4 : decode prog_49_method_1_code 4 = .ok (.aload_n 0, 1) := by decide +kernel
theorem d2_5 : decode prog_49_method_1_code 5 = .ok (.aload_n 1, 1) := by decide +kernel
theorem d2_6 : decode prog_49_method_1_code 6 = .ok (.putfield 7, 3) := by decide +kernel
theorem d2_9 : decode prog_49_method_1_code 9 = .ok (.aload_n 0, 1) := by decide +kernel
theorem d2_10 : decode prog_49_method_1_code 10 = .ok (.aload_n 2, 1) := by decide +kernel
theorem d2_11 : decode prog_49_method_1_code 11 = .ok (.putfield 13, 3) := by decide +kernel
theorem d2_14 : decode prog_49_method_1_code 14 = .ok (.aload_n 0, 1) := by decide +kernel
theorem d2_15 : decode prog_49_method_1_code 15 = .ok (.aload_n 3, 1) := by decide +kernel
theorem d2_16 : decode prog_49_method_1_code 16 = .ok (.putfield 16, 3) := by decide +kernel
theorem d2_19 : decode prog_49_method_1_code 19 = .ok (.aload_n 0, 1) := by decide +kernel
theorem d2_20 : decode prog_49_method_1_code 20 = .ok (.aload 4, 2) := by decide +kernel
theorem d2_22 : decode prog_49_method_1_code 22 = .ok (.putfield 19, 3) := by decide +kernel
theorem d2_25 : decode prog_49_method_1_code 25 = .ok (.return_, 1) := by decide +kernel
theorem ef_2000 (m : MethodId) (a : Addr) (k : Addr) : entryFrame m #[(.ref a), (.ref k), .null, .null, .null] 5 = mkF m 0 #[.val (.ref a), .val (.ref k), .val .null, .val .null, .val .null] [] := by first | (simp [entryFrame, mkF, argsToLocals, Value.category]; done) | rfl
theorem pn_2 : plainName own_V = true := by first | decide +kernel | (simp [plainName, overriddenIn]; done)
set_option maxRecDepth 65536 in
set_option maxHeartbeats 40000000 in
theorem rmI000 (l : Launch) (Z : State) (a0 : Array Value) (hw : ∀ d ∈ tables_1, d.before a0 Z = true) (ws : List Jvm.Cond) (a : Addr) (k : Addr) (h0 : Heap) (n0 : Nat) (Z0 : n0 ≤ h0.size) (F_key_a : Fld Z h0 a own_V "key" "Ljava/lang/String;" .null) (F_topic_a : Fld Z h0 a own_V "topic" "Ljava/lang/String;" .null) (F_broker_a : Fld Z h0 a own_V "broker" "Ljava/lang/String;" .null) (F_defaultValue_a : Fld Z h0 a own_V "defaultValue" "Ljava/lang/String;" .null) (E_a : Exa Z h0 a own_V) (le_n0_a : n0 ≤ a) :
    MetFree l (⟨own_V, "<init>", "(Ljava/lang/String;Ljava/lang/String;Ljava/lang/String;Ljava/lang/String;)V"⟩ : MethodName) (head1 (Jvm.Cond.code (⟨own_V, "<init>", "(Ljava/lang/String;Ljava/lang/String;Ljava/lang/String;Ljava/lang/String;)V"⟩ : MethodName) prog_49_method_1_code 5 none :: ws) ({ frames := 2, cells := 0, slots := 0, locals := 24 } : Room)) (fun a_ U_ => a_ = #[(.ref a), (.ref k), .null, .null, .null] ∧ Z.Warmed39 U_.vm ∧ U_.heap = h0) (fun _ _ _ _ _ => True) (fun _ U_ o_ W_ => ∃ v_ L_, o_ = .returned v_ ∧ own_Qi Z a .null .null .null h0 n0 v_ W_.heap L_ ∧ FrameEnd U_ o_ W_ L_ ({ frames := 2, cells := 0, slots := 0, locals := 24 } : Room).cells ({ frames := 2, cells := 0, slots := 0, locals := 24 } : Room).slots) := by
  refine MetFree.of_bodySF (plainFor_of_name pn_2) hisR ?_
  intro p e s m args below meth c s₁ Bd hml0 hP hK
  obtain ⟨rfl, hZ, hh⟩ := hP
  have hx := Bd.exec
  have hby := Bd.bytes
  have hml : c.maxLocals = 5 := hml0
  have hown : s.vm.findClass own_V = some m.cls := by have z := findClass_of_methodNamed Bd.named; exact z
  have hnm := (name_of_methodNamed Bd.named Bd.method).1
  have X0 : Stand p l e ({ frames := 2, cells := 0, slots := 0, locals := 24 } : Room) s m #[(.ref a), (.ref k), .null, .null, .null] below meth c s₁ [] 0 0 := Stand.of_body Bd
  have e0 : s₁.heap = h0 := by rw [← hh, Bd.state]; rfl
  have N0 := Fr.nil n0
  obtain ⟨G, hG, hst, hend⟩ := own_abs p e below s (own_Qi Z a .null .null .null h0 n0) ({ frames := 2, cells := 0, slots := 0, locals := 24 } : Room).cells ({ frames := 2, cells := 0, slots := 0, locals := 24 } : Room).slots
  refine hG (S := s₁.setTop (entryFrame m #[(.ref a), (.ref k), .null, .null, .null] 5)) (hst (fun t_ kt_ => castTop (ef_2000 m a k) kt_) ?_)
  have Z1 := Nat.le_refl h0.size
  have K0 := Keep.refl h0 [a]
  show G (s₁.setTop (mkF m 0 #[.val (.ref a), .val (.ref k), .val .null, .val .null, .val .null] []))
  refine hst (fun _ kt => XS.aloadN X0.here hx rfl (hb hby d2_0) rfl rfl kt) ?_
  show G (s₁.setTop (mkF m 1 #[.val (.ref a), .val (.ref k), .val .null, .val .null, .val .null] [(.ref a)]))
  obtain ⟨_, _, ⟨T_1, L_1, k_1, n_1⟩, -, X_1, ⟨Lc_1, hQ_1, l_1, y_1, z_1⟩, st_1⟩ := X0.specialBack hx (y := (⟨"java/lang/Record", "<init>", "()V"⟩ : MethodName)) rfl hown (mvT hZ (own_w40 hw)) (mvT hZ (own_w41 hw)) (mvT hZ (own_w44 hw)) (by decide) (backOf (W := 0) (rmR l Z a0 hw [] a  h0 n0 Z0) hZ (own_w44 hw) (own_w43 hw) (by decide) (by decide)) (g := (mkF m 1 #[.val (.ref a), .val (.ref k), .val .null, .val .null, .val .null] [(.ref a)])) rfl (by rw [hml]; rfl) (Steps.refl _) (a := a) (argsL := []) (rest := []) (lenOf pd_1 rfl) rfl (by show 2 * 0 + _ ≤ _; exact Nat.le_of_eq rfl) (hb hby d2_1) (fun _ _ => ⟨rfl, e0, (by decide : 0 + 0 ≤ _), (by decide : 0 + 0 ≤ _)⟩)
  dsimp only [Pt.U, Pt.locs, Pt.cells, Pt.slots] at X_1 l_1 y_1 z_1 st_1 hQ_1
  subst l_1 y_1 z_1
  obtain ⟨rfl, N_1q, eh_1⟩ := hQ_1
  have N_1 := Fr.app N0 N_1q
  refine hst (fun _ kt => st_1.trans kt) ?_
  show G (T_1.setTop (mkF m 4 #[.val (.ref a), .val (.ref k), .val .null, .val .null, .val .null] []))
  refine hst (fun _ kt => XS.aloadN X_1.here hx rfl (hb hby d2_4) rfl rfl kt) ?_
  show G (T_1.setTop (mkF m 5 #[.val (.ref a), .val (.ref k), .val .null, .val .null, .val .null] [(.ref a)]))
  refine hst (fun _ kt => XS.aloadN X_1.here hx rfl (hb hby d2_5) rfl rfl kt) ?_
  show G (T_1.setTop (mkF m 6 #[.val (.ref a), .val (.ref k), .val .null, .val .null, .val .null] [(.ref k), (.ref a)]))
  obtain ⟨T_2, h_2, X_2, e_2, W_2, st_2⟩ := putF X_1 hx hZ hown (host := "") (Or.inl (own_w46 hw)) Via.refl eh_1 F_key_a E_a (Or.inr ⟨(own_w47 hw), rfl, hnm⟩) (own_w35 hw) (ty := (.object "java/lang/String")) (by decide) rfl rfl (g := (mkF m 6 #[.val (.ref a), .val (.ref k), .val .null, .val .null, .val .null] [(.ref k), (.ref a)])) rfl rfl (hb hby d2_6)
  have Z0 := Nat.le_trans Z0 (Keep.of_wr W_2).1
  have Z1 := Nat.le_trans Z1 (Keep.of_wr W_2).1
  have F_key_a := F_key_a.same W_2
  have F_topic_a := F_topic_a.other W_2 (Or.inr (slot_ne (Or.inr (own_w49 hw)) (Or.inr (own_w47 hw)) (by decide) (t := (.object "java/lang/String")) (t' := (.object "java/lang/String")) (by decide) (by decide)))
  have F_broker_a := F_broker_a.other W_2 (Or.inr (slot_ne (Or.inr (own_w51 hw)) (Or.inr (own_w47 hw)) (by decide) (t := (.object "java/lang/String")) (t' := (.object "java/lang/String")) (by decide) (by decide)))
  have F_defaultValue_a := F_defaultValue_a.other W_2 (Or.inr (slot_ne (Or.inr (own_w53 hw)) (Or.inr (own_w47 hw)) (by decide) (t := (.object "java/lang/String")) (t' := (.object "java/lang/String")) (by decide) (by decide)))
  have E_a := E_a.wr W_2
  have K0 := K0.wr W_2 (Or.inl (List.mem_of_getElem? (i := 0) rfl))
  have N_2 := Fr.snoc X_2 N_1 le_n0_a
  refine hst st_2 ?_
  show G (T_2.setTop (mkF m 9 #[.val (.ref a), .val (.ref k), .val .null, .val .null, .val .null] []))
  refine hst (fun _ kt => XS.aloadN X_2.here hx rfl (hb hby d2_9) rfl rfl kt) ?_
  show G (T_2.setTop (mkF m 10 #[.val (.ref a), .val (.ref k), .val .null, .val .null, .val .null] [(.ref a)]))
  refine hst (fun _ kt => XS.aloadN X_2.here hx rfl (hb hby d2_10) rfl rfl kt) ?_
  show G (T_2.setTop (mkF m 11 #[.val (.ref a), .val (.ref k), .val .null, .val .null, .val .null] [.null, (.ref a)]))
  obtain ⟨T_3, h_3, X_3, e_3, W_3, st_3⟩ := putF X_2 hx hZ hown (host := "") (Or.inl (own_w48 hw)) Via.refl e_2 F_topic_a E_a (Or.inr ⟨(own_w49 hw), rfl, hnm⟩) (own_w35 hw) (ty := (.object "java/lang/String")) (by decide) rfl rfl (g := (mkF m 11 #[.val (.ref a), .val (.ref k), .val .null, .val .null, .val .null] [.null, (.ref a)])) rfl rfl (hb hby d2_11)
  have Z0 := Nat.le_trans Z0 (Keep.of_wr W_3).1
  have Z1 := Nat.le_trans Z1 (Keep.of_wr W_3).1
  have F_key_a := F_key_a.other W_3 (Or.inr (slot_ne (Or.inr (own_w47 hw)) (Or.inr (own_w49 hw)) (by decide) (t := (.object "java/lang/String")) (t' := (.object "java/lang/String")) (by decide) (by decide)))
  have F_topic_a := F_topic_a.same W_3
  have F_broker_a := F_broker_a.other W_3 (Or.inr (slot_ne (Or.inr (own_w51 hw)) (Or.inr (own_w49 hw)) (by decide) (t := (.object "java/lang/String")) (t' := (.object "java/lang/String")) (by decide) (by decide)))
  have F_defaultValue_a := F_defaultValue_a.other W_3 (Or.inr (slot_ne (Or.inr (own_w53 hw)) (Or.inr (own_w49 hw)) (by decide) (t := (.object "java/lang/String")) (t' := (.object "java/lang/String")) (by decide) (by decide)))
  have E_a := E_a.wr W_3
  have K0 := K0.wr W_3 (Or.inl (List.mem_of_getElem? (i := 0) rfl))
  have N_3 := Fr.snoc X_3 N_2 le_n0_a
  refine hst st_3 ?_
  show G (T_3.setTop (mkF m 14 #[.val (.ref a), .val (.ref k), .val .null, .val .null, .val .null] []))
  refine hst (fun _ kt => XS.aloadN X_3.here hx rfl (hb hby d2_14) rfl rfl kt) ?_
  show G (T_3.setTop (mkF m 15 #[.val (.ref a), .val (.ref k), .val .null, .val .null, .val .null] [(.ref a)]))
  refine hst (fun _ kt => XS.aloadN X_3.here hx rfl (hb hby d2_15) rfl rfl kt) ?_
  show G (T_3.setTop (mkF m 16 #[.val (.ref a), .val (.ref k), .val .null, .val .null, .val .null] [.null, (.ref a)]))
  obtain ⟨T_4, h_4, X_4, e_4, W_4, st_4⟩ := putF X_3 hx hZ hown (host := "") (Or.inl (own_w50 hw)) Via.refl e_3 F_broker_a E_a (Or.inr ⟨(own_w51 hw), rfl, hnm⟩) (own_w35 hw) (ty := (.object "java/lang/String")) (by decide) rfl rfl (g := (mkF m 16 #[.val (.ref a), .val (.ref k), .val .null, .val .null, .val .null] [.null, (.ref a)])) rfl rfl (hb hby d2_16)
  have Z0 := Nat.le_trans Z0 (Keep.of_wr W_4).1
  have Z1 := Nat.le_trans Z1 (Keep.of_wr W_4).1
  have F_key_a := F_key_a.other W_4 (Or.inr (slot_ne (Or.inr (own_w47 hw)) (Or.inr (own_w51 hw)) (by decide) (t := (.object "java/lang/String")) (t' := (.object "java/lang/String")) (by decide) (by decide)))
  have F_topic_a := F_topic_a.other W_4 (Or.inr (slot_ne (Or.inr (own_w49 hw)) (Or.inr (own_w51 hw)) (by decide) (t := (.object "java/lang/String")) (t' := (.object "java/lang/String")) (by decide) (by decide)))
  have F_broker_a := F_broker_a.same W_4
  have F_defaultValue_a := F_defaultValue_a.other W_4 (Or.inr (slot_ne (Or.inr (own_w53 hw)) (Or.inr (own_w51 hw)) (by decide) (t := (.object "java/lang/String")) (t' := (.object "java/lang/String")) (by decide) (by decide)))
  have E_a := E_a.wr W_4
  have K0 := K0.wr W_4 (Or.inl (List.mem_of_getElem? (i := 0) rfl))
  have N_4 := Fr.snoc X_4 N_3 le_n0_a
  refine hst st_4 ?_
  show G (T_4.setTop (mkF m 19 #[.val (.ref a), .val (.ref k), .val .null, .val .null, .val .null] []))
  refine hst (fun _ kt => XS.aloadN X_4.here hx rfl (hb hby d2_19) rfl rfl kt) ?_
  show G (T_4.setTop (mkF m 20 #[.val (.ref a), .val (.ref k), .val .null, .val .null, .val .null] [(.ref a)]))
  refine hst (fun _ kt => XS.aload X_4.here hx rfl (hb hby d2_20) rfl rfl kt) ?_
  show G (T_4.setTop (mkF m 22 #[.val (.ref a), .val (.ref k), .val .null, .val .null, .val .null] [.null, (.ref a)]))
  obtain ⟨T_5, h_5, X_5, e_5, W_5, st_5⟩ := putF X_4 hx hZ hown (host := "") (Or.inl (own_w52 hw)) Via.refl e_4 F_defaultValue_a E_a (Or.inr ⟨(own_w53 hw), rfl, hnm⟩) (own_w35 hw) (ty := (.object "java/lang/String")) (by decide) rfl rfl (g := (mkF m 22 #[.val (.ref a), .val (.ref k), .val .null, .val .null, .val .null] [.null, (.ref a)])) rfl rfl (hb hby d2_22)
  have Z0 := Nat.le_trans Z0 (Keep.of_wr W_5).1
  have Z1 := Nat.le_trans Z1 (Keep.of_wr W_5).1
  have F_key_a := F_key_a.other W_5 (Or.inr (slot_ne (Or.inr (own_w47 hw)) (Or.inr (own_w53 hw)) (by decide) (t := (.object "java/lang/String")) (t' := (.object "java/lang/String")) (by decide) (by decide)))
  have F_topic_a := F_topic_a.other W_5 (Or.inr (slot_ne (Or.inr (own_w49 hw)) (Or.inr (own_w53 hw)) (by decide) (t := (.object "java/lang/String")) (t' := (.object "java/lang/String")) (by decide) (by decide)))
  have F_broker_a := F_broker_a.other W_5 (Or.inr (slot_ne (Or.inr (own_w51 hw)) (Or.inr (own_w53 hw)) (by decide) (t := (.object "java/lang/String")) (t' := (.object "java/lang/String")) (by decide) (by decide)))
  have F_defaultValue_a := F_defaultValue_a.same W_5
  have E_a := E_a.wr W_5
  have K0 := K0.wr W_5 (Or.inl (List.mem_of_getElem? (i := 0) rfl))
  have N_5 := Fr.snoc X_5 N_4 le_n0_a
  refine hst st_5 ?_
  show G (T_5.setTop (mkF m 25 #[.val (.ref a), .val (.ref k), .val .null, .val .null, .val .null] []))
  exact hend (own_goVoid X_5 hx Bd.returns (hb hby d2_25) Bd.notSynchronized (by rw [e_5]; exact ⟨rfl, N_5, K0, E_a, F_topic_a, F_broker_a, F_defaultValue_a⟩) (by decide) (by decide))
theorem ef_3 (m : MethodId) (a : Addr) : entryFrame m #[(.ref a)] 2 = mkF m 0 #[.val (.ref a), .unset] [] := by first | (simp [entryFrame, mkF, argsToLocals, Value.category]; done) | rfl
theorem pn_3 : plainName own_V = true := by first | decide +kernel | (simp [plainName, overriddenIn]; done)
set_option maxRecDepth 65536 in
set_option maxHeartbeats 40000000 in
theorem rmV000 (l : Launch) (Z : State) (a0 : Array Value) (hw : ∀ d ∈ tables_1, d.before a0 Z = true) (ws : List Jvm.Cond) (a : Addr) (h0 : Heap) (n0 : Nat) (Z0 : n0 ≤ h0.size) (F_topic_a : Fld Z h0 a own_V "topic" "Ljava/lang/String;" .null) (F_broker_a : Fld Z h0 a own_V "broker" "Ljava/lang/String;" .null) (F_defaultValue_a : Fld Z h0 a own_V "defaultValue" "Ljava/lang/String;" .null) :
    MetFree l (⟨own_V, "value", "()Ljava/lang/String;"⟩ : MethodName) (head1 (Jvm.Cond.code (⟨own_V, "value", "()Ljava/lang/String;"⟩ : MethodName) prog_49_method_2_code 2 (some (.object "java/lang/String")) :: ws) ({ frames := 0, cells := 0, slots := 0, locals := 0 } : Room)) (fun a_ U_ => a_ = #[(.ref a)] ∧ Z.Warmed39 U_.vm ∧ U_.heap = h0) (fun _ _ _ _ _ => True) (fun _ U_ o_ W_ => ∃ v_ L_, o_ = .returned v_ ∧ own_QR .null h0 n0 v_ W_.heap L_ ∧ FrameEnd U_ o_ W_ L_ ({ frames := 0, cells := 0, slots := 0, locals := 0 } : Room).cells ({ frames := 0, cells := 0, slots := 0, locals := 0 } : Room).slots) := by
  refine MetFree.of_bodySF (plainFor_of_name pn_3) hisR ?_
  intro p e s m args below meth c s₁ Bd hml0 hP hK
  obtain ⟨rfl, hZ, hh⟩ := hP
  have hx := Bd.exec
  have hby := Bd.bytes
  have hml : c.maxLocals = 2 := hml0
  have hown : s.vm.findClass own_V = some m.cls := by have z := findClass_of_methodNamed Bd.named; exact z
  have hnm := (name_of_methodNamed Bd.named Bd.method).1
  have X0 : Stand p l e ({ frames := 0, cells := 0, slots := 0, locals := 0 } : Room) s m #[(.ref a)] below meth c s₁ [] 0 0 := Stand.of_body Bd
  have e0 : s₁.heap = h0 := by rw [← hh, Bd.state]; rfl
  have N0 := Fr.nil n0
  obtain ⟨G, hG, hst, hend⟩ := own_abs p e below s (own_QR .null h0 n0) ({ frames := 0, cells := 0, slots := 0, locals := 0 } : Room).cells ({ frames := 0, cells := 0, slots := 0, locals := 0 } : Room).slots
  refine hG (S := s₁.setTop (entryFrame m #[(.ref a)] 2)) (hst (fun t_ kt_ => castTop (ef_3 m a) kt_) ?_)
  show G (s₁.setTop (mkF m 0 #[.val (.ref a), .unset] []))
  refine hst (fun _ kt => XS.aloadN X0.here hx rfl (hb hby d3_0) rfl rfl kt) ?_
  show G (s₁.setTop (mkF m 1 #[.val (.ref a), .unset] [(.ref a)]))
  obtain ⟨T_1, X_1, e_1, st_1⟩ := getF X0 hx hZ hown (host := "") (Or.inl (own_w48 hw)) Via.refl e0 F_topic_a (g := (mkF m 1 #[.val (.ref a), .unset] [(.ref a)])) rfl rfl (hb hby d3_1)
  refine hst st_1 ?_
  show G (T_1.setTop (mkF m 4 #[.val (.ref a), .unset] [.null]))
  refine hst (fun _ kt => XS.ifnullYes X_1.here hx rfl (pc0 := 4) (pc' := 15) rfl (hb hby d3_4) rfl (by decide) (by decide) kt) ?_
  show G (T_1.setTop (mkF m 15 #[.val (.ref a), .unset] []))
  refine hst (fun _ kt => XS.aloadN X_1.here hx rfl (hb hby d3_15) rfl rfl kt) ?_
  show G (T_1.setTop (mkF m 16 #[.val (.ref a), .unset] [(.ref a)]))
  obtain ⟨T_2, X_2, e_2, st_2⟩ := getF X_1 hx hZ hown (host := "") (Or.inl (own_w50 hw)) Via.refl e_1 F_broker_a (g := (mkF m 16 #[.val (.ref a), .unset] [(.ref a)])) rfl rfl (hb hby d3_16)
  refine hst st_2 ?_
  show G (T_2.setTop (mkF m 19 #[.val (.ref a), .unset] [.null]))
  refine hst (fun _ kt => XS.ifnullYes X_2.here hx rfl (pc0 := 19) (pc' := 30) rfl (hb hby d3_19) rfl (by decide) (by decide) kt) ?_
  show G (T_2.setTop (mkF m 30 #[.val (.ref a), .unset] []))
  refine hst (fun _ kt => XS.aloadN X_2.here hx rfl (hb hby d3_30) rfl rfl kt) ?_
  show G (T_2.setTop (mkF m 31 #[.val (.ref a), .unset] [(.ref a)]))
  obtain ⟨T_3, X_3, e_3, st_3⟩ := getF X_2 hx hZ hown (host := "") (Or.inl (own_w52 hw)) Via.refl e_2 F_defaultValue_a (g := (mkF m 31 #[.val (.ref a), .unset] [(.ref a)])) rfl rfl (hb hby d3_31)
  refine hst st_3 ?_
  show G (T_3.setTop (mkF m 34 #[.val (.ref a), .unset] [.null]))
  refine hst (fun _ kt => XS.astoreN X_3.here hx rfl (hb hby d3_34) rfl rfl (l' := #[.val (.ref a), .val .null]) rfl kt) ?_
  show G (T_3.setTop (mkF m 35 #[.val (.ref a), .val .null] []))
  refine hst (fun _ kt => XS.aloadN X_3.here hx rfl (hb hby d3_35) rfl rfl kt) ?_
  show G (T_3.setTop (mkF m 36 #[.val (.ref a), .val .null] [.null]))
  exact hend (own_goRet X_3 hx Bd.returns rfl (Or.inr (Or.inr (Or.inr (Or.inr ⟨rfl, rfl, rfl⟩)))) (hb hby d3_36) Bd.notSynchronized (by rw [e_3]; exact ⟨rfl, N0, rfl⟩) (by decide) (by decide))
theorem ef_2001 (m : MethodId) (a : Addr) (k : Addr) (dd : Addr) : entryFrame m #[(.ref a), (.ref k), .null, .null, (.ref dd)] 5 = mkF m 0 #[.val (.ref a), .val (.ref k), .val .null, .val .null, .val (.ref dd)] [] := by first | (simp [entryFrame, mkF, argsToLocals, Value.category]; done) | rfl
set_option maxRecDepth 65536 in
set_option maxHeartbeats 40000000 in
theorem rmI001 (l : Launch) (Z : State) (a0 : Array Value) (hw : ∀ d ∈ tables_1, d.before a0 Z = true) (ws : List Jvm.Cond) (a : Addr) (k : Addr) (dd : Addr) (h0 : Heap) (n0 : Nat) (Z0 : n0 ≤ h0.size) (F_key_a : Fld Z h0 a own_V "key" "Ljava/lang/String;" .null) (F_topic_a : Fld Z h0 a own_V "topic" "Ljava/lang/String;" .null) (F_broker_a : Fld Z h0 a own_V "broker" "Ljava/lang/String;" .null) (F_defaultValue_a : Fld Z h0 a own_V "defaultValue" "Ljava/lang/String;" .null) (E_a : Exa Z h0 a own_V) (le_n0_a : n0 ≤ a) :
    MetFree l (⟨own_V, "<init>", "(Ljava/lang/String;Ljava/lang/String;Ljava/lang/String;Ljava/lang/String;)V"⟩ : MethodName) (head1 (Jvm.Cond.code (⟨own_V, "<init>", "(Ljava/lang/String;Ljava/lang/String;Ljava/lang/String;Ljava/lang/String;)V"⟩ : MethodName) prog_49_method_1_code 5 none :: ws) ({ frames := 2, cells := 0, slots := 0, locals := 24 } : Room)) (fun a_ U_ => a_ = #[(.ref a), (.ref k), .null, .null, (.ref dd)] ∧ Z.Warmed39 U_.vm ∧ U_.heap = h0) (fun _ _ _ _ _ => True) (fun _ U_ o_ W_ => ∃ v_ L_, o_ = .returned v_ ∧ own_Qi Z a .null .null (.ref dd) h0 n0 v_ W_.heap L_ ∧ FrameEnd U_ o_ W_ L_ ({ frames := 2, cells := 0, slots := 0, locals := 24 } : Room).cells ({ frames := 2, cells := 0, slots := 0, locals := 24 } : Room).slots) := by
  refine MetFree.of_bodySF (plainFor_of_name pn_2) hisR ?_
  intro p e s m args below meth c s₁ Bd hml0 hP hK
  obtain ⟨rfl, hZ, hh⟩ := hP
  have hx := Bd.exec
  have hby := Bd.bytes
  have hml : c.maxLocals = 5 := hml0
  have hown : s.vm.findClass own_V = some m.cls := by have z := findClass_of_methodNamed Bd.named; exact z
  have hnm := (name_of_methodNamed Bd.named Bd.method).1
  have X0 : Stand p l e ({ frames := 2, cells := 0, slots := 0, locals := 24 } : Room) s m #[(.ref a), (.ref k), .null, .null, (.ref dd)] below meth c s₁ [] 0 0 := Stand.of_body Bd
  have e0 : s₁.heap = h0 := by rw [← hh, Bd.state]; rfl
  have N0 := Fr.nil n0
  obtain ⟨G, hG, hst, hend⟩ := own_abs p e below s (own_Qi Z a .null .null (.ref dd) h0 n0) ({ frames := 2, cells := 0, slots := 0, locals := 24 } : Room).cells ({ frames := 2, cells := 0, slots := 0, locals := 24 } : Room).slots
  refine hG (S := s₁.setTop (entryFrame m #[(.ref a), (.ref k), .null, .null, (.ref dd)] 5)) (hst (fun t_ kt_ => castTop (ef_2001 m a k dd) kt_) ?_)
  have Z1 := Nat.le_refl h0.size
  have K0 := Keep.refl h0 [a]
  show G (s₁.setTop (mkF m 0 #[.val (.ref a), .val (.ref k), .val .null, .val .null, .val (.ref dd)] []))
  refine hst (fun _ kt => XS.aloadN X0.here hx rfl (hb hby d2_0) rfl rfl kt) ?_
  show G (s₁.setTop (mkF m 1 #[.val (.ref a), .val (.ref k), .val .null, .val .null, .val (.ref dd)] [(.ref a)]))
  obtain ⟨_, _, ⟨T_1, L_1, k_1, n_1⟩, -, X_1, ⟨Lc_1, hQ_1, l_1, y_1, z_1⟩, st_1⟩ := X0.specialBack hx (y := (⟨"java/lang/Record", "<init>", "()V"⟩ : MethodName)) rfl hown (mvT hZ (own_w40 hw)) (mvT hZ (own_w41 hw)) (mvT hZ (own_w44 hw)) (by decide) (backOf (W := 0) (rmR l Z a0 hw [] a  h0 n0 Z0) hZ (own_w44 hw) (own_w43 hw) (by decide) (by decide)) (g := (mkF m 1 #[.val (.ref a), .val (.ref k), .val .null, .val .null, .val (.ref dd)] [(.ref a)])) rfl (by rw [hml]; rfl) (Steps.refl _) (a := a) (argsL := []) (rest := []) (lenOf pd_1 rfl) rfl (by show 2 * 0 + _ ≤ _; exact Nat.le_of_eq rfl) (hb hby d2_1) (fun _ _ => ⟨rfl, e0, (by decide : 0 + 0 ≤ _), (by decide : 0 + 0 ≤ _)⟩)
  dsimp only [Pt.U, Pt.locs, Pt.cells, Pt.slots] at X_1 l_1 y_1 z_1 st_1 hQ_1
  subst l_1 y_1 z_1
  obtain ⟨rfl, N_1q, eh_1⟩ := hQ_1
  have N_1 := Fr.app N0 N_1q
  refine hst (fun _ kt => st_1.trans kt) ?_
  show G (T_1.setTop (mkF m 4 #[.val (.ref a), .val (.ref k), .val .null, .val .null, .val (.ref dd)] []))
  refine hst (fun _ kt => XS.aloadN X_1.here hx rfl (hb hby d2_4) rfl rfl kt) ?_
  show G (T_1.setTop (mkF m 5 #[.val (.ref a), .val (.ref k), .val .null, .val .null, .val (.ref dd)] [(.ref a)]))
  refine hst (fun _ kt => XS.aloadN X_1.here hx rfl (hb hby d2_5) rfl rfl kt) ?_
  show G (T_1.setTop (mkF m 6 #[.val (.ref a), .val (.ref k), .val .null, .val .null, .val (.ref dd)] [(.ref k), (.ref a)]))
  obtain ⟨T_2, h_2, X_2, e_2, W_2, st_2⟩ := putF X_1 hx hZ hown (host := "") (Or.inl (own_w46 hw)) Via.refl eh_1 F_key_a E_a (Or.inr ⟨(own_w47 hw), rfl, hnm⟩) (own_w35 hw) (ty := (.object "java/lang/String")) (by decide) rfl rfl (g := (mkF m 6 #[.val (.ref a), .val (.ref k), .val .null, .val .null, .val (.ref dd)] [(.ref k), (.ref a)])) rfl rfl (hb hby d2_6)
  have Z0 := Nat.le_trans Z0 (Keep.of_wr W_2).1
  have Z1 := Nat.le_trans Z1 (Keep.of_wr W_2).1
  have F_key_a := F_key_a.same W_2
  have F_topic_a := F_topic_a.other W_2 (Or.inr (slot_ne (Or.inr (own_w49 hw)) (Or.inr (own_w47 hw)) (by decide) (t := (.object "java/lang/String")) (t' := (.object "java/lang/String")) (by decide) (by decide)))
  have F_broker_a := F_broker_a.other W_2 (Or.inr (slot_ne (Or.inr (own_w51 hw)) (Or.inr (own_w47 hw)) (by decide) (t := (.object "java/lang/String")) (t' := (.object "java/lang/String")) (by decide) (by decide)))
  have F_defaultValue_a := F_defaultValue_a.other W_2 (Or.inr (slot_ne (Or.inr (own_w53 hw)) (Or.inr (own_w47 hw)) (by decide) (t := (.object "java/lang/String")) (t' := (.object "java/lang/String")) (by decide) (by decide)))
  have E_a := E_a.wr W_2
  have K0 := K0.wr W_2 (Or.inl (List.mem_of_getElem? (i := 0) rfl))
  have N_2 := Fr.snoc X_2 N_1 le_n0_a
  refine hst st_2 ?_
  show G (T_2.setTop (mkF m 9 #[.val (.ref a), .val (.ref k), .val .null, .val .null, .val (.ref dd)] []))
  refine hst (fun _ kt => XS.aloadN X_2.here hx rfl (hb hby d2_9) rfl rfl kt) ?_
  show G (T_2.setTop (mkF m 10 #[.val (.ref a), .val (.ref k), .val .null, .val .null, .val (.ref dd)] [(.ref a)]))
  refine hst (fun _ kt => XS.aloadN X_2.here hx rfl (hb hby d2_10) rfl rfl kt) ?_
  show G (T_2.setTop (mkF m 11 #[.val (.ref a), .val (.ref k), .val .null, .val .null, .val (.ref dd)] [.null, (.ref a)]))
  obtain ⟨T_3, h_3, X_3, e_3, W_3, st_3⟩ := putF X_2 hx hZ hown (host := "") (Or.inl (own_w48 hw)) Via.refl e_2 F_topic_a E_a (Or.inr ⟨(own_w49 hw), rfl, hnm⟩) (own_w35 hw) (ty := (.object "java/lang/String")) (by decide) rfl rfl (g := (mkF m 11 #[.val (.ref a), .val (.ref k), .val .null, .val .null, .val (.ref dd)] [.null, (.ref a)])) rfl rfl (hb hby d2_11)
  have Z0 := Nat.le_trans Z0 (Keep.of_wr W_3).1
  have Z1 := Nat.le_trans Z1 (Keep.of_wr W_3).1
  have F_key_a := F_key_a.other W_3 (Or.inr (slot_ne (Or.inr (own_w47 hw)) (Or.inr (own_w49 hw)) (by decide) (t := (.object "java/lang/String")) (t' := (.object "java/lang/String")) (by decide) (by decide)))
  have F_topic_a := F_topic_a.same W_3
  have F_broker_a := F_broker_a.other W_3 (Or.inr (slot_ne (Or.inr (own_w51 hw)) (Or.inr (own_w49 hw)) (by decide) (t := (.object "java/lang/String")) (t' := (.object "java/lang/String")) (by decide) (by decide)))
  have F_defaultValue_a := F_defaultValue_a.other W_3 (Or.inr (slot_ne (Or.inr (own_w53 hw)) (Or.inr (own_w49 hw)) (by decide) (t := (.object "java/lang/String")) (t' := (.object "java/lang/String")) (by decide) (by decide)))
  have E_a := E_a.wr W_3
  have K0 := K0.wr W_3 (Or.inl (List.mem_of_getElem? (i := 0) rfl))
  have N_3 := Fr.snoc X_3 N_2 le_n0_a
  refine hst st_3 ?_
  show G (T_3.setTop (mkF m 14 #[.val (.ref a), .val (.ref k), .val .null, .val .null, .val (.ref dd)] []))
  refine hst (fun _ kt => XS.aloadN X_3.here hx rfl (hb hby d2_14) rfl rfl kt) ?_
  show G (T_3.setTop (mkF m 15 #[.val (.ref a), .val (.ref k), .val .null, .val .null, .val (.ref dd)] [(.ref a)]))
  refine hst (fun _ kt => XS.aloadN X_3.here hx rfl (hb hby d2_15) rfl rfl kt) ?_
  show G (T_3.setTop (mkF m 16 #[.val (.ref a), .val (.ref k), .val .null, .val .null, .val (.ref dd)] [.null, (.ref a)]))
  obtain ⟨T_4, h_4, X_4, e_4, W_4, st_4⟩ := putF X_3 hx hZ hown (host := "") (Or.inl (own_w50 hw)) Via.refl e_3 F_broker_a E_a (Or.inr ⟨(own_w51 hw), rfl, hnm⟩) (own_w35 hw) (ty := (.object "java/lang/String")) (by decide) rfl rfl (g := (mkF m 16 #[.val (.ref a), .val (.ref k), .val .null, .val .null, .val (.ref dd)] [.null, (.ref a)])) rfl rfl (hb hby d2_16)
  have Z0 := Nat.le_trans Z0 (Keep.of_wr W_4).1
  have Z1 := Nat.le_trans Z1 (Keep.of_wr W_4).1
  have F_key_a := F_key_a.other W_4 (Or.inr (slot_ne (Or.inr (own_w47 hw)) (Or.inr (own_w51 hw)) (by decide) (t := (.object "java/lang/String")) (t' := (.object "java/lang/String")) (by decide) (by decide)))
  have F_topic_a := F_topic_a.other W_4 (Or.inr (slot_ne (Or.inr (own_w49 hw)) (Or.inr (own_w51 hw)) (by decide) (t := (.object "java/lang/String")) (t' := (.object "java/lang/String")) (by decide) (by decide)))
  have F_broker_a := F_broker_a.same W_4
  have F_defaultValue_a := F_defaultValue_a.other W_4 (Or.inr (slot_ne (Or.inr (own_w53 hw)) (Or.inr (own_w51 hw)) (by decide) (t := (.object "java/lang/String")) (t' := (.object "java/lang/String")) (by decide) (by decide)))
  have E_a := E_a.wr W_4
  have K0 := K0.wr W_4 (Or.inl (List.mem_of_getElem? (i := 0) rfl))
  have N_4 := Fr.snoc X_4 N_3 le_n0_a
  refine hst st_4 ?_
  show G (T_4.setTop (mkF m 19 #[.val (.ref a), .val (.ref k), .val .null, .val .null, .val (.ref dd)] []))
  refine hst (fun _ kt => XS.aloadN X_4.here hx rfl (hb hby d2_19) rfl rfl kt) ?_
  show G (T_4.setTop (mkF m 20 #[.val (.ref a), .val (.ref k), .val .null, .val .null, .val (.ref dd)] [(.ref a)]))
  refine hst (fun _ kt => XS.aload X_4.here hx rfl (hb hby d2_20) rfl rfl kt) ?_
  show G (T_4.setTop (mkF m 22 #[.val (.ref a), .val (.ref k), .val .null, .val .null, .val (.ref dd)] [(.ref dd), (.ref a)]))
  obtain ⟨T_5, h_5, X_5, e_5, W_5, st_5⟩ := putF X_4 hx hZ hown (host := "") (Or.inl (own_w52 hw)) Via.refl e_4 F_defaultValue_a E_a (Or.inr ⟨(own_w53 hw), rfl, hnm⟩) (own_w35 hw) (ty := (.object "java/lang/String")) (by decide) rfl rfl (g := (mkF m 22 #[.val (.ref a), .val (.ref k), .val .null, .val .null, .val (.ref dd)] [(.ref dd), (.ref a)])) rfl rfl (hb hby d2_22)
  have Z0 := Nat.le_trans Z0 (Keep.of_wr W_5).1
  have Z1 := Nat.le_trans Z1 (Keep.of_wr W_5).1
  have F_key_a := F_key_a.other W_5 (Or.inr (slot_ne (Or.inr (own_w47 hw)) (Or.inr (own_w53 hw)) (by decide) (t := (.object "java/lang/String")) (t' := (.object "java/lang/String")) (by decide) (by decide)))
  have F_topic_a := F_topic_a.other W_5 (Or.inr (slot_ne (Or.inr (own_w49 hw)) (Or.inr (own_w53 hw)) (by decide) (t := (.object "java/lang/String")) (t' := (.object "java/lang/String")) (by decide) (by decide)))
  have F_broker_a := F_broker_a.other W_5 (Or.inr (slot_ne (Or.inr (own_w51 hw)) (Or.inr (own_w53 hw)) (by decide) (t := (.object "java/lang/String")) (t' := (.object "java/lang/String")) (by decide) (by decide)))
  have F_defaultValue_a := F_defaultValue_a.same W_5
  have E_a := E_a.wr W_5
  have K0 := K0.wr W_5 (Or.inl (List.mem_of_getElem? (i := 0) rfl))
  have N_5 := Fr.snoc X_5 N_4 le_n0_a
  refine hst st_5 ?_
  show G (T_5.setTop (mkF m 25 #[.val (.ref a), .val (.ref k), .val .null, .val .null, .val (.ref dd)] []))
  exact hend (own_goVoid X_5 hx Bd.returns (hb hby d2_25) Bd.notSynchronized (by rw [e_5]; exact ⟨rfl, N_5, K0, E_a, F_topic_a, F_broker_a, F_defaultValue_a⟩) (by decide) (by decide))
set_option maxRecDepth 65536 in
set_option maxHeartbeats 40000000 in
theorem rmV001 (l : Launch) (Z : State) (a0 : Array Value) (hw : ∀ d ∈ tables_1, d.before a0 Z = true) (ws : List Jvm.Cond) (a : Addr) (dd : Addr) (h0 : Heap) (n0 : Nat) (Z0 : n0 ≤ h0.size) (F_topic_a : Fld Z h0 a own_V "topic" "Ljava/lang/String;" .null) (F_broker_a : Fld Z h0 a own_V "broker" "Ljava/lang/String;" .null) (F_defaultValue_a : Fld Z h0 a own_V "defaultValue" "Ljava/lang/String;" (.ref dd)) :
    MetFree l (⟨own_V, "value", "()Ljava/lang/String;"⟩ : MethodName) (head1 (Jvm.Cond.code (⟨own_V, "value", "()Ljava/lang/String;"⟩ : MethodName) prog_49_method_2_code 2 (some (.object "java/lang/String")) :: ws) ({ frames := 0, cells := 0, slots := 0, locals := 0 } : Room)) (fun a_ U_ => a_ = #[(.ref a)] ∧ Z.Warmed39 U_.vm ∧ U_.heap = h0) (fun _ _ _ _ _ => True) (fun _ U_ o_ W_ => ∃ v_ L_, o_ = .returned v_ ∧ own_QR (.ref dd) h0 n0 v_ W_.heap L_ ∧ FrameEnd U_ o_ W_ L_ ({ frames := 0, cells := 0, slots := 0, locals := 0 } : Room).cells ({ frames := 0, cells := 0, slots := 0, locals := 0 } : Room).slots) := by
  refine MetFree.of_bodySF (plainFor_of_name pn_3) hisR ?_
  intro p e s m args below meth c s₁ Bd hml0 hP hK
  obtain ⟨rfl, hZ, hh⟩ := hP
  have hx := Bd.exec
  have hby := Bd.bytes
  have hml : c.maxLocals = 2 := hml0
  have hown : s.vm.findClass own_V = some m.cls := by have z := findClass_of_methodNamed Bd.named; exact z
  have hnm := (name_of_methodNamed Bd.named Bd.method).1
  have X0 : Stand p l e ({ frames := 0, cells := 0, slots := 0, locals := 0 } : Room) s m #[(.ref a)] below meth c s₁ [] 0 0 := Stand.of_body Bd
  have e0 : s₁.heap = h0 := by rw [← hh, Bd.state]; rfl
  have N0 := Fr.nil n0
  obtain ⟨G, hG, hst, hend⟩ := own_abs p e below s (own_QR (.ref dd) h0 n0) ({ frames := 0, cells := 0, slots := 0, locals := 0 } : Room).cells ({ frames := 0, cells := 0, slots := 0, locals := 0 } : Room).slots
  refine hG (S := s₁.setTop (entryFrame m #[(.ref a)] 2)) (hst (fun t_ kt_ => castTop (ef_3 m a) kt_) ?_)
  show G (s₁.setTop (mkF m 0 #[.val (.ref a), .unset] []))
  refine hst (fun _ kt => XS.aloadN X0.here hx rfl (hb hby d3_0) rfl rfl kt) ?_
  show G (s₁.setTop (mkF m 1 #[.val (.ref a), .unset] [(.ref a)]))
  obtain ⟨T_1, X_1, e_1, st_1⟩ := getF X0 hx hZ hown (host := "") (Or.inl (own_w48 hw)) Via.refl e0 F_topic_a (g := (mkF m 1 #[.val (.ref a), .unset] [(.ref a)])) rfl rfl (hb hby d3_1)
  refine hst st_1 ?_
  show G (T_1.setTop (mkF m 4 #[.val (.ref a), .unset] [.null]))
  refine hst (fun _ kt => XS.ifnullYes X_1.here hx rfl (pc0 := 4) (pc' := 15) rfl (hb hby d3_4) rfl (by decide) (by decide) kt) ?_
  show G (T_1.setTop (mkF m 15 #[.val (.ref a), .unset] []))
  refine hst (fun _ kt => XS.aloadN X_1.here hx rfl (hb hby d3_15) rfl rfl kt) ?_
  show G (T_1.setTop (mkF m 16 #[.val (.ref a), .unset] [(.ref a)]))
  obtain ⟨T_2, X_2, e_2, st_2⟩ := getF X_1 hx hZ hown (host := "") (Or.inl (own_w50 hw)) Via.refl e_1 F_broker_a (g := (mkF m 16 #[.val (.ref a), .unset] [(.ref a)])) rfl rfl (hb hby d3_16)
  refine hst st_2 ?_
  show G (T_2.setTop (mkF m 19 #[.val (.ref a), .unset] [.null]))
  refine hst (fun _ kt => XS.ifnullYes X_2.here hx rfl (pc0 := 19) (pc' := 30) rfl (hb hby d3_19) rfl (by decide) (by decide) kt) ?_
  show G (T_2.setTop (mkF m 30 #[.val (.ref a), .unset] []))
  refine hst (fun _ kt => XS.aloadN X_2.here hx rfl (hb hby d3_30) rfl rfl kt) ?_
  show G (T_2.setTop (mkF m 31 #[.val (.ref a), .unset] [(.ref a)]))
  obtain ⟨T_3, X_3, e_3, st_3⟩ := getF X_2 hx hZ hown (host := "") (Or.inl (own_w52 hw)) Via.refl e_2 F_defaultValue_a (g := (mkF m 31 #[.val (.ref a), .unset] [(.ref a)])) rfl rfl (hb hby d3_31)
  refine hst st_3 ?_
  show G (T_3.setTop (mkF m 34 #[.val (.ref a), .unset] [(.ref dd)]))
  refine hst (fun _ kt => XS.astoreN X_3.here hx rfl (hb hby d3_34) rfl rfl (l' := #[.val (.ref a), .val (.ref dd)]) rfl kt) ?_
  show G (T_3.setTop (mkF m 35 #[.val (.ref a), .val (.ref dd)] []))
  refine hst (fun _ kt => XS.aloadN X_3.here hx rfl (hb hby d3_35) rfl rfl kt) ?_
  show G (T_3.setTop (mkF m 36 #[.val (.ref a), .val (.ref dd)] [(.ref dd)]))
  exact hend (own_goRet X_3 hx Bd.returns rfl (Or.inr (Or.inr (Or.inr (Or.inr ⟨rfl, rfl, rfl⟩)))) (hb hby d3_36) Bd.notSynchronized (by rw [e_3]; exact ⟨rfl, N0, rfl⟩) (by decide) (by decide))
theorem ef_2010 (m : MethodId) (a : Addr) (k : Addr) (b : Addr) : entryFrame m #[(.ref a), (.ref k), .null, (.ref b), .null] 5 = mkF m 0 #[.val (.ref a), .val (.ref k), .val .null, .val (.ref b), .val .null] [] := by first | (simp [entryFrame, mkF, argsToLocals, Value.category]; done) | rfl
set_option maxRecDepth 65536 in
set_option maxHeartbeats 40000000 in
theorem rmI010 (l : Launch) (Z : State) (a0 : Array Value) (hw : ∀ d ∈ tables_1, d.before a0 Z = true) (ws : List Jvm.Cond) (a : Addr) (k : Addr) (b : Addr) (h0 : Heap) (n0 : Nat) (Z0 : n0 ≤ h0.size) (F_key_a : Fld Z h0 a own_V "key" "Ljava/lang/String;" .null) (F_topic_a : Fld Z h0 a own_V "topic" "Ljava/lang/String;" .null) (F_broker_a : Fld Z h0 a own_V "broker" "Ljava/lang/String;" .null) (F_defaultValue_a : Fld Z h0 a own_V "defaultValue" "Ljava/lang/String;" .null) (E_a : Exa Z h0 a own_V) (le_n0_a : n0 ≤ a) :
    MetFree l (⟨own_V, "<init>", "(Ljava/lang/String;Ljava/lang/String;Ljava/lang/String;Ljava/lang/String;)V"⟩ : MethodName) (head1 (Jvm.Cond.code (⟨own_V, "<init>", "(Ljava/lang/String;Ljava/lang/String;Ljava/lang/String;Ljava/lang/String;)V"⟩ : MethodName) prog_49_method_1_code 5 none :: ws) ({ frames := 2, cells := 0, slots := 0, locals := 24 } : Room)) (fun a_ U_ => a_ = #[(.ref a), (.ref k), .null, (.ref b), .null] ∧ Z.Warmed39 U_.vm ∧ U_.heap = h0) (fun _ _ _ _ _ => True) (fun _ U_ o_ W_ => ∃ v_ L_, o_ = .returned v_ ∧ own_Qi Z a .null (.ref b) .null h0 n0 v_ W_.heap L_ ∧ FrameEnd U_ o_ W_ L_ ({ frames := 2, cells := 0, slots := 0, locals := 24 } : Room).cells ({ frames := 2, cells := 0, slots := 0, locals := 24 } : Room).slots) := by
  refine MetFree.of_bodySF (plainFor_of_name pn_2) hisR ?_
  intro p e s m args below meth c s₁ Bd hml0 hP hK
  obtain ⟨rfl, hZ, hh⟩ := hP
  have hx := Bd.exec
  have hby := Bd.bytes
  have hml : c.maxLocals = 5 := hml0
  have hown : s.vm.findClass own_V = some m.cls := by have z := findClass_of_methodNamed Bd.named; exact z
  have hnm := (name_of_methodNamed Bd.named Bd.method).1
  have X0 : Stand p l e ({ frames := 2, cells := 0, slots := 0, locals := 24 } : Room) s m #[(.ref a), (.ref k), .null, (.ref b), .null] below meth c s₁ [] 0 0 := Stand.of_body Bd
  have e0 : s₁.heap = h0 := by rw [← hh, Bd.state]; rfl
  have N0 := Fr.nil n0
  obtain ⟨G, hG, hst, hend⟩ := own_abs p e below s (own_Qi Z a .null (.ref b) .null h0 n0) ({ frames := 2, cells := 0, slots := 0, locals := 24 } : Room).cells ({ frames := 2, cells := 0, slots := 0, locals := 24 } : Room).slots
  refine hG (S := s₁.setTop (entryFrame m #[(.ref a), (.ref k), .null, (.ref b), .null] 5)) (hst (fun t_ kt_ => castTop (ef_2010 m a k b) kt_) ?_)
  have Z1 := Nat.le_refl h0.size
  have K0 := Keep.refl h0 [a]
  show G (s₁.setTop (mkF m 0 #[.val (.ref a), .val (.ref k), .val .null, .val (.ref b), .val .null] []))
  refine hst (fun _ kt => XS.aloadN X0.here hx rfl (hb hby d2_0) rfl rfl kt) ?_
  show G (s₁.setTop (mkF m 1 #[.val (.ref a), .val (.ref k), .val .null, .val (.ref b), .val .null] [(.ref a)]))
  obtain ⟨_, _, ⟨T_1, L_1, k_1, n_1⟩, -, X_1, ⟨Lc_1, hQ_1, l_1, y_1, z_1⟩, st_1⟩ := X0.specialBack hx (y := (⟨"java/lang/Record", "<init>", "()V"⟩ : MethodName)) rfl hown (mvT hZ (own_w40 hw)) (mvT hZ (own_w41 hw)) (mvT hZ (own_w44 hw)) (by decide) (backOf (W := 0) (rmR l Z a0 hw [] a  h0 n0 Z0) hZ (own_w44 hw) (own_w43 hw) (by decide) (by decide)) (g := (mkF m 1 #[.val (.ref a), .val (.ref k), .val .null, .val (.ref b), .val .null] [(.ref a)])) rfl (by rw [hml]; rfl) (Steps.refl _) (a := a) (argsL := []) (rest := []) (lenOf pd_1 rfl) rfl (by show 2 * 0 + _ ≤ _; exact Nat.le_of_eq rfl) (hb hby d2_1) (fun _ _ => ⟨rfl, e0, (by decide : 0 + 0 ≤ _), (by decide : 0 + 0 ≤ _)⟩)
  dsimp only [Pt.U, Pt.locs, Pt.cells, Pt.slots] at X_1 l_1 y_1 z_1 st_1 hQ_1
  subst l_1 y_1 z_1
  obtain ⟨rfl, N_1q, eh_1⟩ := hQ_1
  have N_1 := Fr.app N0 N_1q
  refine hst (fun _ kt => st_1.trans kt) ?_
  show G (T_1.setTop (mkF m 4 #[.val (.ref a), .val (.ref k), .val .null, .val (.ref b), .val .null] []))
  refine hst (fun _ kt => XS.aloadN X_1.here hx rfl (hb hby d2_4) rfl rfl kt) ?_
  show G (T_1.setTop (mkF m 5 #[.val (.ref a), .val (.ref k), .val .null, .val (.ref b), .val .null] [(.ref a)]))
  refine hst (fun _ kt => XS.aloadN X_1.here hx rfl (hb hby d2_5) rfl rfl kt) ?_
  show G (T_1.setTop (mkF m 6 #[.val (.ref a), .val (.ref k), .val .null, .val (.ref b), .val .null] [(.ref k), (.ref a)]))
  obtain ⟨T_2, h_2, X_2, e_2, W_2, st_2⟩ := putF X_1 hx hZ hown (host := "") (Or.inl (own_w46 hw)) Via.refl eh_1 F_key_a E_a (Or.inr ⟨(own_w47 hw), rfl, hnm⟩) (own_w35 hw) (ty := (.object "java/lang/String")) (by decide) rfl rfl (g := (mkF m 6 #[.val (.ref a), .val (.ref k), .val .null, .val (.ref b), .val .null] [(.ref k), (.ref a)])) rfl rfl (hb hby d2_6)
  have Z0 := Nat.le_trans Z0 (Keep.of_wr W_2).1
  have Z1 := Nat.le_trans Z1 (Keep.of_wr W_2).1
  have F_key_a := F_key_a.same W_2
  have F_topic_a := F_topic_a.other W_2 (Or.inr (slot_ne (Or.inr (own_w49 hw)) (Or.inr (own_w47 hw)) (by decide) (t := (.object "java/lang/String")) (t' := (.object "java/lang/String")) (by decide) (by decide)))
  have F_broker_a := F_broker_a.other W_2 (Or.inr (slot_ne (Or.inr (own_w51 hw)) (Or.inr (own_w47 hw)) (by decide) (t := (.object "java/lang/String")) (t' := (.object "java/lang/String")) (by decide) (by decide)))
  have F_defaultValue_a := F_defaultValue_a.other W_2 (Or.inr (slot_ne (Or.inr (own_w53 hw)) (Or.inr (own_w47 hw)) (by decide) (t := (.object "java/lang/String")) (t' := (.object "java/lang/String")) (by decide) (by decide)))
  have E_a := E_a.wr W_2
  have K0 := K0.wr W_2 (Or.inl (List.mem_of_getElem? (i := 0) rfl))
  have N_2 := Fr.snoc X_2 N_1 le_n0_a
  refine hst st_2 ?_
  show G (T_2.setTop (mkF m 9 #[.val (.ref a), .val (.ref k), .val .null, .val (.ref b), .val .null] []))
  refine hst (fun _ kt => XS.aloadN X_2.here hx rfl (hb hby d2_9) rfl rfl kt) ?_
  show G (T_2.setTop (mkF m 10 #[.val (.ref a), .val (.ref k), .val .null, .val (.ref b), .val .null] [(.ref a)]))
  refine hst (fun _ kt => XS.aloadN X_2.here hx rfl (hb hby d2_10) rfl rfl kt) ?_
  show G (T_2.setTop (mkF m 11 #[.val (.ref a), .val (.ref k), .val .null, .val (.ref b), .val .null] [.null, (.ref a)]))
  obtain ⟨T_3, h_3, X_3, e_3, W_3, st_3⟩ := putF X_2 hx hZ hown (host := "") (Or.inl (own_w48 hw)) Via.refl e_2 F_topic_a E_a (Or.inr ⟨(own_w49 hw), rfl, hnm⟩) (own_w35 hw) (ty := (.object "java/lang/String")) (by decide) rfl rfl (g := (mkF m 11 #[.val (.ref a), .val (.ref k), .val .null, .val (.ref b), .val .null] [.null, (.ref a)])) rfl rfl (hb hby d2_11)
  have Z0 := Nat.le_trans Z0 (Keep.of_wr W_3).1
  have Z1 := Nat.le_trans Z1 (Keep.of_wr W_3).1
  have F_key_a := F_key_a.other W_3 (Or.inr (slot_ne (Or.inr (own_w47 hw)) (Or.inr (own_w49 hw)) (by decide) (t := (.object "java/lang/String")) (t' := (.object "java/lang/String")) (by decide) (by decide)))
  have F_topic_a := F_topic_a.same W_3
  have F_broker_a := F_broker_a.other W_3 (Or.inr (slot_ne (Or.inr (own_w51 hw)) (Or.inr (own_w49 hw)) (by decide) (t := (.object "java/lang/String")) (t' := (.object "java/lang/String")) (by decide) (by decide)))
  have F_defaultValue_a := F_defaultValue_a.other W_3 (Or.inr (slot_ne (Or.inr (own_w53 hw)) (Or.inr (own_w49 hw)) (by decide) (t := (.object "java/lang/String")) (t' := (.object "java/lang/String")) (by decide) (by decide)))
  have E_a := E_a.wr W_3
  have K0 := K0.wr W_3 (Or.inl (List.mem_of_getElem? (i := 0) rfl))
  have N_3 := Fr.snoc X_3 N_2 le_n0_a
  refine hst st_3 ?_
  show G (T_3.setTop (mkF m 14 #[.val (.ref a), .val (.ref k), .val .null, .val (.ref b), .val .null] []))
  refine hst (fun _ kt => XS.aloadN X_3.here hx rfl (hb hby d2_14) rfl rfl kt) ?_
  show G (T_3.setTop (mkF m 15 #[.val (.ref a), .val (.ref k), .val .null, .val (.ref b), .val .null] [(.ref a)]))
  refine hst (fun _ kt => XS.aloadN X_3.here hx rfl (hb hby d2_15) rfl rfl kt) ?_
  show G (T_3.setTop (mkF m 16 #[.val (.ref a), .val (.ref k), .val .null, .val (.ref b), .val .null] [(.ref b), (.ref a)]))
  obtain ⟨T_4, h_4, X_4, e_4, W_4, st_4⟩ := putF X_3 hx hZ hown (host := "") (Or.inl (own_w50 hw)) Via.refl e_3 F_broker_a E_a (Or.inr ⟨(own_w51 hw), rfl, hnm⟩) (own_w35 hw) (ty := (.object "java/lang/String")) (by decide) rfl rfl (g := (mkF m 16 #[.val (.ref a), .val (.ref k), .val .null, .val (.ref b), .val .null] [(.ref b), (.ref a)])) rfl rfl (hb hby d2_16)
  have Z0 := Nat.le_trans Z0 (Keep.of_wr W_4).1
  have Z1 := Nat.le_trans Z1 (Keep.of_wr W_4).1
  have F_key_a := F_key_a.other W_4 (Or.inr (slot_ne (Or.inr (own_w47 hw)) (Or.inr (own_w51 hw)) (by decide) (t := (.object "java/lang/String")) (t' := (.object "java/lang/String")) (by decide) (by decide)))
  have F_topic_a := F_topic_a.other W_4 (Or.inr (slot_ne (Or.inr (own_w49 hw)) (Or.inr (own_w51 hw)) (by decide) (t := (.object "java/lang/String")) (t' := (.object "java/lang/String")) (by decide) (by decide)))
  have F_broker_a := F_broker_a.same W_4
  have F_defaultValue_a := F_defaultValue_a.other W_4 (Or.inr (slot_ne (Or.inr (own_w53 hw)) (Or.inr (own_w51 hw)) (by decide) (t := (.object "java/lang/String")) (t' := (.object "java/lang/String")) (by decide) (by decide)))
  have E_a := E_a.wr W_4
  have K0 := K0.wr W_4 (Or.inl (List.mem_of_getElem? (i := 0) rfl))
  have N_4 := Fr.snoc X_4 N_3 le_n0_a
  refine hst st_4 ?_
  show G (T_4.setTop (mkF m 19 #[.val (.ref a), .val (.ref k), .val .null, .val (.ref b), .val .null] []))
  refine hst (fun _ kt => XS.aloadN X_4.here hx rfl (hb hby d2_19) rfl rfl kt) ?_
  show G (T_4.setTop (mkF m 20 #[.val (.ref a), .val (.ref k), .val .null, .val (.ref b), .val .null] [(.ref a)]))
  refine hst (fun _ kt => XS.aload X_4.here hx rfl (hb hby d2_20) rfl rfl kt) ?_
  show G (T_4.setTop (mkF m 22 #[.val (.ref a), .val (.ref k), .val .null, .val (.ref b), .val .null] [.null, (.ref a)]))
  obtain ⟨T_5, h_5, X_5, e_5, W_5, st_5⟩ := putF X_4 hx hZ hown (host := "") (Or.inl (own_w52 hw)) Via.refl e_4 F_defaultValue_a E_a (Or.inr ⟨(own_w53 hw), rfl, hnm⟩) (own_w35 hw) (ty := (.object "java/lang/String")) (by decide) rfl rfl (g := (mkF m 22 #[.val (.ref a), .val (.ref k), .val .null, .val (.ref b), .val .null] [.null, (.ref a)])) rfl rfl (hb hby d2_22)
  have Z0 := Nat.le_trans Z0 (Keep.of_wr W_5).1
  have Z1 := Nat.le_trans Z1 (Keep.of_wr W_5).1
  have F_key_a := F_key_a.other W_5 (Or.inr (slot_ne (Or.inr (own_w47 hw)) (Or.inr (own_w53 hw)) (by decide) (t := (.object "java/lang/String")) (t' := (.object "java/lang/String")) (by decide) (by decide)))
  have F_topic_a := F_topic_a.other W_5 (Or.inr (slot_ne (Or.inr (own_w49 hw)) (Or.inr (own_w53 hw)) (by decide) (t := (.object "java/lang/String")) (t' := (.object "java/lang/String")) (by decide) (by decide)))
  have F_broker_a := F_broker_a.other W_5 (Or.inr (slot_ne (Or.inr (own_w51 hw)) (Or.inr (own_w53 hw)) (by decide) (t := (.object "java/lang/String")) (t' := (.object "java/lang/String")) (by decide) (by decide)))
  have F_defaultValue_a := F_defaultValue_a.same W_5
  have E_a := E_a.wr W_5
  have K0 := K0.wr W_5 (Or.inl (List.mem_of_getElem? (i := 0) rfl))
  have N_5 := Fr.snoc X_5 N_4 le_n0_a
  refine hst st_5 ?_
  show G (T_5.setTop (mkF m 25 #[.val (.ref a), .val (.ref k), .val .null, .val (.ref b), .val .null] []))
  exact hend (own_goVoid X_5 hx Bd.returns (hb hby d2_25) Bd.notSynchronized (by rw [e_5]; exact ⟨rfl, N_5, K0, E_a, F_topic_a, F_broker_a, F_defaultValue_a⟩) (by decide) (by decide))
set_option maxRecDepth 65536 in
set_option maxHeartbeats 40000000 in
theorem rmV010 (l : Launch) (Z : State) (a0 : Array Value) (hw : ∀ d ∈ tables_1, d.before a0 Z = true) (ws : List Jvm.Cond) (a : Addr) (b : Addr) (h0 : Heap) (n0 : Nat) (Z0 : n0 ≤ h0.size) (F_topic_a : Fld Z h0 a own_V "topic" "Ljava/lang/String;" .null) (F_broker_a : Fld Z h0 a own_V "broker" "Ljava/lang/String;" (.ref b)) (F_defaultValue_a : Fld Z h0 a own_V "defaultValue" "Ljava/lang/String;" .null) :
    MetFree l (⟨own_V, "value", "()Ljava/lang/String;"⟩ : MethodName) (head1 (Jvm.Cond.code (⟨own_V, "value", "()Ljava/lang/String;"⟩ : MethodName) prog_49_method_2_code 2 (some (.object "java/lang/String")) :: ws) ({ frames := 0, cells := 0, slots := 0, locals := 0 } : Room)) (fun a_ U_ => a_ = #[(.ref a)] ∧ Z.Warmed39 U_.vm ∧ U_.heap = h0) (fun _ _ _ _ _ => True) (fun _ U_ o_ W_ => ∃ v_ L_, o_ = .returned v_ ∧ own_QR (.ref b) h0 n0 v_ W_.heap L_ ∧ FrameEnd U_ o_ W_ L_ ({ frames := 0, cells := 0, slots := 0, locals := 0 } : Room).cells ({ frames := 0, cells := 0, slots := 0, locals := 0 } : Room).slots) := by
  refine MetFree.of_bodySF (plainFor_of_name pn_3) hisR ?_
  intro p e s m args below meth c s₁ Bd hml0 hP hK
  obtain ⟨rfl, hZ, hh⟩ := hP
  have hx := Bd.exec
  have hby := Bd.bytes
  have hml : c.maxLocals = 2 := hml0
  have hown : s.vm.findClass own_V = some m.cls := by have z := findClass_of_methodNamed Bd.named; exact z
  have hnm := (name_of_methodNamed Bd.named Bd.method).1
  have X0 : Stand p l e ({ frames := 0, cells := 0, slots := 0, locals := 0 } : Room) s m #[(.ref a)] below meth c s₁ [] 0 0 := Stand.of_body Bd
  have e0 : s₁.heap = h0 := by rw [← hh, Bd.state]; rfl
  have N0 := Fr.nil n0
  obtain ⟨G, hG, hst, hend⟩ := own_abs p e below s (own_QR (.ref b) h0 n0) ({ frames := 0, cells := 0, slots := 0, locals := 0 } : Room).cells ({ frames := 0, cells := 0, slots := 0, locals := 0 } : Room).slots
  refine hG (S := s₁.setTop (entryFrame m #[(.ref a)] 2)) (hst (fun t_ kt_ => castTop (ef_3 m a) kt_) ?_)
  show G (s₁.setTop (mkF m 0 #[.val (.ref a), .unset] []))
  refine hst (fun _ kt => XS.aloadN X0.here hx rfl (hb hby d3_0) rfl rfl kt) ?_
  show G (s₁.setTop (mkF m 1 #[.val (.ref a), .unset] [(.ref a)]))
  obtain ⟨T_1, X_1, e_1, st_1⟩ := getF X0 hx hZ hown (host := "") (Or.inl (own_w48 hw)) Via.refl e0 F_topic_a (g := (mkF m 1 #[.val (.ref a), .unset] [(.ref a)])) rfl rfl (hb hby d3_1)
  refine hst st_1 ?_
  show G (T_1.setTop (mkF m 4 #[.val (.ref a), .unset] [.null]))
  refine hst (fun _ kt => XS.ifnullYes X_1.here hx rfl (pc0 := 4) (pc' := 15) rfl (hb hby d3_4) rfl (by decide) (by decide) kt) ?_
  show G (T_1.setTop (mkF m 15 #[.val (.ref a), .unset] []))
  refine hst (fun _ kt => XS.aloadN X_1.here hx rfl (hb hby d3_15) rfl rfl kt) ?_
  show G (T_1.setTop (mkF m 16 #[.val (.ref a), .unset] [(.ref a)]))
  obtain ⟨T_2, X_2, e_2, st_2⟩ := getF X_1 hx hZ hown (host := "") (Or.inl (own_w50 hw)) Via.refl e_1 F_broker_a (g := (mkF m 16 #[.val (.ref a), .unset] [(.ref a)])) rfl rfl (hb hby d3_16)
  refine hst st_2 ?_
  show G (T_2.setTop (mkF m 19 #[.val (.ref a), .unset] [(.ref b)]))
  refine hst (fun _ kt => XS.ifnullNo X_2.here hx rfl (hb hby d3_19) rfl kt) ?_
  show G (T_2.setTop (mkF m 22 #[.val (.ref a), .unset] []))
  refine hst (fun _ kt => XS.aloadN X_2.here hx rfl (hb hby d3_22) rfl rfl kt) ?_
  show G (T_2.setTop (mkF m 23 #[.val (.ref a), .unset] [(.ref a)]))
  obtain ⟨T_3, X_3, e_3, st_3⟩ := getF X_2 hx hZ hown (host := "") (Or.inl (own_w50 hw)) Via.refl e_2 F_broker_a (g := (mkF m 23 #[.val (.ref a), .unset] [(.ref a)])) rfl rfl (hb hby d3_23)
  refine hst st_3 ?_
  show G (T_3.setTop (mkF m 26 #[.val (.ref a), .unset] [(.ref b)]))
  refine hst (fun _ kt => XS.astoreN X_3.here hx rfl (hb hby d3_26) rfl rfl (l' := #[.val (.ref a), .val (.ref b)]) rfl kt) ?_
  show G (T_3.setTop (mkF m 27 #[.val (.ref a), .val (.ref b)] []))
  refine hst (fun _ kt => XS.goto X_3.here hx rfl (pc0 := 27) (pc' := 35) rfl (hb hby d3_27) (by decide) (by decide) kt) ?_
  show G (T_3.setTop (mkF m 35 #[.val (.ref a), .val (.ref b)] []))
  refine hst (fun _ kt => XS.aloadN X_3.here hx rfl (hb hby d3_35) rfl rfl kt) ?_
  show G (T_3.setTop (mkF m 36 #[.val (.ref a), .val (.ref b)] [(.ref b)]))
  exact hend (own_goRet X_3 hx Bd.returns rfl (Or.inr (Or.inr (Or.inr (Or.inr ⟨rfl, rfl, rfl⟩)))) (hb hby d3_36) Bd.notSynchronized (by rw [e_3]; exact ⟨rfl, N0, rfl⟩) (by decide) (by decide))
theorem ef_2011 (m : MethodId) (a : Addr) (k : Addr) (b : Addr) (dd : Addr) : entryFrame m #[(.ref a), (.ref k), .null, (.ref b), (.ref dd)] 5 = mkF m 0 #[.val (.ref a), .val (.ref k), .val .null, .val (.ref b), .val (.ref dd)] [] := by first | (simp [entryFrame, mkF, argsToLocals, Value.category]; done) | rfl
set_option maxRecDepth 65536 in
set_option maxHeartbeats 40000000 in
theorem rmI011 (l : Launch) (Z : State) (a0 : Array Value) (hw : ∀ d ∈ tables_1, d.before a0 Z = true) (ws : List Jvm.Cond) (a : Addr) (k : Addr) (b : Addr) (dd : Addr) (h0 : Heap) (n0 : Nat) (Z0 : n0 ≤ h0.size) (F_key_a : Fld Z h0 a own_V "key" "Ljava/lang/String;" .null) (F_topic_a : Fld Z h0 a own_V "topic" "Ljava/lang/String;" .null) (F_broker_a : Fld Z h0 a own_V "broker" "Ljava/lang/String;" .null) (F_defaultValue_a : Fld Z h0 a own_V "defaultValue" "Ljava/lang/String;" .null) (E_a : Exa Z h0 a own_V) (le_n0_a : n0 ≤ a) :
    MetFree l (⟨own_V, "<init>", "(Ljava/lang/String;Ljava/lang/String;Ljava/lang/String;Ljava/lang/String;)V"⟩ : MethodName) (head1 (Jvm.Cond.code (⟨own_V, "<init>", "(Ljava/lang/String;Ljava/lang/String;Ljava/lang/String;Ljava/lang/String;)V"⟩ : MethodName) prog_49_method_1_code 5 none :: ws) ({ frames := 2, cells := 0, slots := 0, locals := 24 } : Room)) (fun a_ U_ => a_ = #[(.ref a), (.ref k), .null, (.ref b), (.ref dd)] ∧ Z.Warmed39 U_.vm ∧ U_.heap = h0) (fun _ _ _ _ _ => True) (fun _ U_ o_ W_ => ∃ v_ L_, o_ = .returned v_ ∧ own_Qi Z a .null (.ref b) (.ref dd) h0 n0 v_ W_.heap L_ ∧ FrameEnd U_ o_ W_ L_ ({ frames := 2, cells := 0, slots := 0, locals := 24 } : Room).cells ({ frames := 2, cells := 0, slots := 0, locals := 24 } : Room).slots) := by
  refine MetFree.of_bodySF (plainFor_of_name pn_2) hisR ?_
  intro p e s m args below meth c s₁ Bd hml0 hP hK
  obtain ⟨rfl, hZ, hh⟩ := hP
  have hx := Bd.exec
  have hby := Bd.bytes
  have hml : c.maxLocals = 5 := hml0
  have hown : s.vm.findClass own_V = some m.cls := by have z := findClass_of_methodNamed Bd.named; exact z
  have hnm := (name_of_methodNamed Bd.named Bd.method).1
  have X0 : Stand p l e ({ frames := 2, cells := 0, slots := 0, locals := 24 } : Room) s m #[(.ref a), (.ref k), .null, (.ref b), (.ref dd)] below meth c s₁ [] 0 0 := Stand.of_body Bd
  have e0 : s₁.heap = h0 := by rw [← hh, Bd.state]; rfl
  have N0 := Fr.nil n0
  obtain ⟨G, hG, hst, hend⟩ := own_abs p e below s (own_Qi Z a .null (.ref b) (.ref dd) h0 n0) ({ frames := 2, cells := 0, slots := 0, locals := 24 } : Room).cells ({ frames := 2, cells := 0, slots := 0, locals := 24 } : Room).slots
  refine hG (S := s₁.setTop (entryFrame m #[(.ref a), (.ref k), .null, (.ref b), (.ref dd)] 5)) (hst (fun t_ kt_ => castTop (ef_2011 m a k b dd) kt_) ?_)
  have Z1 := Nat.le_refl h0.size
  have K0 := Keep.refl h0 [a]
  show G (s₁.setTop (mkF m 0 #[.val (.ref a), .val (.ref k), .val .null, .val (.ref b), .val (.ref dd)] []))
  refine hst (fun _ kt => XS.aloadN X0.here hx rfl (hb hby d2_0) rfl rfl kt) ?_
  show G (s₁.setTop (mkF m 1 #[.val (.ref a), .val (.ref k), .val .null, .val (.ref b), .val (.ref dd)] [(.ref a)]))
  obtain ⟨_, _, ⟨T_1, L_1, k_1, n_1⟩, -, X_1, ⟨Lc_1, hQ_1, l_1, y_1, z_1⟩, st_1⟩ := X0.specialBack hx (y := (⟨"java/lang/Record", "<init>", "()V"⟩ : MethodName)) rfl hown (mvT hZ (own_w40 hw)) (mvT hZ (own_w41 hw)) (mvT hZ (own_w44 hw)) (by decide) (backOf (W := 0) (rmR l Z a0 hw [] a  h0 n0 Z0) hZ (own_w44 hw) (own_w43 hw) (by decide) (by decide)) (g := (mkF m 1 #[.val (.ref a), .val (.ref k), .val .null, .val (.ref b), .val (.ref dd)] [(.ref a)])) rfl (by rw [hml]; rfl) (Steps.refl _) (a := a) (argsL := []) (rest := []) (lenOf pd_1 rfl) rfl (by show 2 * 0 + _ ≤ _; exact Nat.le_of_eq rfl) (hb hby d2_1) (fun _ _ => ⟨rfl, e0, (by decide : 0 + 0 ≤ _), (by decide : 0 + 0 ≤ _)⟩)
  dsimp only [Pt.U, Pt.locs, Pt.cells, Pt.slots] at X_1 l_1 y_1 z_1 st_1 hQ_1
  subst l_1 y_1 z_1
  obtain ⟨rfl, N_1q, eh_1⟩ := hQ_1
  have N_1 := Fr.app N0 N_1q
  refine hst (fun _ kt => st_1.trans kt) ?_
  show G (T_1.setTop (mkF m 4 #[.val (.ref a), .val (.ref k), .val .null, .val (.ref b), .val (.ref dd)] []))
  refine hst (fun _ kt => XS.aloadN X_1.here hx rfl (hb hby d2_4) rfl rfl kt) ?_
  show G (T_1.setTop (mkF m 5 #[.val (.ref a), .val (.ref k), .val .null, .val (.ref b), .val (.ref dd)] [(.ref a)]))
  refine hst (fun _ kt => XS.aloadN X_1.here hx rfl (hb hby d2_5) rfl rfl kt) ?_
  show G (T_1.setTop (mkF m 6 #[.val (.ref a), .val (.ref k), .val .null, .val (.ref b), .val (.ref dd)] [(.ref k), (.ref a)]))
  obtain ⟨T_2, h_2, X_2, e_2, W_2, st_2⟩ := putF X_1 hx hZ hown (host := "") (Or.inl (own_w46 hw)) Via.refl eh_1 F_key_a E_a (Or.inr ⟨(own_w47 hw), rfl, hnm⟩) (own_w35 hw) (ty := (.object "java/lang/String")) (by decide) rfl rfl (g := (mkF m 6 #[.val (.ref a), .val (.ref k), .val .null, .val (.ref b), .val (.ref dd)] [(.ref k), (.ref a)])) rfl rfl (hb hby d2_6)
  have Z0 := Nat.le_trans Z0 (Keep.of_wr W_2).1
  have Z1 := Nat.le_trans Z1 (Keep.of_wr W_2).1
  have F_key_a := F_key_a.same W_2
  have F_topic_a := F_topic_a.other W_2 (Or.inr (slot_ne (Or.inr (own_w49 hw)) (Or.inr (own_w47 hw)) (by decide) (t := (.object "java/lang/String")) (t' := (.object "java/lang/String")) (by decide) (by decide)))
  have F_broker_a := F_broker_a.other W_2 (Or.inr (slot_ne (Or.inr (own_w51 hw)) (Or.inr (own_w47 hw)) (by decide) (t := (.object "java/lang/String")) (t' := (.object "java/lang/String")) (by decide) (by decide)))
  have F_defaultValue_a := F_defaultValue_a.other W_2 (Or.inr (slot_ne (Or.inr (own_w53 hw)) (Or.inr (own_w47 hw)) (by decide) (t := (.object "java/lang/String")) (t' := (.object "java/lang/String")) (by decide) (by decide)))
  have E_a := E_a.wr W_2
  have K0 := K0.wr W_2 (Or.inl (List.mem_of_getElem? (i := 0) rfl))
  have N_2 := Fr.snoc X_2 N_1 le_n0_a
  refine hst st_2 ?_
  show G (T_2.setTop (mkF m 9 #[.val (.ref a), .val (.ref k), .val .null, .val (.ref b), .val (.ref dd)] []))
  refine hst (fun _ kt => XS.aloadN X_2.here hx rfl (hb hby d2_9) rfl rfl kt) ?_
  show G (T_2.setTop (mkF m 10 #[.val (.ref a), .val (.ref k), .val .null, .val (.ref b), .val (.ref dd)] [(.ref a)]))
  refine hst (fun _ kt => XS.aloadN X_2.here hx rfl (hb hby d2_10) rfl rfl kt) ?_
  show G (T_2.setTop (mkF m 11 #[.val (.ref a), .val (.ref k), .val .null, .val (.ref b), .val (.ref dd)] [.null, (.ref a)]))
  obtain ⟨T_3, h_3, X_3, e_3, W_3, st_3⟩ := putF X_2 hx hZ hown (host := "") (Or.inl (own_w48 hw)) Via.refl e_2 F_topic_a E_a (Or.inr ⟨(own_w49 hw), rfl, hnm⟩) (own_w35 hw) (ty := (.object "java/lang/String")) (by decide) rfl rfl (g := (mkF m 11 #[.val (.ref a), .val (.ref k), .val .null, .val (.ref b), .val (.ref dd)] [.null, (.ref a)])) rfl rfl (hb hby d2_11)
  have Z0 := Nat.le_trans Z0 (Keep.of_wr W_3).1
  have Z1 := Nat.le_trans Z1 (Keep.of_wr W_3).1
  have F_key_a := F_key_a.other W_3 (Or.inr (slot_ne (Or.inr (own_w47 hw)) (Or.inr (own_w49 hw)) (by decide) (t := (.object "java/lang/String")) (t' := (.object "java/lang/String")) (by decide) (by decide)))
  have F_topic_a := F_topic_a.same W_3
  have F_broker_a := F_broker_a.other W_3 (Or.inr (slot_ne (Or.inr (own_w51 hw)) (Or.inr (own_w49 hw)) (by decide) (t := (.object "java/lang/String")) (t' := (.object "java/lang/String")) (by decide) (by decide)))
  have F_defaultValue_a := F_defaultValue_a.other W_3 (Or.inr (slot_ne (Or.inr (own_w53 hw)) (Or.inr (own_w49 hw)) (by decide) (t := (.object "java/lang/String")) (t' := (.object "java/lang/String")) (by decide) (by decide)))
  have E_a := E_a.wr W_3
  have K0 := K0.wr W_3 (Or.inl (List.mem_of_getElem? (i := 0) rfl))
  have N_3 := Fr.snoc X_3 N_2 le_n0_a
  refine hst st_3 ?_
  show G (T_3.setTop (mkF m 14 #[.val (.ref a), .val (.ref k), .val .null, .val (.ref b), .val (.ref dd)] []))
  refine hst (fun _ kt => XS.aloadN X_3.here hx rfl (hb hby d2_14) rfl rfl kt) ?_
  show G (T_3.setTop (mkF m 15 #[.val (.ref a), .val (.ref k), .val .null, .val (.ref b), .val (.ref dd)] [(.ref a)]))
  refine hst (fun _ kt => XS.aloadN X_3.here hx rfl (hb hby d2_15) rfl rfl kt) ?_
  show G (T_3.setTop (mkF m 16 #[.val (.ref a), .val (.ref k), .val .null, .val (.ref b), .val (.ref dd)] [(.ref b), (.ref a)]))
  obtain ⟨T_4, h_4, X_4, e_4, W_4, st_4⟩ := putF X_3 hx hZ hown (host := "") (Or.inl (own_w50 hw)) Via.refl e_3 F_broker_a E_a (Or.inr ⟨(own_w51 hw), rfl, hnm⟩) (own_w35 hw) (ty := (.object "java/lang/String")) (by decide) rfl rfl (g := (mkF m 16 #[.val (.ref a), .val (.ref k), .val .null, .val (.ref b), .val (.ref dd)] [(.ref b), (.ref a)])) rfl rfl (hb hby d2_16)
  have Z0 := Nat.le_trans Z0 (Keep.of_wr W_4).1
  have Z1 := Nat.le_trans Z1 (Keep.of_wr W_4).1
  have F_key_a := F_key_a.other W_4 (Or.inr (slot_ne (Or.inr (own_w47 hw)) (Or.inr (own_w51 hw)) (by decide) (t := (.object "java/lang/String")) (t' := (.object "java/lang/String")) (by decide) (by decide)))
  have F_topic_a := F_topic_a.other W_4 (Or.inr (slot_ne (Or.inr (own_w49 hw)) (Or.inr (own_w51 hw)) (by decide) (t := (.object "java/lang/String")) (t' := (.object "java/lang/String")) (by decide) (by decide)))
  have F_broker_a := F_broker_a.same W_4
  have F_defaultValue_a := F_defaultValue_a.other W_4 (Or.inr (slot_ne (Or.inr (own_w53 hw)) (Or.inr (own_w51 hw)) (by decide) (t := (.object "java/lang/String")) (t' := (.object "java/lang/String")) (by decide) (by decide)))
  have E_a := E_a.wr W_4
  have K0 := K0.wr W_4 (Or.inl (List.mem_of_getElem? (i := 0) rfl))
  have N_4 := Fr.snoc X_4 N_3 le_n0_a
  refine hst st_4 ?_
  show G (T_4.setTop (mkF m 19 #[.val (.ref a), .val (.ref k), .val .null, .val (.ref b), .val (.ref dd)] []))
  refine hst (fun _ kt => XS.aloadN X_4.here hx rfl (hb hby d2_19) rfl rfl kt) ?_
  show G (T_4.setTop (mkF m 20 #[.val (.ref a), .val (.ref k), .val .null, .val (.ref b), .val (.ref dd)] [(.ref a)]))
  refine hst (fun _ kt => XS.aload X_4.here hx rfl (hb hby d2_20) rfl rfl kt) ?_
  show G (T_4.setTop (mkF m 22 #[.val (.ref a), .val (.ref k), .val .null, .val (.ref b), .val (.ref dd)] [(.ref dd), (.ref a)]))
  obtain ⟨T_5, h_5, X_5, e_5, W_5, st_5⟩ := putF X_4 hx hZ hown (host := "") (Or.inl (own_w52 hw)) Via.refl e_4 F_defaultValue_a E_a (Or.inr ⟨(own_w53 hw), rfl, hnm⟩) (own_w35 hw) (ty := (.object "java/lang/String")) (by decide) rfl rfl (g := (mkF m 22 #[.val (.ref a), .val (.ref k), .val .null, .val (.ref b), .val (.ref dd)] [(.ref dd), (.ref a)])) rfl rfl (hb hby d2_22)
  have Z0 := Nat.le_trans Z0 (Keep.of_wr W_5).1
  have Z1 := Nat.le_trans Z1 (Keep.of_wr W_5).1
  have F_key_a := F_key_a.other W_5 (Or.inr (slot_ne (Or.inr (own_w47 hw)) (Or.inr (own_w53 hw)) (by decide) (t := (.object "java/lang/String")) (t' := (.object "java/lang/String")) (by decide) (by decide)))
  have F_topic_a := F_topic_a.other W_5 (Or.inr (slot_ne (Or.inr (own_w49 hw)) (Or.inr (own_w53 hw)) (by decide) (t := (.object "java/lang/String")) (t' := (.object "java/lang/String")) (by decide) (by decide)))
  have F_broker_a := F_broker_a.other W_5 (Or.inr (slot_ne (Or.inr (own_w51 hw)) (Or.inr (own_w53 hw)) (by decide) (t := (.object "java/lang/String")) (t' := (.object "java/lang/String")) (by decide) (by decide)))
  have F_defaultValue_a := F_defaultValue_a.same W_5
  have E_a := E_a.wr W_5
  have K0 := K0.wr W_5 (Or.inl (List.mem_of_getElem? (i := 0) rfl))
  have N_5 := Fr.snoc X_5 N_4 le_n0_a
  refine hst st_5 ?_
  show G (T_5.setTop (mkF m 25 #[.val (.ref a), .val (.ref k), .val .null, .val (.ref b), .val (.ref dd)] []))
  exact hend (own_goVoid X_5 hx Bd.returns (hb hby d2_25) Bd.notSynchronized (by rw [e_5]; exact ⟨rfl, N_5, K0, E_a, F_topic_a, F_broker_a, F_defaultValue_a⟩) (by decide) (by decide))
set_option maxRecDepth 65536 in
set_option maxHeartbeats 40000000 in
theorem rmV011 (l : Launch) (Z : State) (a0 : Array Value) (hw : ∀ d ∈ tables_1, d.before a0 Z = true) (ws : List Jvm.Cond) (a : Addr) (b : Addr) (dd : Addr) (h0 : Heap) (n0 : Nat) (Z0 : n0 ≤ h0.size) (F_topic_a : Fld Z h0 a own_V "topic" "Ljava/lang/String;" .null) (F_broker_a : Fld Z h0 a own_V "broker" "Ljava/lang/String;" (.ref b)) (F_defaultValue_a : Fld Z h0 a own_V "defaultValue" "Ljava/lang/String;" (.ref dd)) :
    MetFree l (⟨own_V, "value", "()Ljava/lang/String;"⟩ : MethodName) (head1 (Jvm.Cond.code (⟨own_V, "value", "()Ljava/lang/String;"⟩ : MethodName) prog_49_method_2_code 2 (some (.object "java/lang/String")) :: ws) ({ frames := 0, cells := 0, slots := 0, locals := 0 } : Room)) (fun a_ U_ => a_ = #[(.ref a)] ∧ Z.Warmed39 U_.vm ∧ U_.heap = h0) (fun _ _ _ _ _ => True) (fun _ U_ o_ W_ => ∃ v_ L_, o_ = .returned v_ ∧ own_QR (.ref b) h0 n0 v_ W_.heap L_ ∧ FrameEnd U_ o_ W_ L_ ({ frames := 0, cells := 0, slots := 0, locals := 0 } : Room).cells ({ frames := 0, cells := 0, slots := 0, locals := 0 } : Room).slots) := by
  refine MetFree.of_bodySF (plainFor_of_name pn_3) hisR ?_
  intro p e s m args below meth c s₁ Bd hml0 hP hK
  obtain ⟨rfl, hZ, hh⟩ := hP
  have hx := Bd.exec
  have hby := Bd.bytes
  have hml : c.maxLocals = 2 := hml0
  have hown : s.vm.findClass own_V = some m.cls := by have z := findClass_of_methodNamed Bd.named; exact z
  have hnm := (name_of_methodNamed Bd.named Bd.method).1
  have X0 : Stand p l e ({ frames := 0, cells := 0, slots := 0, locals := 0 } : Room) s m #[(.ref a)] below meth c s₁ [] 0 0 := Stand.of_body Bd
  have e0 : s₁.heap = h0 := by rw [← hh, Bd.state]; rfl
  have N0 := Fr.nil n0
  obtain ⟨G, hG, hst, hend⟩ := own_abs p e below s (own_QR (.ref b) h0 n0) ({ frames := 0, cells := 0, slots := 0, locals := 0 } : Room).cells ({ frames := 0, cells := 0, slots := 0, locals := 0 } : Room).slots
  refine hG (S := s₁.setTop (entryFrame m #[(.ref a)] 2)) (hst (fun t_ kt_ => castTop (ef_3 m a) kt_) ?_)
  show G (s₁.setTop (mkF m 0 #[.val (.ref a), .unset] []))
  refine hst (fun _ kt => XS.aloadN X0.here hx rfl (hb hby d3_0) rfl rfl kt) ?_
  show G (s₁.setTop (mkF m 1 #[.val (.ref a), .unset] [(.ref a)]))
  obtain ⟨T_1, X_1, e_1, st_1⟩ := getF X0 hx hZ hown (host := "") (Or.inl (own_w48 hw)) Via.refl e0 F_topic_a (g := (mkF m 1 #[.val (.ref a), .unset] [(.ref a)])) rfl rfl (hb hby d3_1)
  refine hst st_1 ?_
  show G (T_1.setTop (mkF m 4 #[.val (.ref a), .unset] [.null]))
  refine hst (fun _ kt => XS.ifnullYes X_1.here hx rfl (pc0 := 4) (pc' := 15) rfl (hb hby d3_4) rfl (by decide) (by decide) kt) ?_
  show G (T_1.setTop (mkF m 15 #[.val (.ref a), .unset] []))
  refine hst (fun _ kt => XS.aloadN X_1.here hx rfl (hb hby d3_15) rfl rfl kt) ?_
  show G (T_1.setTop (mkF m 16 #[.val (.ref a), .unset] [(.ref a)]))
  obtain ⟨T_2, X_2, e_2, st_2⟩ := getF X_1 hx hZ hown (host := "") (Or.inl (own_w50 hw)) Via.refl e_1 F_broker_a (g := (mkF m 16 #[.val (.ref a), .unset] [(.ref a)])) rfl rfl (hb hby d3_16)
  refine hst st_2 ?_
  show G (T_2.setTop (mkF m 19 #[.val (.ref a), .unset] [(.ref b)]))
  refine hst (fun _ kt => XS.ifnullNo X_2.here hx rfl (hb hby d3_19) rfl kt) ?_
  show G (T_2.setTop (mkF m 22 #[.val (.ref a), .unset] []))
  refine hst (fun _ kt => XS.aloadN X_2.here hx rfl (hb hby d3_22) rfl rfl kt) ?_
  show G (T_2.setTop (mkF m 23 #[.val (.ref a), .unset] [(.ref a)]))
  obtain ⟨T_3, X_3, e_3, st_3⟩ := getF X_2 hx hZ hown (host := "") (Or.inl (own_w50 hw)) Via.refl e_2 F_broker_a (g := (mkF m 23 #[.val (.ref a), .unset] [(.ref a)])) rfl rfl (hb hby d3_23)
  refine hst st_3 ?_
  show G (T_3.setTop (mkF m 26 #[.val (.ref a), .unset] [(.ref b)]))
  refine hst (fun _ kt => XS.astoreN X_3.here hx rfl (hb hby d3_26) rfl rfl (l' := #[.val (.ref a), .val (.ref b)]) rfl kt) ?_
  show G (T_3.setTop (mkF m 27 #[.val (.ref a), .val (.ref b)] []))
  refine hst (fun _ kt => XS.goto X_3.here hx rfl (pc0 := 27) (pc' := 35) rfl (hb hby d3_27) (by decide) (by decide) kt) ?_
  show G (T_3.setTop (mkF m 35 #[.val (.ref a), .val (.ref b)] []))
  refine hst (fun _ kt => XS.aloadN X_3.here hx rfl (hb hby d3_35) rfl rfl kt) ?_
  show G (T_3.setTop (mkF m 36 #[.val (.ref a), .val (.ref b)] [(.ref b)]))
  exact hend (own_goRet X_3 hx Bd.returns rfl (Or.inr (Or.inr (Or.inr (Or.inr ⟨rfl, rfl, rfl⟩)))) (hb hby d3_36) Bd.notSynchronized (by rw [e_3]; exact ⟨rfl, N0, rfl⟩) (by decide) (by decide))
theorem ef_2100 (m : MethodId) (a : Addr) (k : Addr) (t : Addr) : entryFrame m #[(.ref a), (.ref k), (.ref t), .null, .null] 5 = mkF m 0 #[.val (.ref a), .val (.ref k), .val (.ref t), .val .null, .val .null] [] := by first | (simp [entryFrame, mkF, argsToLocals, Value.category]; done) | rfl
set_option maxRecDepth 65536 in
set_option maxHeartbeats 40000000 in
theorem rmI100 (l : Launch) (Z : State) (a0 : Array Value) (hw : ∀ d ∈ tables_1, d.before a0 Z = true) (ws : List Jvm.Cond) (a : Addr) (k : Addr) (t : Addr) (h0 : Heap) (n0 : Nat) (Z0 : n0 ≤ h0.size) (F_key_a : Fld Z h0 a own_V "key" "Ljava/lang/String;" .null) (F_topic_a : Fld Z h0 a own_V "topic" "Ljava/lang/String;" .null) (F_broker_a : Fld Z h0 a own_V "broker" "Ljava/lang/String;" .null) (F_defaultValue_a : Fld Z h0 a own_V "defaultValue" "Ljava/lang/String;" .null) (E_a : Exa Z h0 a own_V) (le_n0_a : n0 ≤ a) :
    MetFree l (⟨own_V, "<init>", "(Ljava/lang/String;Ljava/lang/String;Ljava/lang/String;Ljava/lang/String;)V"⟩ : MethodName) (head1 (Jvm.Cond.code (⟨own_V, "<init>", "(Ljava/lang/String;Ljava/lang/String;Ljava/lang/String;Ljava/lang/String;)V"⟩ : MethodName) prog_49_method_1_code 5 none :: ws) ({ frames := 2, cells := 0, slots := 0, locals := 24 } : Room)) (fun a_ U_ => a_ = #[(.ref a), (.ref k), (.ref t), .null, .null] ∧ Z.Warmed39 U_.vm ∧ U_.heap = h0) (fun _ _ _ _ _ => True) (fun _ U_ o_ W_ => ∃ v_ L_, o_ = .returned v_ ∧ own_Qi Z a (.ref t) .null .null h0 n0 v_ W_.heap L_ ∧ FrameEnd U_ o_ W_ L_ ({ frames := 2, cells := 0, slots := 0, locals := 24 } : Room).cells ({ frames := 2, cells := 0, slots := 0, locals := 24 } : Room).slots) := by
  refine MetFree.of_bodySF (plainFor_of_name pn_2) hisR ?_
  intro p e s m args below meth c s₁ Bd hml0 hP hK
  obtain ⟨rfl, hZ, hh⟩ := hP
  have hx := Bd.exec
  have hby := Bd.bytes
  have hml : c.maxLocals = 5 := hml0
  have hown : s.vm.findClass own_V = some m.cls := by have z := findClass_of_methodNamed Bd.named; exact z
  have hnm := (name_of_methodNamed Bd.named Bd.method).1
  have X0 : Stand p l e ({ frames := 2, cells := 0, slots := 0, locals := 24 } : Room) s m #[(.ref a), (.ref k), (.ref t), .null, .null] below meth c s₁ [] 0 0 := Stand.of_body Bd
  have e0 : s₁.heap = h0 := by rw [← hh, Bd.state]; rfl
  have N0 := Fr.nil n0
  obtain ⟨G, hG, hst, hend⟩ := own_abs p e below s (own_Qi Z a (.ref t) .null .null h0 n0) ({ frames := 2, cells := 0, slots := 0, locals := 24 } : Room).cells ({ frames := 2, cells := 0, slots := 0, locals := 24 } : Room).slots
  refine hG (S := s₁.setTop (entryFrame m #[(.ref a), (.ref k), (.ref t), .null, .null] 5)) (hst (fun t_ kt_ => castTop (ef_2100 m a k t) kt_) ?_)
  have Z1 := Nat.le_refl h0.size
  have K0 := Keep.refl h0 [a]
  show G (s₁.setTop (mkF m 0 #[.val (.ref a), .val (.ref k), .val (.ref t), .val .null, .val .null] []))
  refine hst (fun _ kt => XS.aloadN X0.here hx rfl (hb hby d2_0) rfl rfl kt) ?_
  show G (s₁.setTop (mkF m 1 #[.val (.ref a), .val (.ref k), .val (.ref t), .val .null, .val .null] [(.ref a)]))
  obtain ⟨_, _, ⟨T_1, L_1, k_1, n_1⟩, -, X_1, ⟨Lc_1, hQ_1, l_1, y_1, z_1⟩, st_1⟩ := X0.specialBack hx (y := (⟨"java/lang/Record", "<init>", "()V"⟩ : MethodName)) rfl hown (mvT hZ (own_w40 hw)) (mvT hZ (own_w41 hw)) (mvT hZ (own_w44 hw)) (by decide) (backOf (W := 0) (rmR l Z a0 hw [] a  h0 n0 Z0) hZ (own_w44 hw) (own_w43 hw) (by decide) (by decide)) (g := (mkF m 1 #[.val (.ref a), .val (.ref k), .val (.ref t), .val .null, .val .null] [(.ref a)])) rfl (by rw [hml]; rfl) (Steps.refl _) (a := a) (argsL := []) (rest := []) (lenOf pd_1 rfl) rfl (by show 2 * 0 + _ ≤ _; exact Nat.le_of_eq rfl) (hb hby d2_1) (fun _ _ => ⟨rfl, e0, (by decide : 0 + 0 ≤ _), (by decide : 0 + 0 ≤ _)⟩)
  dsimp only [Pt.U, Pt.locs, Pt.cells, Pt.slots] at X_1 l_1 y_1 z_1 st_1 hQ_1
  subst l_1 y_1 z_1
  obtain ⟨rfl, N_1q, eh_1⟩ := hQ_1
  have N_1 := Fr.app N0 N_1q
  refine hst (fun _ kt => st_1.trans kt) ?_
  show G (T_1.setTop (mkF m 4 #[.val (.ref a), .val (.ref k), .val (.ref t), .val .null, .val .null] []))
  refine hst (fun _ kt => XS.aloadN X_1.here hx rfl (hb hby d2_4) rfl rfl kt) ?_
  show G (T_1.setTop (mkF m 5 #[.val (.ref a), .val (.ref k), .val (.ref t), .val .null, .val .null] [(.ref a)]))
  refine hst (fun _ kt => XS.aloadN X_1.here hx rfl (hb hby d2_5) rfl rfl kt) ?_
  show G (T_1.setTop (mkF m 6 #[.val (.ref a), .val (.ref k), .val (.ref t), .val .null, .val .null] [(.ref k), (.ref a)]))
  obtain ⟨T_2, h_2, X_2, e_2, W_2, st_2⟩ := putF X_1 hx hZ hown (host := "") (Or.inl (own_w46 hw)) Via.refl eh_1 F_key_a E_a (Or.inr ⟨(own_w47 hw), rfl, hnm⟩) (own_w35 hw) (ty := (.object "java/lang/String")) (by decide) rfl rfl (g := (mkF m 6 #[.val (.ref a), .val (.ref k), .val (.ref t), .val .null, .val .null] [(.ref k), (.ref a)])) rfl rfl (hb hby d2_6)
  have Z0 := Nat.le_trans Z0 (Keep.of_wr W_2).1
  have Z1 := Nat.le_trans Z1 (Keep.of_wr W_2).1
  have F_key_a := F_key_a.same W_2
  have F_topic_a := F_topic_a.other W_2 (Or.inr (slot_ne (Or.inr (own_w49 hw)) (Or.inr (own_w47 hw)) (by decide) (t := (.object "java/lang/String")) (t' := (.object "java/lang/String")) (by decide) (by decide)))
  have F_broker_a := F_broker_a.other W_2 (Or.inr (slot_ne (Or.inr (own_w51 hw)) (Or.inr (own_w47 hw)) (by decide) (t := (.object "java/lang/String")) (t' := (.object "java/lang/String")) (by decide) (by decide)))
  have F_defaultValue_a := F_defaultValue_a.other W_2 (Or.inr (slot_ne (Or.inr (own_w53 hw)) (Or.inr (own_w47 hw)) (by decide) (t := (.object "java/lang/String")) (t' := (.object "java/lang/String")) (by decide) (by decide)))
  have E_a := E_a.wr W_2
  have K0 := K0.wr W_2 (Or.inl (List.mem_of_getElem? (i := 0) rfl))
  have N_2 := Fr.snoc X_2 N_1 le_n0_a
  refine hst st_2 ?_
  show G (T_2.setTop (mkF m 9 #[.val (.ref a), .val (.ref k), .val (.ref t), .val .null, .val .null] []))
  refine hst (fun _ kt => XS.aloadN X_2.here hx rfl (hb hby d2_9) rfl rfl kt) ?_
  show G (T_2.setTop (mkF m 10 #[.val (.ref a), .val (.ref k), .val (.ref t), .val .null, .val .null] [(.ref a)]))
  refine hst (fun _ kt => XS.aloadN X_2.here hx rfl (hb hby d2_10) rfl rfl kt) ?_
  show G (T_2.setTop (mkF m 11 #[.val (.ref a), .val (.ref k), .val (.ref t), .val .null, .val .null] [(.ref t), (.ref a)]))
  obtain ⟨T_3, h_3, X_3, e_3, W_3, st_3⟩ := putF X_2 hx hZ hown (host := "") (Or.inl (own_w48 hw)) Via.refl e_2 F_topic_a E_a (Or.inr ⟨(own_w49 hw), rfl, hnm⟩) (own_w35 hw) (ty := (.object "java/lang/String")) (by decide) rfl rfl (g := (mkF m 11 #[.val (.ref a), .val (.ref k), .val (.ref t), .val .null, .val .null] [(.ref t), (.ref a)])) rfl rfl (hb hby d2_11)
  have Z0 := Nat.le_trans Z0 (Keep.of_wr W_3).1
  have Z1 := Nat.le_trans Z1 (Keep.of_wr W_3).1
  have F_key_a := F_key_a.other W_3 (Or.inr (slot_ne (Or.inr (own_w47 hw)) (Or.inr (own_w49 hw)) (by decide) (t := (.object "java/lang/String")) (t' := (.object "java/lang/String")) (by decide) (by decide)))
  have F_topic_a := F_topic_a.same W_3
  have F_broker_a := F_broker_a.other W_3 (Or.inr (slot_ne (Or.inr (own_w51 hw)) (Or.inr (own_w49 hw)) (by decide) (t := (.object "java/lang/String")) (t' := (.object "java/lang/String")) (by decide) (by decide)))
  have F_defaultValue_a := F_defaultValue_a.other W_3 (Or.inr (slot_ne (Or.inr (own_w53 hw)) (Or.inr (own_w49 hw)) (by decide) (t := (.object "java/lang/String")) (t' := (.object "java/lang/String")) (by decide) (by decide)))
  have E_a := E_a.wr W_3
  have K0 := K0.wr W_3 (Or.inl (List.mem_of_getElem? (i := 0) rfl))
  have N_3 := Fr.snoc X_3 N_2 le_n0_a
  refine hst st_3 ?_
  show G (T_3.setTop (mkF m 14 #[.val (.ref a), .val (.ref k), .val (.ref t), .val .null, .val .null] []))
  refine hst (fun _ kt => XS.aloadN X_3.here hx rfl (hb hby d2_14) rfl rfl kt) ?_
  show G (T_3.setTop (mkF m 15 #[.val (.ref a), .val (.ref k), .val (.ref t), .val .null, .val .null] [(.ref a)]))
  refine hst (fun _ kt => XS.aloadN X_3.here hx rfl (hb hby d2_15) rfl rfl kt) ?_
  show G (T_3.setTop (mkF m 16 #[.val (.ref a), .val (.ref k), .val (.ref t), .val .null, .val .null] [.null, (.ref a)]))
  obtain ⟨T_4, h_4, X_4, e_4, W_4, st_4⟩ := putF X_3 hx hZ hown (host := "") (Or.inl (own_w50 hw)) Via.refl e_3 F_broker_a E_a (Or.inr ⟨(own_w51 hw), rfl, hnm⟩) (own_w35 hw) (ty := (.object "java/lang/String")) (by decide) rfl rfl (g := (mkF m 16 #[.val (.ref a), .val (.ref k), .val (.ref t), .val .null, .val .null] [.null, (.ref a)])) rfl rfl (hb hby d2_16)
  have Z0 := Nat.le_trans Z0 (Keep.of_wr W_4).1
  have Z1 := Nat.le_trans Z1 (Keep.of_wr W_4).1
  have F_key_a := F_key_a.other W_4 (Or.inr (slot_ne (Or.inr (own_w47 hw)) (Or.inr (own_w51 hw)) (by decide) (t := (.object "java/lang/String")) (t' := (.object "java/lang/String")) (by decide) (by decide)))
  have F_topic_a := F_topic_a.other W_4 (Or.inr (slot_ne (Or.inr (own_w49 hw)) (Or.inr (own_w51 hw)) (by decide) (t := (.object "java/lang/String")) (t' := (.object "java/lang/String")) (by decide) (by decide)))
  have F_broker_a := F_broker_a.same W_4
  have F_defaultValue_a := F_defaultValue_a.other W_4 (Or.inr (slot_ne (Or.inr (own_w53 hw)) (Or.inr (own_w51 hw)) (by decide) (t := (.object "java/lang/String")) (t' := (.object "java/lang/String")) (by decide) (by decide)))
  have E_a := E_a.wr W_4
  have K0 := K0.wr W_4 (Or.inl (List.mem_of_getElem? (i := 0) rfl))
  have N_4 := Fr.snoc X_4 N_3 le_n0_a
  refine hst st_4 ?_
  show G (T_4.setTop (mkF m 19 #[.val (.ref a), .val (.ref k), .val (.ref t), .val .null, .val .null] []))
  refine hst (fun _ kt => XS.aloadN X_4.here hx rfl (hb hby d2_19) rfl rfl kt) ?_
  show G (T_4.setTop (mkF m 20 #[.val (.ref a), .val (.ref k), .val (.ref t), .val .null, .val .null] [(.ref a)]))
  refine hst (fun _ kt => XS.aload X_4.here hx rfl (hb hby d2_20) rfl rfl kt) ?_
  show G (T_4.setTop (mkF m 22 #[.val (.ref a), .val (.ref k), .val (.ref t), .val .null, .val .null] [.null, (.ref a)]))
  obtain ⟨T_5, h_5, X_5, e_5, W_5, st_5⟩ := putF X_4 hx hZ hown (host := "") (Or.inl (own_w52 hw)) Via.refl e_4 F_defaultValue_a E_a (Or.inr ⟨(own_w53 hw), rfl, hnm⟩) (own_w35 hw) (ty := (.object "java/lang/String")) (by decide) rfl rfl (g := (mkF m 22 #[.val (.ref a), .val (.ref k), .val (.ref t), .val .null, .val .null] [.null, (.ref a)])) rfl rfl (hb hby d2_22)
  have Z0 := Nat.le_trans Z0 (Keep.of_wr W_5).1
  have Z1 := Nat.le_trans Z1 (Keep.of_wr W_5).1
  have F_key_a := F_key_a.other W_5 (Or.inr (slot_ne (Or.inr (own_w47 hw)) (Or.inr (own_w53 hw)) (by decide) (t := (.object "java/lang/String")) (t' := (.object "java/lang/String")) (by decide) (by decide)))
  have F_topic_a := F_topic_a.other W_5 (Or.inr (slot_ne (Or.inr (own_w49 hw)) (Or.inr (own_w53 hw)) (by decide) (t := (.object "java/lang/String")) (t' := (.object "java/lang/String")) (by decide) (by decide)))
  have F_broker_a := F_broker_a.other W_5 (Or.inr (slot_ne (Or.inr (own_w51 hw)) (Or.inr (own_w53 hw)) (by decide) (t := (.object "java/lang/String")) (t' := (.object "java/lang/String")) (by decide) (by decide)))
  have F_defaultValue_a := F_defaultValue_a.same W_5
  have E_a := E_a.wr W_5
  have K0 := K0.wr W_5 (Or.inl (List.mem_of_getElem? (i := 0) rfl))
  have N_5 := Fr.snoc X_5 N_4 le_n0_a
  refine hst st_5 ?_
  show G (T_5.setTop (mkF m 25 #[.val (.ref a), .val (.ref k), .val (.ref t), .val .null, .val .null] []))
  exact hend (own_goVoid X_5 hx Bd.returns (hb hby d2_25) Bd.notSynchronized (by rw [e_5]; exact ⟨rfl, N_5, K0, E_a, F_topic_a, F_broker_a, F_defaultValue_a⟩) (by decide) (by decide))
set_option maxRecDepth 65536 in
set_option maxHeartbeats 40000000 in
theorem rmV100 (l : Launch) (Z : State) (a0 : Array Value) (hw : ∀ d ∈ tables_1, d.before a0 Z = true) (ws : List Jvm.Cond) (a : Addr) (t : Addr) (h0 : Heap) (n0 : Nat) (Z0 : n0 ≤ h0.size) (F_topic_a : Fld Z h0 a own_V "topic" "Ljava/lang/String;" (.ref t)) (F_broker_a : Fld Z h0 a own_V "broker" "Ljava/lang/String;" .null) (F_defaultValue_a : Fld Z h0 a own_V "defaultValue" "Ljava/lang/String;" .null) :
    MetFree l (⟨own_V, "value", "()Ljava/lang/String;"⟩ : MethodName) (head1 (Jvm.Cond.code (⟨own_V, "value", "()Ljava/lang/String;"⟩ : MethodName) prog_49_method_2_code 2 (some (.object "java/lang/String")) :: ws) ({ frames := 0, cells := 0, slots := 0, locals := 0 } : Room)) (fun a_ U_ => a_ = #[(.ref a)] ∧ Z.Warmed39 U_.vm ∧ U_.heap = h0) (fun _ _ _ _ _ => True) (fun _ U_ o_ W_ => ∃ v_ L_, o_ = .returned v_ ∧ own_QR (.ref t) h0 n0 v_ W_.heap L_ ∧ FrameEnd U_ o_ W_ L_ ({ frames := 0, cells := 0, slots := 0, locals := 0 } : Room).cells ({ frames := 0, cells := 0, slots := 0, locals := 0 } : Room).slots) := by
  refine MetFree.of_bodySF (plainFor_of_name pn_3) hisR ?_
  intro p e s m args below meth c s₁ Bd hml0 hP hK
  obtain ⟨rfl, hZ, hh⟩ := hP
  have hx := Bd.exec
  have hby := Bd.bytes
  have hml : c.maxLocals = 2 := hml0
  have hown : s.vm.findClass own_V = some m.cls := by have z := findClass_of_methodNamed Bd.named; exact z
  have hnm := (name_of_methodNamed Bd.named Bd.method).1
  have X0 : Stand p l e ({ frames := 0, cells := 0, slots := 0, locals := 0 } : Room) s m #[(.ref a)] below meth c s₁ [] 0 0 := Stand.of_body Bd
  have e0 : s₁.heap = h0 := by rw [← hh, Bd.state]; rfl
  have N0 := Fr.nil n0
  obtain ⟨G, hG, hst, hend⟩ := own_abs p e below s (own_QR (.ref t) h0 n0) ({ frames := 0, cells := 0, slots := 0, locals := 0 } : Room).cells ({ frames := 0, cells := 0, slots := 0, locals := 0 } : Room).slots
  refine hG (S := s₁.setTop (entryFrame m #[(.ref a)] 2)) (hst (fun t_ kt_ => castTop (ef_3 m a) kt_) ?_)
  show G (s₁.setTop (mkF m 0 #[.val (.ref a), .unset] []))
  refine hst (fun _ kt => XS.aloadN X0.here hx rfl (hb hby d3_0) rfl rfl kt) ?_
  show G (s₁.setTop (mkF m 1 #[.val (.ref a), .unset] [(.ref a)]))
  obtain ⟨T_1, X_1, e_1, st_1⟩ := getF X0 hx hZ hown (host := "") (Or.inl (own_w48 hw)) Via.refl e0 F_topic_a (g := (mkF m 1 #[.val (.ref a), .unset] [(.ref a)])) rfl rfl (hb hby d3_1)
  refine hst st_1 ?_
  show G (T_1.setTop (mkF m 4 #[.val (.ref a), .unset] [(.ref t)]))
  refine hst (fun _ kt => XS.ifnullNo X_1.here hx rfl (hb hby d3_4) rfl kt) ?_
  show G (T_1.setTop (mkF m 7 #[.val (.ref a), .unset] []))
  refine hst (fun _ kt => XS.aloadN X_1.here hx rfl (hb hby d3_7) rfl rfl kt) ?_
  show G (T_1.setTop (mkF m 8 #[.val (.ref a), .unset] [(.ref a)]))
  obtain ⟨T_2, X_2, e_2, st_2⟩ := getF X_1 hx hZ hown (host := "") (Or.inl (own_w48 hw)) Via.refl e_1 F_topic_a (g := (mkF m 8 #[.val (.ref a), .unset] [(.ref a)])) rfl rfl (hb hby d3_8)
  refine hst st_2 ?_
  show G (T_2.setTop (mkF m 11 #[.val (.ref a), .unset] [(.ref t)]))
  refine hst (fun _ kt => XS.astoreN X_2.here hx rfl (hb hby d3_11) rfl rfl (l' := #[.val (.ref a), .val (.ref t)]) rfl kt) ?_
  show G (T_2.setTop (mkF m 12 #[.val (.ref a), .val (.ref t)] []))
  refine hst (fun _ kt => XS.goto X_2.here hx rfl (pc0 := 12) (pc' := 35) rfl (hb hby d3_12) (by decide) (by decide) kt) ?_
  show G (T_2.setTop (mkF m 35 #[.val (.ref a), .val (.ref t)] []))
  refine hst (fun _ kt => XS.aloadN X_2.here hx rfl (hb hby d3_35) rfl rfl kt) ?_
  show G (T_2.setTop (mkF m 36 #[.val (.ref a), .val (.ref t)] [(.ref t)]))
  exact hend (own_goRet X_2 hx Bd.returns rfl (Or.inr (Or.inr (Or.inr (Or.inr ⟨rfl, rfl, rfl⟩)))) (hb hby d3_36) Bd.notSynchronized (by rw [e_2]; exact ⟨rfl, N0, rfl⟩) (by decide) (by decide))
theorem ef_2101 (m : MethodId) (a : Addr) (k : Addr) (t : Addr) (dd : Addr) : entryFrame m #[(.ref a), (.ref k), (.ref t), .null, (.ref dd)] 5 = mkF m 0 #[.val (.ref a), .val (.ref k), .val (.ref t), .val .null, .val (.ref dd)] [] := by first | (simp [entryFrame, mkF, argsToLocals, Value.category]; done) | rfl
set_option maxRecDepth 65536 in
set_option maxHeartbeats 40000000 in
theorem rmI101 (l : Launch) (Z : State) (a0 : Array Value) (hw : ∀ d ∈ tables_1, d.before a0 Z = true) (ws : List Jvm.Cond) (a : Addr) (k : Addr) (t : Addr) (dd : Addr) (h0 : Heap) (n0 : Nat) (Z0 : n0 ≤ h0.size) (F_key_a : Fld Z h0 a own_V "key" "Ljava/lang/String;" .null) (F_topic_a : Fld Z h0 a own_V "topic" "Ljava/lang/String;" .null) (F_broker_a : Fld Z h0 a own_V "broker" "Ljava/lang/String;" .null) (F_defaultValue_a : Fld Z h0 a own_V "defaultValue" "Ljava/lang/String;" .null) (E_a : Exa Z h0 a own_V) (le_n0_a : n0 ≤ a) :
    MetFree l (⟨own_V, "<init>", "(Ljava/lang/String;Ljava/lang/String;Ljava/lang/String;Ljava/lang/String;)V"⟩ : MethodName) (head1 (Jvm.Cond.code (⟨own_V, "<init>", "(Ljava/lang/String;Ljava/lang/String;Ljava/lang/String;Ljava/lang/String;)V"⟩ : MethodName) prog_49_method_1_code 5 none :: ws) ({ frames := 2, cells := 0, slots := 0, locals := 24 } : Room)) (fun a_ U_ => a_ = #[(.ref a), (.ref k), (.ref t), .null, (.ref dd)] ∧ Z.Warmed39 U_.vm ∧ U_.heap = h0) (fun _ _ _ _ _ => True) (fun _ U_ o_ W_ => ∃ v_ L_, o_ = .returned v_ ∧ own_Qi Z a (.ref t) .null (.ref dd) h0 n0 v_ W_.heap L_ ∧ FrameEnd U_ o_ W_ L_ ({ frames := 2, cells := 0, slots := 0, locals := 24 } : Room).cells ({ frames := 2, cells := 0, slots := 0, locals := 24 } : Room).slots) := by
  refine MetFree.of_bodySF (plainFor_of_name pn_2) hisR ?_
  intro p e s m args below meth c s₁ Bd hml0 hP hK
  obtain ⟨rfl, hZ, hh⟩ := hP
  have hx := Bd.exec
  have hby := Bd.bytes
  have hml : c.maxLocals = 5 := hml0
  have hown : s.vm.findClass own_V = some m.cls := by have z := findClass_of_methodNamed Bd.named; exact z
  have hnm := (name_of_methodNamed Bd.named Bd.method).1
  have X0 : Stand p l e ({ frames := 2, cells := 0, slots := 0, locals := 24 } : Room) s m #[(.ref a), (.ref k), (.ref t), .null, (.ref dd)] below meth c s₁ [] 0 0 := Stand.of_body Bd
  have e0 : s₁.heap = h0 := by rw [← hh, Bd.state]; rfl
  have N0 := Fr.nil n0
  obtain ⟨G, hG, hst, hend⟩ := own_abs p e below s (own_Qi Z a (.ref t) .null (.ref dd) h0 n0) ({ frames := 2, cells := 0, slots := 0, locals := 24 } : Room).cells ({ frames := 2, cells := 0, slots := 0, locals := 24 } : Room).slots
  refine hG (S := s₁.setTop (entryFrame m #[(.ref a), (.ref k), (.ref t), .null, (.ref dd)] 5)) (hst (fun t_ kt_ => castTop (ef_2101 m a k t dd) kt_) ?_)
  have Z1 := Nat.le_refl h0.size
  have K0 := Keep.refl h0 [a]
  show G (s₁.setTop (mkF m 0 #[.val (.ref a), .val (.ref k), .val (.ref t), .val .null, .val (.ref dd)] []))
  refine hst (fun _ kt => XS.aloadN X0.here hx rfl (hb hby d2_0) rfl rfl kt) ?_
  show G (s₁.setTop (mkF m 1 #[.val (.ref a), .val (.ref k), .val (.ref t), .val .null, .val (.ref dd)] [(.ref a)]))
  obtain ⟨_, _, ⟨T_1, L_1, k_1, n_1⟩, -, X_1, ⟨Lc_1, hQ_1, l_1, y_1, z_1⟩, st_1⟩ := X0.specialBack hx (y := (⟨"java/lang/Record", "<init>", "()V"⟩ : MethodName)) rfl hown (mvT hZ (own_w40 hw)) (mvT hZ (own_w41 hw)) (mvT hZ (own_w44 hw)) (by decide) (backOf (W := 0) (rmR l Z a0 hw [] a  h0 n0 Z0) hZ (own_w44 hw) (own_w43 hw) (by decide) (by decide)) (g := (mkF m 1 #[.val (.ref a), .val (.ref k), .val (.ref t), .val .null, .val (.ref dd)] [(.ref a)])) rfl (by rw [hml]; rfl) (Steps.refl _) (a := a) (argsL := []) (rest := []) (lenOf pd_1 rfl) rfl (by show 2 * 0 + _ ≤ _; exact Nat.le_of_eq rfl) (hb hby d2_1) (fun _ _ => ⟨rfl, e0, (by decide : 0 + 0 ≤ _), (by decide : 0 + 0 ≤ _)⟩)
  dsimp only [Pt.U, Pt.locs, Pt.cells, Pt.slots] at X_1 l_1 y_1 z_1 st_1 hQ_1
  subst l_1 y_1 z_1
  obtain ⟨rfl, N_1q, eh_1⟩ := hQ_1
  have N_1 := Fr.app N0 N_1q
  refine hst (fun _ kt => st_1.trans kt) ?_
  show G (T_1.setTop (mkF m 4 #[.val (.ref a), .val (.ref k), .val (.ref t), .val .null, .val (.ref dd)] []))
  refine hst (fun _ kt => XS.aloadN X_1.here hx rfl (hb hby d2_4) rfl rfl kt) ?_
  show G (T_1.setTop (mkF m 5 #[.val (.ref a), .val (.ref k), .val (.ref t), .val .null, .val (.ref dd)] [(.ref a)]))
  refine hst (fun _ kt => XS.aloadN X_1.here hx rfl (hb hby d2_5) rfl rfl kt) ?_
  show G (T_1.setTop (mkF m 6 #[.val (.ref a), .val (.ref k), .val (.ref t), .val .null, .val (.ref dd)] [(.ref k), (.ref a)]))
  obtain ⟨T_2, h_2, X_2, e_2, W_2, st_2⟩ := putF X_1 hx hZ hown (host := "") (Or.inl (own_w46 hw)) Via.refl eh_1 F_key_a E_a (Or.inr ⟨(own_w47 hw), rfl, hnm⟩) (own_w35 hw) (ty := (.object "java/lang/String")) (by decide) rfl rfl (g := (mkF m 6 #[.val (.ref a), .val (.ref k), .val (.ref t), .val .null, .val (.ref dd)] [(.ref k), (.ref a)])) rfl rfl (hb hby d2_6)
  have Z0 := Nat.le_trans Z0 (Keep.of_wr W_2).1
  have Z1 := Nat.le_trans Z1 (Keep.of_wr W_2).1
  have F_key_a := F_key_a.same W_2
  have F_topic_a := F_topic_a.other W_2 (Or.inr (slot_ne (Or.inr (own_w49 hw)) (Or.inr (own_w47 hw)) (by decide) (t := (.object "java/lang/String")) (t' := (.object "java/lang/String")) (by decide) (by decide)))
  have F_broker_a := F_broker_a.other W_2 (Or.inr (slot_ne (Or.inr (own_w51 hw)) (Or.inr (own_w47 hw)) (by decide) (t := (.object "java/lang/String")) (t' := (.object "java/lang/String")) (by decide) (by decide)))
  have F_defaultValue_a := F_defaultValue_a.other W_2 (Or.inr (slot_ne (Or.inr (own_w53 hw)) (Or.inr (own_w47 hw)) (by decide) (t := (.object "java/lang/String")) (t' := (.object "java/lang/String")) (by decide) (by decide)))
  have E_a := E_a.wr W_2
  have K0 := K0.wr W_2 (Or.inl (List.mem_of_getElem? (i := 0) rfl))
  have N_2 := Fr.snoc X_2 N_1 le_n0_a
  refine hst st_2 ?_
  show G (T_2.setTop (mkF m 9 #[.val (.ref a), .val (.ref k), .val (.ref t), .val .null, .val (.ref dd)] []))
  refine hst (fun _ kt => XS.aloadN X_2.here hx rfl (hb hby d2_9) rfl rfl kt) ?_
  show G (T_2.setTop (mkF m 10 #[.val (.ref a), .val (.ref k), .val (.ref t), .val .null, .val (.ref dd)] [(.ref a)]))
  refine hst (fun _ kt => XS.aloadN X_2.here hx rfl (hb hby d2_10) rfl rfl kt) ?_
  show G (T_2.setTop (mkF m 11 #[.val (.ref a), .val (.ref k), .val (.ref t), .val .null, .val (.ref dd)] [(.ref t), (.ref a)]))
  obtain ⟨T_3, h_3, X_3, e_3, W_3, st_3⟩ := putF X_2 hx hZ hown (host := "") (Or.inl (own_w48 hw)) Via.refl e_2 F_topic_a E_a (Or.inr ⟨(own_w49 hw), rfl, hnm⟩) (own_w35 hw) (ty := (.object "java/lang/String")) (by decide) rfl rfl (g := (mkF m 11 #[.val (.ref a), .val (.ref k), .val (.ref t), .val .null, .val (.ref dd)] [(.ref t), (.ref a)])) rfl rfl (hb hby d2_11)
  have Z0 := Nat.le_trans Z0 (Keep.of_wr W_3).1
  have Z1 := Nat.le_trans Z1 (Keep.of_wr W_3).1
  have F_key_a := F_key_a.other W_3 (Or.inr (slot_ne (Or.inr (own_w47 hw)) (Or.inr (own_w49 hw)) (by decide) (t := (.object "java/lang/String")) (t' := (.object "java/lang/String")) (by decide) (by decide)))
  have F_topic_a := F_topic_a.same W_3
  have F_broker_a := F_broker_a.other W_3 (Or.inr (slot_ne (Or.inr (own_w51 hw)) (Or.inr (own_w49 hw)) (by decide) (t := (.object "java/lang/String")) (t' := (.object "java/lang/String")) (by decide) (by decide)))
  have F_defaultValue_a := F_defaultValue_a.other W_3 (Or.inr (slot_ne (Or.inr (own_w53 hw)) (Or.inr (own_w49 hw)) (by decide) (t := (.object "java/lang/String")) (t' := (.object "java/lang/String")) (by decide) (by decide)))
  have E_a := E_a.wr W_3
  have K0 := K0.wr W_3 (Or.inl (List.mem_of_getElem? (i := 0) rfl))
  have N_3 := Fr.snoc X_3 N_2 le_n0_a
  refine hst st_3 ?_
  show G (T_3.setTop (mkF m 14 #[.val (.ref a), .val (.ref k), .val (.ref t), .val .null, .val (.ref dd)] []))
  refine hst (fun _ kt => XS.aloadN X_3.here hx rfl (hb hby d2_14) rfl rfl kt) ?_
  show G (T_3.setTop (mkF m 15 #[.val (.ref a), .val (.ref k), .val (.ref t), .val .null, .val (.ref dd)] [(.ref a)]))
  refine hst (fun _ kt => XS.aloadN X_3.here hx rfl (hb hby d2_15) rfl rfl kt) ?_
  show G (T_3.setTop (mkF m 16 #[.val (.ref a), .val (.ref k), .val (.ref t), .val .null, .val (.ref dd)] [.null, (.ref a)]))
  obtain ⟨T_4, h_4, X_4, e_4, W_4, st_4⟩ := putF X_3 hx hZ hown (host := "") (Or.inl (own_w50 hw)) Via.refl e_3 F_broker_a E_a (Or.inr ⟨(own_w51 hw), rfl, hnm⟩) (own_w35 hw) (ty := (.object "java/lang/String")) (by decide) rfl rfl (g := (mkF m 16 #[.val (.ref a), .val (.ref k), .val (.ref t), .val .null, .val (.ref dd)] [.null, (.ref a)])) rfl rfl (hb hby d2_16)
  have Z0 := Nat.le_trans Z0 (Keep.of_wr W_4).1
  have Z1 := Nat.le_trans Z1 (Keep.of_wr W_4).1
  have F_key_a := F_key_a.other W_4 (Or.inr (slot_ne (Or.inr (own_w47 hw)) (Or.inr (own_w51 hw)) (by decide) (t := (.object "java/lang/String")) (t' := (.object "java/lang/String")) (by decide) (by decide)))
  have F_topic_a := F_topic_a.other W_4 (Or.inr (slot_ne (Or.inr (own_w49 hw)) (Or.inr (own_w51 hw)) (by decide) (t := (.object "java/lang/String")) (t' := (.object "java/lang/String")) (by decide) (by decide)))
  have F_broker_a := F_broker_a.same W_4
  have F_defaultValue_a := F_defaultValue_a.other W_4 (Or.inr (slot_ne (Or.inr (own_w53 hw)) (Or.inr (own_w51 hw)) (by decide) (t := (.object "java/lang/String")) (t' := (.object "java/lang/String")) (by decide) (by decide)))
  have E_a := E_a.wr W_4
  have K0 := K0.wr W_4 (Or.inl (List.mem_of_getElem? (i := 0) rfl))
  have N_4 := Fr.snoc X_4 N_3 le_n0_a
  refine hst st_4 ?_
  show G (T_4.setTop (mkF m 19 #[.val (.ref a), .val (.ref k), .val (.ref t), .val .null, .val (.ref dd)] []))
  refine hst (fun _ kt => XS.aloadN X_4.here hx rfl (hb hby d2_19) rfl rfl kt) ?_
  show G (T_4.setTop (mkF m 20 #[.val (.ref a), .val (.ref k), .val (.ref t), .val .null, .val (.ref dd)] [(.ref a)]))
  refine hst (fun _ kt => XS.aload X_4.here hx rfl (hb hby d2_20) rfl rfl kt) ?_
  show G (T_4.setTop (mkF m 22 #[.val (.ref a), .val (.ref k), .val (.ref t), .val .null, .val (.ref dd)] [(.ref dd), (.ref a)]))
  obtain ⟨T_5, h_5, X_5, e_5, W_5, st_5⟩ := putF X_4 hx hZ hown (host := "") (Or.inl (own_w52 hw)) Via.refl e_4 F_defaultValue_a E_a (Or.inr ⟨(own_w53 hw), rfl, hnm⟩) (own_w35 hw) (ty := (.object "java/lang/String")) (by decide) rfl rfl (g := (mkF m 22 #[.val (.ref a), .val (.ref k), .val (.ref t), .val .null, .val (.ref dd)] [(.ref dd), (.ref a)])) rfl rfl (hb hby d2_22)
  have Z0 := Nat.le_trans Z0 (Keep.of_wr W_5).1
  have Z1 := Nat.le_trans Z1 (Keep.of_wr W_5).1
  have F_key_a := F_key_a.other W_5 (Or.inr (slot_ne (Or.inr (own_w47 hw)) (Or.inr (own_w53 hw)) (by decide) (t := (.object "java/lang/String")) (t' := (.object "java/lang/String")) (by decide) (by decide)))
  have F_topic_a := F_topic_a.other W_5 (Or.inr (slot_ne (Or.inr (own_w49 hw)) (Or.inr (own_w53 hw)) (by decide) (t := (.object "java/lang/String")) (t' := (.object "java/lang/String")) (by decide) (by decide)))
  have F_broker_a := F_broker_a.other W_5 (Or.inr (slot_ne (Or.inr (own_w51 hw)) (Or.inr (own_w53 hw)) (by decide) (t := (.object "java/lang/String")) (t' := (.object "java/lang/String")) (by decide) (by decide)))
  have F_defaultValue_a := F_defaultValue_a.same W_5
  have E_a := E_a.wr W_5
  have K0 := K0.wr W_5 (Or.inl (List.mem_of_getElem? (i := 0) rfl))
  have N_5 := Fr.snoc X_5 N_4 le_n0_a
  refine hst st_5 ?_
  show G (T_5.setTop (mkF m 25 #[.val (.ref a), .val (.ref k), .val (.ref t), .val .null, .val (.ref dd)] []))
  exact hend (own_goVoid X_5 hx Bd.returns (hb hby d2_25) Bd.notSynchronized (by rw [e_5]; exact ⟨rfl, N_5, K0, E_a, F_topic_a, F_broker_a, F_defaultValue_a⟩) (by decide) (by decide))
set_option maxRecDepth 65536 in
set_option maxHeartbeats 40000000 in
theorem rmV101 (l : Launch) (Z : State) (a0 : Array Value) (hw : ∀ d ∈ tables_1, d.before a0 Z = true) (ws : List Jvm.Cond) (a : Addr) (t : Addr) (dd : Addr) (h0 : Heap) (n0 : Nat) (Z0 : n0 ≤ h0.size) (F_topic_a : Fld Z h0 a own_V "topic" "Ljava/lang/String;" (.ref t)) (F_broker_a : Fld Z h0 a own_V "broker" "Ljava/lang/String;" .null) (F_defaultValue_a : Fld Z h0 a own_V "defaultValue" "Ljava/lang/String;" (.ref dd)) :
    MetFree l (⟨own_V, "value", "()Ljava/lang/String;"⟩ : MethodName) (head1 (Jvm.Cond.code (⟨own_V, "value", "()Ljava/lang/String;"⟩ : MethodName) prog_49_method_2_code 2 (some (.object "java/lang/String")) :: ws) ({ frames := 0, cells := 0, slots := 0, locals := 0 } : Room)) (fun a_ U_ => a_ = #[(.ref a)] ∧ Z.Warmed39 U_.vm ∧ U_.heap = h0) (fun _ _ _ _ _ => True) (fun _ U_ o_ W_ => ∃ v_ L_, o_ = .returned v_ ∧ own_QR (.ref t) h0 n0 v_ W_.heap L_ ∧ FrameEnd U_ o_ W_ L_ ({ frames := 0, cells := 0, slots := 0, locals := 0 } : Room).cells ({ frames := 0, cells := 0, slots := 0, locals := 0 } : Room).slots) := by
  refine MetFree.of_bodySF (plainFor_of_name pn_3) hisR ?_
  intro p e s m args below meth c s₁ Bd hml0 hP hK
  obtain ⟨rfl, hZ, hh⟩ := hP
  have hx := Bd.exec
  have hby := Bd.bytes
  have hml : c.maxLocals = 2 := hml0
  have hown : s.vm.findClass own_V = some m.cls := by have z := findClass_of_methodNamed Bd.named; exact z
  have hnm := (name_of_methodNamed Bd.named Bd.method).1
  have X0 : Stand p l e ({ frames := 0, cells := 0, slots := 0, locals := 0 } : Room) s m #[(.ref a)] below meth c s₁ [] 0 0 := Stand.of_body Bd
  have e0 : s₁.heap = h0 := by rw [← hh, Bd.state]; rfl
  have N0 := Fr.nil n0
  obtain ⟨G, hG, hst, hend⟩ := own_abs p e below s (own_QR (.ref t) h0 n0) ({ frames := 0, cells := 0, slots := 0, locals := 0 } : Room).cells ({ frames := 0, cells := 0, slots := 0, locals := 0 } : Room).slots
  refine hG (S := s₁.setTop (entryFrame m #[(.ref a)] 2)) (hst (fun t_ kt_ => castTop (ef_3 m a) kt_) ?_)
  show G (s₁.setTop (mkF m 0 #[.val (.ref a), .unset] []))
  refine hst (fun _ kt => XS.aloadN X0.here hx rfl (hb hby d3_0) rfl rfl kt) ?_
  show G (s₁.setTop (mkF m 1 #[.val (.ref a), .unset] [(.ref a)]))
  obtain ⟨T_1, X_1, e_1, st_1⟩ := getF X0 hx hZ hown (host := "") (Or.inl (own_w48 hw)) Via.refl e0 F_topic_a (g := (mkF m 1 #[.val (.ref a), .unset] [(.ref a)])) rfl rfl (hb hby d3_1)
  refine hst st_1 ?_
  show G (T_1.setTop (mkF m 4 #[.val (.ref a), .unset] [(.ref t)]))
  refine hst (fun _ kt => XS.ifnullNo X_1.here hx rfl (hb hby d3_4) rfl kt) ?_
  show G (T_1.setTop (mkF m 7 #[.val (.ref a), .unset] []))
  refine hst (fun _ kt => XS.aloadN X_1.here hx rfl (hb hby d3_7) rfl rfl kt) ?_
  show G (T_1.setTop (mkF m 8 #[.val (.ref a), .unset] [(.ref a)]))
  obtain ⟨T_2, X_2, e_2, st_2⟩ := getF X_1 hx hZ hown (host := "") (Or.inl (own_w48 hw)) Via.refl e_1 F_topic_a (g := (mkF m 8 #[.val (.ref a), .unset] [(.ref a)])) rfl rfl (hb hby d3_8)
  refine hst st_2 ?_
  show G (T_2.setTop (mkF m 11 #[.val (.ref a), .unset] [(.ref t)]))
  refine hst (fun _ kt => XS.astoreN X_2.here hx rfl (hb hby d3_11) rfl rfl (l' := #[.val (.ref a), .val (.ref t)]) rfl kt) ?_
  show G (T_2.setTop (mkF m 12 #[.val (.ref a), .val (.ref t)] []))
  refine hst (fun _ kt => XS.goto X_2.here hx rfl (pc0 := 12) (pc' := 35) rfl (hb hby d3_12) (by decide) (by decide) kt) ?_
  show G (T_2.setTop (mkF m 35 #[.val (.ref a), .val (.ref t)] []))
  refine hst (fun _ kt => XS.aloadN X_2.here hx rfl (hb hby d3_35) rfl rfl kt) ?_
  show G (T_2.setTop (mkF m 36 #[.val (.ref a), .val (.ref t)] [(.ref t)]))
  exact hend (own_goRet X_2 hx Bd.returns rfl (Or.inr (Or.inr (Or.inr (Or.inr ⟨rfl, rfl, rfl⟩)))) (hb hby d3_36) Bd.notSynchronized (by rw [e_2]; exact ⟨rfl, N0, rfl⟩) (by decide) (by decide))
theorem ef_2110 (m : MethodId) (a : Addr) (k : Addr) (t : Addr) (b : Addr) : entryFrame m #[(.ref a), (.ref k), (.ref t), (.ref b), .null] 5 = mkF m 0 #[.val (.ref a), .val (.ref k), .val (.ref t), .val (.ref b), .val .null] [] := by first | (simp [entryFrame, mkF, argsToLocals, Value.category]; done) | rfl
set_option maxRecDepth 65536 in
set_option maxHeartbeats 40000000 in
theorem rmI110 (l : Launch) (Z : State) (a0 : Array Value) (hw : ∀ d ∈ tables_1, d.before a0 Z = true) (ws : List Jvm.Cond) (a : Addr) (k : Addr) (t : Addr) (b : Addr) (h0 : Heap) (n0 : Nat) (Z0 : n0 ≤ h0.size) (F_key_a : Fld Z h0 a own_V "key" "Ljava/lang/String;" .null) (F_topic_a : Fld Z h0 a own_V "topic" "Ljava/lang/String;" .null) (F_broker_a : Fld Z h0 a own_V "broker" "Ljava/lang/String;" .null) (F_defaultValue_a : Fld Z h0 a own_V "defaultValue" "Ljava/lang/String;" .null) (E_a : Exa Z h0 a own_V) (le_n0_a : n0 ≤ a) :
    MetFree l (⟨own_V, "<init>", "(Ljava/lang/String;Ljava/lang/String;Ljava/lang/String;Ljava/lang/String;)V"⟩ : MethodName) (head1 (Jvm.Cond.code (⟨own_V, "<init>", "(Ljava/lang/String;Ljava/lang/String;Ljava/lang/String;Ljava/lang/String;)V"⟩ : MethodName) prog_49_method_1_code 5 none :: ws) ({ frames := 2, cells := 0, slots := 0, locals := 24 } : Room)) (fun a_ U_ => a_ = #[(.ref a), (.ref k), (.ref t), (.ref b), .null] ∧ Z.Warmed39 U_.vm ∧ U_.heap = h0) (fun _ _ _ _ _ => True) (fun _ U_ o_ W_ => ∃ v_ L_, o_ = .returned v_ ∧ own_Qi Z a (.ref t) (.ref b) .null h0 n0 v_ W_.heap L_ ∧ FrameEnd U_ o_ W_ L_ ({ frames := 2, cells := 0, slots := 0, locals := 24 } : Room).cells ({ frames := 2, cells := 0, slots := 0, locals := 24 } : Room).slots) := by
  refine MetFree.of_bodySF (plainFor_of_name pn_2) hisR ?_
  intro p e s m args below meth c s₁ Bd hml0 hP hK
  obtain ⟨rfl, hZ, hh⟩ := hP
  have hx := Bd.exec
  have hby := Bd.bytes
  have hml : c.maxLocals = 5 := hml0
  have hown : s.vm.findClass own_V = some m.cls := by have z := findClass_of_methodNamed Bd.named; exact z
  have hnm := (name_of_methodNamed Bd.named Bd.method).1
  have X0 : Stand p l e ({ frames := 2, cells := 0, slots := 0, locals := 24 } : Room) s m #[(.ref a), (.ref k), (.ref t), (.ref b), .null] below meth c s₁ [] 0 0 := Stand.of_body Bd
  have e0 : s₁.heap = h0 := by rw [← hh, Bd.state]; rfl
  have N0 := Fr.nil n0
  obtain ⟨G, hG, hst, hend⟩ := own_abs p e below s (own_Qi Z a (.ref t) (.ref b) .null h0 n0) ({ frames := 2, cells := 0, slots := 0, locals := 24 } : Room).cells ({ frames := 2, cells := 0, slots := 0, locals := 24 } : Room).slots
  refine hG (S := s₁.setTop (entryFrame m #[(.ref a), (.ref k), (.ref t), (.ref b), .null] 5)) (hst (fun t_ kt_ => castTop (ef_2110 m a k t b) kt_) ?_)
  have Z1 := Nat.le_refl h0.size
  have K0 := Keep.refl h0 [a]
  show G (s₁.setTop (mkF m 0 #[.val (.ref a), .val (.ref k), .val (.ref t), .val (.ref b), .val .null] []))
  refine hst (fun _ kt => XS.aloadN X0.here hx rfl (hb hby d2_0) rfl rfl kt) ?_
  show G (s₁.setTop (mkF m 1 #[.val (.ref a), .val (.ref k), .val (.ref t), .val (.ref b), .val .null] [(.ref a)]))
  obtain ⟨_, _, ⟨T_1, L_1, k_1, n_1⟩, -, X_1, ⟨Lc_1, hQ_1, l_1, y_1, z_1⟩, st_1⟩ := X0.specialBack hx (y := (⟨"java/lang/Record", "<init>", "()V"⟩ : MethodName)) rfl hown (mvT hZ (own_w40 hw)) (mvT hZ (own_w41 hw)) (mvT hZ (own_w44 hw)) (by decide) (backOf (W := 0) (rmR l Z a0 hw [] a  h0 n0 Z0) hZ (own_w44 hw) (own_w43 hw) (by decide) (by decide)) (g := (mkF m 1 #[.val (.ref a), .val (.ref k), .val (.ref t), .val (.ref b), .val .null] [(.ref a)])) rfl (by rw [hml]; rfl) (Steps.refl _) (a := a) (argsL := []) (rest := []) (lenOf pd_1 rfl) rfl (by show 2 * 0 + _ ≤ _; exact Nat.le_of_eq rfl) (hb hby d2_1) (fun _ _ => ⟨rfl, e0, (by decide : 0 + 0 ≤ _), (by decide : 0 + 0 ≤ _)⟩)
  dsimp only [Pt.U, Pt.locs, Pt.cells, Pt.slots] at X_1 l_1 y_1 z_1 st_1 hQ_1
  subst l_1 y_1 z_1
  obtain ⟨rfl, N_1q, eh_1⟩ := hQ_1
  have N_1 := Fr.app N0 N_1q
  refine hst (fun _ kt => st_1.trans kt) ?_
  show G (T_1.setTop (mkF m 4 #[.val (.ref a), .val (.ref k), .val (.ref t), .val (.ref b), .val .null] []))
  refine hst (fun _ kt => XS.aloadN X_1.here hx rfl (hb hby d2_4) rfl rfl kt) ?_
  show G (T_1.setTop (mkF m 5 #[.val (.ref a), .val (.ref k), .val (.ref t), .val (.ref b), .val .null] [(.ref a)]))
  refine hst (fun _ kt => XS.aloadN X_1.here hx rfl (hb hby d2_5) rfl rfl kt) ?_
  show G (T_1.setTop (mkF m 6 #[.val (.ref a), .val (.ref k), .val (.ref t), .val (.ref b), .val .null] [(.ref k), (.ref a)]))
  obtain ⟨T_2, h_2, X_2, e_2, W_2, st_2⟩ := putF X_1 hx hZ hown (host := "") (Or.inl (own_w46 hw)) Via.refl eh_1 F_key_a E_a (Or.inr ⟨(own_w47 hw), rfl, hnm⟩) (own_w35 hw) (ty := (.object "java/lang/String")) (by decide) rfl rfl (g := (mkF m 6 #[.val (.ref a), .val (.ref k), .val (.ref t), .val (.ref b), .val .null] [(.ref k), (.ref a)])) rfl rfl (hb hby d2_6)
  have Z0 := Nat.le_trans Z0 (Keep.of_wr W_2).1
  have Z1 := Nat.le_trans Z1 (Keep.of_wr W_2).1
  have F_key_a := F_key_a.same W_2
  have F_topic_a := F_topic_a.other W_2 (Or.inr (slot_ne (Or.inr (own_w49 hw)) (Or.inr (own_w47 hw)) (by decide) (t := (.object "java/lang/String")) (t' := (.object "java/lang/String")) (by decide) (by decide)))
  have F_broker_a := F_broker_a.other W_2 (Or.inr (slot_ne (Or.inr (own_w51 hw)) (Or.inr (own_w47 hw)) (by decide) (t := (.object "java/lang/String")) (t' := (.object "java/lang/String")) (by decide) (by decide)))
  have F_defaultValue_a := F_defaultValue_a.other W_2 (Or.inr (slot_ne (Or.inr (own_w53 hw)) (Or.inr (own_w47 hw)) (by decide) (t := (.object "java/lang/String")) (t' := (.object "java/lang/String")) (by decide) (by decide)))
  have E_a := E_a.wr W_2
  have K0 := K0.wr W_2 (Or.inl (List.mem_of_getElem? (i := 0) rfl))
  have N_2 := Fr.snoc X_2 N_1 le_n0_a
  refine hst st_2 ?_
  show G (T_2.setTop (mkF m 9 #[.val (.ref a), .val (.ref k), .val (.ref t), .val (.ref b), .val .null] []))
  refine hst (fun _ kt => XS.aloadN X_2.here hx rfl (hb hby d2_9) rfl rfl kt) ?_
  show G (T_2.setTop (mkF m 10 #[.val (.ref a), .val (.ref k), .val (.ref t), .val (.ref b), .val .null] [(.ref a)]))
  refine hst (fun _ kt => XS.aloadN X_2.here hx rfl (hb hby d2_10) rfl rfl kt) ?_
  show G (T_2.setTop (mkF m 11 #[.val (.ref a), .val (.ref k), .val (.ref t), .val (.ref b), .val .null] [(.ref t), (.ref a)]))
  obtain ⟨T_3, h_3, X_3, e_3, W_3, st_3⟩ := putF X_2 hx hZ hown (host := "") (Or.inl (own_w48 hw)) Via.refl e_2 F_topic_a E_a (Or.inr ⟨(own_w49 hw), rfl, hnm⟩) (own_w35 hw) (ty := (.object "java/lang/String")) (by decide) rfl rfl (g := (mkF m 11 #[.val (.ref a), .val (.ref k), .val (.ref t), .val (.ref b), .val .null] [(.ref t), (.ref a)])) rfl rfl (hb hby d2_11)
  have Z0 := Nat.le_trans Z0 (Keep.of_wr W_3).1
  have Z1 := Nat.le_trans Z1 (Keep.of_wr W_3).1
  have F_key_a := F_key_a.other W_3 (Or.inr (slot_ne (Or.inr (own_w47 hw)) (Or.inr (own_w49 hw)) (by decide) (t := (.object "java/lang/String")) (t' := (.object "java/lang/String")) (by decide) (by decide)))
  have F_topic_a := F_topic_a.same W_3
  have F_broker_a := F_broker_a.other W_3 (Or.inr (slot_ne (Or.inr (own_w51 hw)) (Or.inr (own_w49 hw)) (by decide) (t := (.object "java/lang/String")) (t' := (.object "java/lang/String")) (by decide) (by decide)))
  have F_defaultValue_a := F_defaultValue_a.other W_3 (Or.inr (slot_ne (Or.inr (own_w53 hw)) (Or.inr (own_w49 hw)) (by decide) (t := (.object "java/lang/String")) (t' := (.object "java/lang/String")) (by decide) (by decide)))
  have E_a := E_a.wr W_3
  have K0 := K0.wr W_3 (Or.inl (List.mem_of_getElem? (i := 0) rfl))
  have N_3 := Fr.snoc X_3 N_2 le_n0_a
  refine hst st_3 ?_
  show G (T_3.setTop (mkF m 14 #[.val (.ref a), .val (.ref k), .val (.ref t), .val (.ref b), .val .null] []))
  refine hst (fun _ kt => XS.aloadN X_3.here hx rfl (hb hby d2_14) rfl rfl kt) ?_
  show G (T_3.setTop (mkF m 15 #[.val (.ref a), .val (.ref k), .val (.ref t), .val (.ref b), .val .null] [(.ref a)]))
  refine hst (fun _ kt => XS.aloadN X_3.here hx rfl (hb hby d2_15) rfl rfl kt) ?_
  show G (T_3.setTop (mkF m 16 #[.val (.ref a), .val (.ref k), .val (.ref t), .val (.ref b), .val .null] [(.ref b), (.ref a)]))
  obtain ⟨T_4, h_4, X_4, e_4, W_4, st_4⟩ := putF X_3 hx hZ hown (host := "") (Or.inl (own_w50 hw)) Via.refl e_3 F_broker_a E_a (Or.inr ⟨(own_w51 hw), rfl, hnm⟩) (own_w35 hw) (ty := (.object "java/lang/String")) (by decide) rfl rfl (g := (mkF m 16 #[.val (.ref a), .val (.ref k), .val (.ref t), .val (.ref b), .val .null] [(.ref b), (.ref a)])) rfl rfl (hb hby d2_16)
  have Z0 := Nat.le_trans Z0 (Keep.of_wr W_4).1
  have Z1 := Nat.le_trans Z1 (Keep.of_wr W_4).1
  have F_key_a := F_key_a.other W_4 (Or.inr (slot_ne (Or.inr (own_w47 hw)) (Or.inr (own_w51 hw)) (by decide) (t := (.object "java/lang/String")) (t' := (.object "java/lang/String")) (by decide) (by decide)))
  have F_topic_a := F_topic_a.other W_4 (Or.inr (slot_ne (Or.inr (own_w49 hw)) (Or.inr (own_w51 hw)) (by decide) (t := (.object "java/lang/String")) (t' := (.object "java/lang/String")) (by decide) (by decide)))
  have F_broker_a := F_broker_a.same W_4
  have F_defaultValue_a := F_defaultValue_a.other W_4 (Or.inr (slot_ne (Or.inr (own_w53 hw)) (Or.inr (own_w51 hw)) (by decide) (t := (.object "java/lang/String")) (t' := (.object "java/lang/String")) (by decide) (by decide)))
  have E_a := E_a.wr W_4
  have K0 := K0.wr W_4 (Or.inl (List.mem_of_getElem? (i := 0) rfl))
  have N_4 := Fr.snoc X_4 N_3 le_n0_a
  refine hst st_4 ?_
  show G (T_4.setTop (mkF m 19 #[.val (.ref a), .val (.ref k), .val (.ref t), .val (.ref b), .val .null] []))
  refine hst (fun _ kt => XS.aloadN X_4.here hx rfl (hb hby d2_19) rfl rfl kt) ?_
  show G (T_4.setTop (mkF m 20 #[.val (.ref a), .val (.ref k), .val (.ref t), .val (.ref b), .val .null] [(.ref a)]))
  refine hst (fun _ kt => XS.aload X_4.here hx rfl (hb hby d2_20) rfl rfl kt) ?_
  show G (T_4.setTop (mkF m 22 #[.val (.ref a), .val (.ref k), .val (.ref t), .val (.ref b), .val .null] [.null, (.ref a)]))
  obtain ⟨T_5, h_5, X_5, e_5, W_5, st_5⟩ := putF X_4 hx hZ hown (host := "") (Or.inl (own_w52 hw)) Via.refl e_4 F_defaultValue_a E_a (Or.inr ⟨(own_w53 hw), rfl, hnm⟩) (own_w35 hw) (ty := (.object "java/lang/String")) (by decide) rfl rfl (g := (mkF m 22 #[.val (.ref a), .val (.ref k), .val (.ref t), .val (.ref b), .val .null] [.null, (.ref a)])) rfl rfl (hb hby d2_22)
  have Z0 := Nat.le_trans Z0 (Keep.of_wr W_5).1
  have Z1 := Nat.le_trans Z1 (Keep.of_wr W_5).1
  have F_key_a := F_key_a.other W_5 (Or.inr (slot_ne (Or.inr (own_w47 hw)) (Or.inr (own_w53 hw)) (by decide) (t := (.object "java/lang/String")) (t' := (.object "java/lang/String")) (by decide) (by decide)))
  have F_topic_a := F_topic_a.other W_5 (Or.inr (slot_ne (Or.inr (own_w49 hw)) (Or.inr (own_w53 hw)) (by decide) (t := (.object "java/lang/String")) (t' := (.object "java/lang/String")) (by decide) (by decide)))
  have F_broker_a := F_broker_a.other W_5 (Or.inr (slot_ne (Or.inr (own_w51 hw)) (Or.inr (own_w53 hw)) (by decide) (t := (.object "java/lang/String")) (t' := (.object "java/lang/String")) (by decide) (by decide)))
  have F_defaultValue_a := F_defaultValue_a.same W_5
  have E_a := E_a.wr W_5
  have K0 := K0.wr W_5 (Or.inl (List.mem_of_getElem? (i := 0) rfl))
  have N_5 := Fr.snoc X_5 N_4 le_n0_a
  refine hst st_5 ?_
  show G (T_5.setTop (mkF m 25 #[.val (.ref a), .val (.ref k), .val (.ref t), .val (.ref b), .val .null] []))
  exact hend (own_goVoid X_5 hx Bd.returns (hb hby d2_25) Bd.notSynchronized (by rw [e_5]; exact ⟨rfl, N_5, K0, E_a, F_topic_a, F_broker_a, F_defaultValue_a⟩) (by decide) (by decide))
set_option maxRecDepth 65536 in
set_option maxHeartbeats 40000000 in
theorem rmV110 (l : Launch) (Z : State) (a0 : Array Value) (hw : ∀ d ∈ tables_1, d.before a0 Z = true) (ws : List Jvm.Cond) (a : Addr) (t : Addr) (b : Addr) (h0 : Heap) (n0 : Nat) (Z0 : n0 ≤ h0.size) (F_topic_a : Fld Z h0 a own_V "topic" "Ljava/lang/String;" (.ref t)) (F_broker_a : Fld Z h0 a own_V "broker" "Ljava/lang/String;" (.ref b)) (F_defaultValue_a : Fld Z h0 a own_V "defaultValue" "Ljava/lang/String;" .null) :
    MetFree l (⟨own_V, "value", "()Ljava/lang/String;"⟩ : MethodName) (head1 (Jvm.Cond.code (⟨own_V, "value", "()Ljava/lang/String;"⟩ : MethodName) prog_49_method_2_code 2 (some (.object "java/lang/String")) :: ws) ({ frames := 0, cells := 0, slots := 0, locals := 0 } : Room)) (fun a_ U_ => a_ = #[(.ref a)] ∧ Z.Warmed39 U_.vm ∧ U_.heap = h0) (fun _ _ _ _ _ => True) (fun _ U_ o_ W_ => ∃ v_ L_, o_ = .returned v_ ∧ own_QR (.ref t) h0 n0 v_ W_.heap L_ ∧ FrameEnd U_ o_ W_ L_ ({ frames := 0, cells := 0, slots := 0, locals := 0 } : Room).cells ({ frames := 0, cells := 0, slots := 0, locals := 0 } : Room).slots) := by
  refine MetFree.of_bodySF (plainFor_of_name pn_3) hisR ?_
  intro p e s m args below meth c s₁ Bd hml0 hP hK
  obtain ⟨rfl, hZ, hh⟩ := hP
  have hx := Bd.exec
  have hby := Bd.bytes
  have hml : c.maxLocals = 2 := hml0
  have hown : s.vm.findClass own_V = some m.cls := by have z := findClass_of_methodNamed Bd.named; exact z
  have hnm := (name_of_methodNamed Bd.named Bd.method).1
  have X0 : Stand p l e ({ frames := 0, cells := 0, slots := 0, locals := 0 } : Room) s m #[(.ref a)] below meth c s₁ [] 0 0 := Stand.of_body Bd
  have e0 : s₁.heap = h0 := by rw [← hh, Bd.state]; rfl
  have N0 := Fr.nil n0
  obtain ⟨G, hG, hst, hend⟩ := own_abs p e below s (own_QR (.ref t) h0 n0) ({ frames := 0, cells := 0, slots := 0, locals := 0 } : Room).cells ({ frames := 0, cells := 0, slots := 0, locals := 0 } : Room).slots
  refine hG (S := s₁.setTop (entryFrame m #[(.ref a)] 2)) (hst (fun t_ kt_ => castTop (ef_3 m a) kt_) ?_)
  show G (s₁.setTop (mkF m 0 #[.val (.ref a), .unset] []))
  refine hst (fun _ kt => XS.aloadN X0.here hx rfl (hb hby d3_0) rfl rfl kt) ?_
  show G (s₁.setTop (mkF m 1 #[.val (.ref a), .unset] [(.ref a)]))
  obtain ⟨T_1, X_1, e_1, st_1⟩ := getF X0 hx hZ hown (host := "") (Or.inl (own_w48 hw)) Via.refl e0 F_topic_a (g := (mkF m 1 #[.val (.ref a), .unset] [(.ref a)])) rfl rfl (hb hby d3_1)
  refine hst st_1 ?_
  show G (T_1.setTop (mkF m 4 #[.val (.ref a), .unset] [(.ref t)]))
  refine hst (fun _ kt => XS.ifnullNo X_1.here hx rfl (hb hby d3_4) rfl kt) ?_
  show G (T_1.setTop (mkF m 7 #[.val (.ref a), .unset] []))
  refine hst (fun _ kt => XS.aloadN X_1.here hx rfl (hb hby d3_7) rfl rfl kt) ?_
  show G (T_1.setTop (mkF m 8 #[.val (.ref a), .unset] [(.ref a)]))
  obtain ⟨T_2, X_2, e_2, st_2⟩ := getF X_1 hx hZ hown (host := "") (Or.inl (own_w48 hw)) Via.refl e_1 F_topic_a (g := (mkF m 8 #[.val (.ref a), .unset] [(.ref a)])) rfl rfl (hb hby d3_8)
  refine hst st_2 ?_
  show G (T_2.setTop (mkF m 11 #[.val (.ref a), .unset] [(.ref t)]))
  refine hst (fun _ kt => XS.astoreN X_2.here hx rfl (hb hby d3_11) rfl rfl (l' := #[.val (.ref a), .val (.ref t)]) rfl kt) ?_
  show G (T_2.setTop (mkF m 12 #[.val (.ref a), .val (.ref t)] []))
  refine hst (fun _ kt => XS.goto X_2.here hx rfl (pc0 := 12) (pc' := 35) rfl (hb hby d3_12) (by decide) (by decide) kt) ?_
  show G (T_2.setTop (mkF m 35 #[.val (.ref a), .val (.ref t)] []))
  refine hst (fun _ kt => XS.aloadN X_2.here hx rfl (hb hby d3_35) rfl rfl kt) ?_
  show G (T_2.setTop (mkF m 36 #[.val (.ref a), .val (.ref t)] [(.ref t)]))
  exact hend (own_goRet X_2 hx Bd.returns rfl (Or.inr (Or.inr (Or.inr (Or.inr ⟨rfl, rfl, rfl⟩)))) (hb hby d3_36) Bd.notSynchronized (by rw [e_2]; exact ⟨rfl, N0, rfl⟩) (by decide) (by decide))
theorem ef_2111 (m : MethodId) (a : Addr) (k : Addr) (t : Addr) (b : Addr) (dd : Addr) : entryFrame m #[(.ref a), (.ref k), (.ref t), (.ref b), (.ref dd)] 5 = mkF m 0 #[.val (.ref a), .val (.ref k), .val (.ref t), .val (.ref b), .val (.ref dd)] [] := by first | (simp [entryFrame, mkF, argsToLocals, Value.category]; done) | rfl
set_option maxRecDepth 65536 in
set_option maxHeartbeats 40000000 in
theorem rmI111 (l : Launch) (Z : State) (a0 : Array Value) (hw : ∀ d ∈ tables_1, d.before a0 Z = true) (ws : List Jvm.Cond) (a : Addr) (k : Addr) (t : Addr) (b : Addr) (dd : Addr) (h0 : Heap) (n0 : Nat) (Z0 : n0 ≤ h0.size) (F_key_a : Fld Z h0 a own_V "key" "Ljava/lang/String;" .null) (F_topic_a : Fld Z h0 a own_V "topic" "Ljava/lang/String;" .null) (F_broker_a : Fld Z h0 a own_V "broker" "Ljava/lang/String;" .null) (F_defaultValue_a : Fld Z h0 a own_V "defaultValue" "Ljava/lang/String;" .null) (E_a : Exa Z h0 a own_V) (le_n0_a : n0 ≤ a) :
    MetFree l (⟨own_V, "<init>", "(Ljava/lang/String;Ljava/lang/String;Ljava/lang/String;Ljava/lang/String;)V"⟩ : MethodName) (head1 (Jvm.Cond.code (⟨own_V, "<init>", "(Ljava/lang/String;Ljava/lang/String;Ljava/lang/String;Ljava/lang/String;)V"⟩ : MethodName) prog_49_method_1_code 5 none :: ws) ({ frames := 2, cells := 0, slots := 0, locals := 24 } : Room)) (fun a_ U_ => a_ = #[(.ref a), (.ref k), (.ref t), (.ref b), (.ref dd)] ∧ Z.Warmed39 U_.vm ∧ U_.heap = h0) (fun _ _ _ _ _ => True) (fun _ U_ o_ W_ => ∃ v_ L_, o_ = .returned v_ ∧ own_Qi Z a (.ref t) (.ref b) (.ref dd) h0 n0 v_ W_.heap L_ ∧ FrameEnd U_ o_ W_ L_ ({ frames := 2, cells := 0, slots := 0, locals := 24 } : Room).cells ({ frames := 2, cells := 0, slots := 0, locals := 24 } : Room).slots) := by
  refine MetFree.of_bodySF (plainFor_of_name pn_2) hisR ?_
  intro p e s m args below meth c s₁ Bd hml0 hP hK
  obtain ⟨rfl, hZ, hh⟩ := hP
  have hx := Bd.exec
  have hby := Bd.bytes
  have hml : c.maxLocals = 5 := hml0
  have hown : s.vm.findClass own_V = some m.cls := by have z := findClass_of_methodNamed Bd.named; exact z
  have hnm := (name_of_methodNamed Bd.named Bd.method).1
  have X0 : Stand p l e ({ frames := 2, cells := 0, slots := 0, locals := 24 } : Room) s m #[(.ref a), (.ref k), (.ref t), (.ref b), (.ref dd)] below meth c s₁ [] 0 0 := Stand.of_body Bd
  have e0 : s₁.heap = h0 := by rw [← hh, Bd.state]; rfl
  have N0 := Fr.nil n0
  obtain ⟨G, hG, hst, hend⟩ := own_abs p e below s (own_Qi Z a (.ref t) (.ref b) (.ref dd) h0 n0) ({ frames := 2, cells := 0, slots := 0, locals := 24 } : Room).cells ({ frames := 2, cells := 0, slots := 0, locals := 24 } : Room).slots
  refine hG (S := s₁.setTop (entryFrame m #[(.ref a), (.ref k), (.ref t), (.ref b), (.ref dd)] 5)) (hst (fun t_ kt_ => castTop (ef_2111 m a k t b dd) kt_) ?_)
  have Z1 := Nat.le_refl h0.size
  have K0 := Keep.refl h0 [a]
  show G (s₁.setTop (mkF m 0 #[.val (.ref a), .val (.ref k), .val (.ref t), .val (.ref b), .val (.ref dd)] []))
  refine hst (fun _ kt => XS.aloadN X0.here hx rfl (hb hby d2_0) rfl rfl kt) ?_
  show G (s₁.setTop (mkF m 1 #[.val (.ref a), .val (.ref k), .val (.ref t), .val (.ref b), .val (.ref dd)] [(.ref a)]))
  obtain ⟨_, _, ⟨T_1, L_1, k_1, n_1⟩, -, X_1, ⟨Lc_1, hQ_1, l_1, y_1, z_1⟩, st_1⟩ := X0.specialBack hx (y := (⟨"java/lang/Record", "<init>", "()V"⟩ : MethodName)) rfl hown (mvT hZ (own_w40 hw)) (mvT hZ (own_w41 hw)) (mvT hZ (own_w44 hw)) (by decide) (backOf (W := 0) (rmR l Z a0 hw [] a  h0 n0 Z0) hZ (own_w44 hw) (own_w43 hw) (by decide) (by decide)) (g := (mkF m 1 #[.val (.ref a), .val (.ref k), .val (.ref t), .val (.ref b), .val (.ref dd)] [(.ref a)])) rfl (by rw [hml]; rfl) (Steps.refl _) (a := a) (argsL := []) (rest := []) (lenOf pd_1 rfl) rfl (by show 2 * 0 + _ ≤ _; exact Nat.le_of_eq rfl) (hb hby d2_1) (fun _ _ => ⟨rfl, e0, (by decide : 0 + 0 ≤ _), (by decide : 0 + 0 ≤ _)⟩)
  dsimp only [Pt.U, Pt.locs, Pt.cells, Pt.slots] at X_1 l_1 y_1 z_1 st_1 hQ_1
  subst l_1 y_1 z_1
  obtain ⟨rfl, N_1q, eh_1⟩ := hQ_1
  have N_1 := Fr.app N0 N_1q
  refine hst (fun _ kt => st_1.trans kt) ?_
  show G (T_1.setTop (mkF m 4 #[.val (.ref a), .val (.ref k), .val (.ref t), .val (.ref b), .val (.ref dd)] []))
  refine hst (fun _ kt => XS.aloadN X_1.here hx rfl (hb hby d2_4) rfl rfl kt) ?_
  show G (T_1.setTop (mkF m 5 #[.val (.ref a), .val (.ref k), .val (.ref t), .val (.ref b), .val (.ref dd)] [(.ref a)]))
  refine hst (fun _ kt => XS.aloadN X_1.here hx rfl (hb hby d2_5) rfl rfl kt) ?_
  show G (T_1.setTop (mkF m 6 #[.val (.ref a), .val (.ref k), .val (.ref t), .val (.ref b), .val (.ref dd)] [(.ref k), (.ref a)]))
  obtain ⟨T_2, h_2, X_2, e_2, W_2, st_2⟩ := putF X_1 hx hZ hown (host := "") (Or.inl (own_w46 hw)) Via.refl eh_1 F_key_a E_a (Or.inr ⟨(own_w47 hw), rfl, hnm⟩) (own_w35 hw) (ty := (.object "java/lang/String")) (by decide) rfl rfl (g := (mkF m 6 #[.val (.ref a), .val (.ref k), .val (.ref t), .val (.ref b), .val (.ref dd)] [(.ref k), (.ref a)])) rfl rfl (hb hby d2_6)
  have Z0 := Nat.le_trans Z0 (Keep.of_wr W_2).1
  have Z1 := Nat.le_trans Z1 (Keep.of_wr W_2).1
  have F_key_a := F_key_a.same W_2
  have F_topic_a := F_topic_a.other W_2 (Or.inr (slot_ne (Or.inr (own_w49 hw)) (Or.inr (own_w47 hw)) (by decide) (t := (.object "java/lang/String")) (t' := (.object "java/lang/String")) (by decide) (by decide)))
  have F_broker_a := F_broker_a.other W_2 (Or.inr (slot_ne (Or.inr (own_w51 hw)) (Or.inr (own_w47 hw)) (by decide) (t := (.object "java/lang/String")) (t' := (.object "java/lang/String")) (by decide) (by decide)))
  have F_defaultValue_a := F_defaultValue_a.other W_2 (Or.inr (slot_ne (Or.inr (own_w53 hw)) (Or.inr (own_w47 hw)) (by decide) (t := (.object "java/lang/String")) (t' := (.object "java/lang/String")) (by decide) (by decide)))
  have E_a := E_a.wr W_2
  have K0 := K0.wr W_2 (Or.inl (List.mem_of_getElem? (i := 0) rfl))
  have N_2 := Fr.snoc X_2 N_1 le_n0_a
  refine hst st_2 ?_
  show G (T_2.setTop (mkF m 9 #[.val (.ref a), .val (.ref k), .val (.ref t), .val (.ref b), .val (.ref dd)] []))
  refine hst (fun _ kt => XS.aloadN X_2.here hx rfl (hb hby d2_9) rfl rfl kt) ?_
  show G (T_2.setTop (mkF m 10 #[.val (.ref a), .val (.ref k), .val (.ref t), .val (.ref b), .val (.ref dd)] [(.ref a)]))
  refine hst (fun _ kt => XS.aloadN X_2.here hx rfl (hb hby d2_10) rfl rfl kt) ?_
  show G (T_2.setTop (mkF m 11 #[.val (.ref a), .val (.ref k), .val (.ref t), .val (.ref b), .val (.ref dd)] [(.ref t), (.ref a)]))
  obtain ⟨T_3, h_3, X_3, e_3, W_3, st_3⟩ := putF X_2 hx hZ hown (host := "") (Or.inl (own_w48 hw)) Via.refl e_2 F_topic_a E_a (Or.inr ⟨(own_w49 hw), rfl, hnm⟩) (own_w35 hw) (ty := (.object "java/lang/String")) (by decide) rfl rfl (g := (mkF m 11 #[.val (.ref a), .val (.ref k), .val (.ref t), .val (.ref b), .val (.ref dd)] [(.ref t), (.ref a)])) rfl rfl (hb hby d2_11)
  have Z0 := Nat.le_trans Z0 (Keep.of_wr W_3).1
  have Z1 := Nat.le_trans Z1 (Keep.of_wr W_3).1
  have F_key_a := F_key_a.other W_3 (Or.inr (slot_ne (Or.inr (own_w47 hw)) (Or.inr (own_w49 hw)) (by decide) (t := (.object "java/lang/String")) (t' := (.object "java/lang/String")) (by decide) (by decide)))
  have F_topic_a := F_topic_a.same W_3
  have F_broker_a := F_broker_a.other W_3 (Or.inr (slot_ne (Or.inr (own_w51 hw)) (Or.inr (own_w49 hw)) (by decide) (t := (.object "java/lang/String")) (t' := (.object "java/lang/String")) (by decide) (by decide)))
  have F_defaultValue_a := F_defaultValue_a.other W_3 (Or.inr (slot_ne (Or.inr (own_w53 hw)) (Or.inr (own_w49 hw)) (by decide) (t := (.object "java/lang/String")) (t' := (.object "java/lang/String")) (by decide) (by decide)))
  have E_a := E_a.wr W_3
  have K0 := K0.wr W_3 (Or.inl (List.mem_of_getElem? (i := 0) rfl))
  have N_3 := Fr.snoc X_3 N_2 le_n0_a
  refine hst st_3 ?_
  show G (T_3.setTop (mkF m 14 #[.val (.ref a), .val (.ref k), .val (.ref t), .val (.ref b), .val (.ref dd)] []))
  refine hst (fun _ kt => XS.aloadN X_3.here hx rfl (hb hby d2_14) rfl rfl kt) ?_
  show G (T_3.setTop (mkF m 15 #[.val (.ref a), .val (.ref k), .val (.ref t), .val (.ref b), .val (.ref dd)] [(.ref a)]))
  refine hst (fun _ kt => XS.aloadN X_3.here hx rfl (hb hby d2_15) rfl rfl kt) ?_
  show G (T_3.setTop (mkF m 16 #[.val (.ref a), .val (.ref k), .val (.ref t), .val (.ref b), .val (.ref dd)] [(.ref b), (.ref a)]))
  obtain ⟨T_4, h_4, X_4, e_4, W_4, st_4⟩ := putF X_3 hx hZ hown (host := "") (Or.inl (own_w50 hw)) Via.refl e_3 F_broker_a E_a (Or.inr ⟨(own_w51 hw), rfl, hnm⟩) (own_w35 hw) (ty := (.object "java/lang/String")) (by decide) rfl rfl (g := (mkF m 16 #[.val (.ref a), .val (.ref k), .val (.ref t), .val (.ref b), .val (.ref dd)] [(.ref b), (.ref a)])) rfl rfl (hb hby d2_16)
  have Z0 := Nat.le_trans Z0 (Keep.of_wr W_4).1
  have Z1 := Nat.le_trans Z1 (Keep.of_wr W_4).1
  have F_key_a := F_key_a.other W_4 (Or.inr (slot_ne (Or.inr (own_w47 hw)) (Or.inr (own_w51 hw)) (by decide) (t := (.object "java/lang/String")) (t' := (.object "java/lang/String")) (by decide) (by decide)))
  have F_topic_a := F_topic_a.other W_4 (Or.inr (slot_ne (Or.inr (own_w49 hw)) (Or.inr (own_w51 hw)) (by decide) (t := (.object "java/lang/String")) (t' := (.object "java/lang/String")) (by decide) (by decide)))
  have F_broker_a := F_broker_a.same W_4
  have F_defaultValue_a := F_defaultValue_a.other W_4 (Or.inr (slot_ne (Or.inr (own_w53 hw)) (Or.inr (own_w51 hw)) (by decide) (t := (.object "java/lang/String")) (t' := (.object "java/lang/String")) (by decide) (by decide)))
  have E_a := E_a.wr W_4
  have K0 := K0.wr W_4 (Or.inl (List.mem_of_getElem? (i := 0) rfl))
  have N_4 := Fr.snoc X_4 N_3 le_n0_a
  refine hst st_4 ?_
  show G (T_4.setTop (mkF m 19 #[.val (.ref a), .val (.ref k), .val (.ref t), .val (.ref b), .val (.ref dd)] []))
  refine hst (fun _ kt => XS.aloadN X_4.here hx rfl (hb hby d2_19) rfl rfl kt) ?_
  show G (T_4.setTop (mkF m 20 #[.val (.ref a), .val (.ref k), .val (.ref t), .val (.ref b), .val (.ref dd)] [(.ref a)]))
  refine hst (fun _ kt => XS.aload X_4.here hx rfl (hb hby d2_20) rfl rfl kt) ?_
  show G (T_4.setTop (mkF m 22 #[.val (.ref a), .val (.ref k), .val (.ref t), .val (.ref b), .val (.ref dd)] [(.ref dd), (.ref a)]))
  obtain ⟨T_5, h_5, X_5, e_5, W_5, st_5⟩ := putF X_4 hx hZ hown (host := "") (Or.inl (own_w52 hw)) Via.refl e_4 F_defaultValue_a E_a (Or.inr ⟨(own_w53 hw), rfl, hnm⟩) (own_w35 hw) (ty := (.object "java/lang/String")) (by decide) rfl rfl (g := (mkF m 22 #[.val (.ref a), .val (.ref k), .val (.ref t), .val (.ref b), .val (.ref dd)] [(.ref dd), (.ref a)])) rfl rfl (hb hby d2_22)
  have Z0 := Nat.le_trans Z0 (Keep.of_wr W_5).1
  have Z1 := Nat.le_trans Z1 (Keep.of_wr W_5).1
  have F_key_a := F_key_a.other W_5 (Or.inr (slot_ne (Or.inr (own_w47 hw)) (Or.inr (own_w53 hw)) (by decide) (t := (.object "java/lang/String")) (t' := (.object "java/lang/String")) (by decide) (by decide)))
  have F_topic_a := F_topic_a.other W_5 (Or.inr (slot_ne (Or.inr (own_w49 hw)) (Or.inr (own_w53 hw)) (by decide) (t := (.object "java/lang/String")) (t' := (.object "java/lang/String")) (by decide) (by decide)))
  have F_broker_a := F_broker_a.other W_5 (Or.inr (slot_ne (Or.inr (own_w51 hw)) (Or.inr (own_w53 hw)) (by decide) (t := (.object "java/lang/String")) (t' := (.object "java/lang/String")) (by decide) (by decide)))
  have F_defaultValue_a := F_defaultValue_a.same W_5
  have E_a := E_a.wr W_5
  have K0 := K0.wr W_5 (Or.inl (List.mem_of_getElem? (i := 0) rfl))
  have N_5 := Fr.snoc X_5 N_4 le_n0_a
  refine hst st_5 ?_
  show G (T_5.setTop (mkF m 25 #[.val (.ref a), .val (.ref k), .val (.ref t), .val (.ref b), .val (.ref dd)] []))
  exact hend (own_goVoid X_5 hx Bd.returns (hb hby d2_25) Bd.notSynchronized (by rw [e_5]; exact ⟨rfl, N_5, K0, E_a, F_topic_a, F_broker_a, F_defaultValue_a⟩) (by decide) (by decide))
set_option maxRecDepth 65536 in
set_option maxHeartbeats 40000000 in
theorem rmV111 (l : Launch) (Z : State) (a0 : Array Value) (hw : ∀ d ∈ tables_1, d.before a0 Z = true) (ws : List Jvm.Cond) (a : Addr) (t : Addr) (b : Addr) (dd : Addr) (h0 : Heap) (n0 : Nat) (Z0 : n0 ≤ h0.size) (F_topic_a : Fld Z h0 a own_V "topic" "Ljava/lang/String;" (.ref t)) (F_broker_a : Fld Z h0 a own_V "broker" "Ljava/lang/String;" (.ref b)) (F_defaultValue_a : Fld Z h0 a own_V "defaultValue" "Ljava/lang/String;" (.ref dd)) :
    MetFree l (⟨own_V, "value", "()Ljava/lang/String;"⟩ : MethodName) (head1 (Jvm.Cond.code (⟨own_V, "value", "()Ljava/lang/String;"⟩ : MethodName) prog_49_method_2_code 2 (some (.object "java/lang/String")) :: ws) ({ frames := 0, cells := 0, slots := 0, locals := 0 } : Room)) (fun a_ U_ => a_ = #[(.ref a)] ∧ Z.Warmed39 U_.vm ∧ U_.heap = h0) (fun _ _ _ _ _ => True) (fun _ U_ o_ W_ => ∃ v_ L_, o_ = .returned v_ ∧ own_QR (.ref t) h0 n0 v_ W_.heap L_ ∧ FrameEnd U_ o_ W_ L_ ({ frames := 0, cells := 0, slots := 0, locals := 0 } : Room).cells ({ frames := 0, cells := 0, slots := 0, locals := 0 } : Room).slots) := by
  refine MetFree.of_bodySF (plainFor_of_name pn_3) hisR ?_
  intro p e s m args below meth c s₁ Bd hml0 hP hK
  obtain ⟨rfl, hZ, hh⟩ := hP
  have hx := Bd.exec
  have hby := Bd.bytes
  have hml : c.maxLocals = 2 := hml0
  have hown : s.vm.findClass own_V = some m.cls := by have z := findClass_of_methodNamed Bd.named; exact z
  have hnm := (name_of_methodNamed Bd.named Bd.method).1
  have X0 : Stand p l e ({ frames := 0, cells := 0, slots := 0, locals := 0 } : Room) s m #[(.ref a)] below meth c s₁ [] 0 0 := Stand.of_body Bd
  have e0 : s₁.heap = h0 := by rw [← hh, Bd.state]; rfl
  have N0 := Fr.nil n0
  obtain ⟨G, hG, hst, hend⟩ := own_abs p e below s (own_QR (.ref t) h0 n0) ({ frames := 0, cells := 0, slots := 0, locals := 0 } : Room).cells ({ frames := 0, cells := 0, slots := 0, locals := 0 } : Room).slots
  refine hG (S := s₁.setTop (entryFrame m #[(.ref a)] 2)) (hst (fun t_ kt_ => castTop (ef_3 m a) kt_) ?_)
  show G (s₁.setTop (mkF m 0 #[.val (.ref a), .unset] []))
  refine hst (fun _ kt => XS.aloadN X0.here hx rfl (hb hby d3_0) rfl rfl kt) ?_
  show G (s₁.setTop (mkF m 1 #[.val (.ref a), .unset] [(.ref a)]))
  obtain ⟨T_1, X_1, e_1, st_1⟩ := getF X0 hx hZ hown (host := "") (Or.inl (own_w48 hw)) Via.refl e0 F_topic_a (g := (mkF m 1 #[.val (.ref a), .unset] [(.ref a)])) rfl rfl (hb hby d3_1)
  refine hst st_1 ?_
  show G (T_1.setTop (mkF m 4 #[.val (.ref a), .unset] [(.ref t)]))
  refine hst (fun _ kt => XS.ifnullNo X_1.here hx rfl (hb hby d3_4) rfl kt) ?_
  show G (T_1.setTop (mkF m 7 #[.val (.ref a), .unset] []))
  refine hst (fun _ kt => XS.aloadN X_1.here hx rfl (hb hby d3_7) rfl rfl kt) ?_
  show G (T_1.setTop (mkF m 8 #[.val (.ref a), .unset] [(.ref a)]))
  obtain ⟨T_2, X_2, e_2, st_2⟩ := getF X_1 hx hZ hown (host := "") (Or.inl (own_w48 hw)) Via.refl e_1 F_topic_a (g := (mkF m 8 #[.val (.ref a), .unset] [(.ref a)])) rfl rfl (hb hby d3_8)
  refine hst st_2 ?_
  show G (T_2.setTop (mkF m 11 #[.val (.ref a), .unset] [(.ref t)]))
  refine hst (fun _ kt => XS.astoreN X_2.here hx rfl (hb hby d3_11) rfl rfl (l' := #[.val (.ref a), .val (.ref t)]) rfl kt) ?_
  show G (T_2.setTop (mkF m 12 #[.val (.ref a), .val (.ref t)] []))
  refine hst (fun _ kt => XS.goto X_2.here hx rfl (pc0 := 12) (pc' := 35) rfl (hb hby d3_12) (by decide) (by decide) kt) ?_
  show G (T_2.setTop (mkF m 35 #[.val (.ref a), .val (.ref t)] []))
  refine hst (fun _ kt => XS.aloadN X_2.here hx rfl (hb hby d3_35) rfl rfl kt) ?_
  show G (T_2.setTop (mkF m 36 #[.val (.ref a), .val (.ref t)] [(.ref t)]))
  exact hend (own_goRet X_2 hx Bd.returns rfl (Or.inr (Or.inr (Or.inr (Or.inr ⟨rfl, rfl, rfl⟩)))) (hb hby d3_36) Bd.notSynchronized (by rw [e_2]; exact ⟨rfl, N0, rfl⟩) (by decide) (by decide))
theorem ef_0 (m : MethodId) (fl : Int32) (k0 : Int32) (k1 : Int32) (k2 : Int32) (k3 : Int32) : entryFrame m #[(.int fl), (.int k0), (.int k1), (.int k2), (.int k3)] maxLocals = mkF m 0 #[.val (.int fl), .val (.int k0), .val (.int k1), .val (.int k2), .val (.int k3), .unset, .unset, .unset, .unset, .unset, .unset, .unset] [] := by first | (simp [entryFrame, mkF, argsToLocals, Value.category, maxLocals]; done) | rfl
theorem pn_0 : plainName x.cls = true := by first | decide +kernel | (simp [plainName, overriddenIn]; done)
set_option maxRecDepth 65536 in
set_option maxHeartbeats 40000000 in
theorem rm0 (l : Launch) (Z : State) (a0 : Array Value) (hw : ∀ d ∈ tables_1, d.before a0 Z = true) (ws : List Jvm.Cond) (fl : Int32) (k0 : Int32) (k1 : Int32) (k2 : Int32) (k3 : Int32) (cz : Int32) (h0 : Heap) (n0 : Nat) (Z0 : n0 ≤ h0.size) (S_c : Sta Z h0 "java/lang/String" "COMPACT_STRINGS" "Z" (.int cz)) (hcz : ¬ cz = 0) :
    MetFree l x (head1 (Jvm.Cond.code x code maxLocals ret :: ws) room_1) (fun a_ U_ => a_ = #[(.int fl), (.int k0), (.int k1), (.int k2), (.int k3)] ∧ Z.Warmed39 U_.vm ∧ U_.heap = h0) (fun _ _ _ _ _ => True) (fun _ U_ o_ W_ => ∃ v_ L_, o_ = .returned v_ ∧ own_Q0 n0 v_ W_.heap L_ ∧ FrameEnd U_ o_ W_ L_ room_1.cells room_1.slots) := by
  refine MetFree.of_bodySF (plainFor_of_name pn_0) hisR ?_
  intro p e s m args below meth c s₁ Bd hml0 hP hK
  obtain ⟨rfl, hZ, hh⟩ := hP
  have hx := Bd.exec
  have hby := Bd.bytes
  have hml : c.maxLocals = 12 := hml0
  have hown : s.vm.findClass x.cls = some m.cls := by have z := findClass_of_methodNamed Bd.named; exact z
  have hnm := (name_of_methodNamed Bd.named Bd.method).1
  have X0 : Stand p l e room_1 s m #[(.int fl), (.int k0), (.int k1), (.int k2), (.int k3)] below meth c s₁ [] 0 0 := Stand.of_body Bd
  have e0 : s₁.heap = h0 := by rw [← hh, Bd.state]; rfl
  have N0 := Fr.nil n0
  obtain ⟨G, hG, hst, hend⟩ := own_abs p e below s (own_Q0 n0) room_1.cells room_1.slots
  refine hG (S := s₁.setTop (entryFrame m #[(.int fl), (.int k0), (.int k1), (.int k2), (.int k3)] maxLocals)) (hst (fun t_ kt_ => castTop (ef_0 m fl k0 k1 k2 k3) kt_) ?_)
  show G (s₁.setTop (mkF m 0 #[.val (.int fl), .val (.int k0), .val (.int k1), .val (.int k2), .val (.int k3), .unset, .unset, .unset, .unset, .unset, .unset, .unset] []))
  refine hst (fun _ kt => XS.iloadN X0.here hx rfl (hb hby at_0) rfl kt) ?_
  show G (s₁.setTop (mkF m 1 #[.val (.int fl), .val (.int k0), .val (.int k1), .val (.int k2), .val (.int k3), .unset, .unset, .unset, .unset, .unset, .unset, .unset] [(.int k0)]))
  obtain ⟨_, _, ⟨T_1, L_1, k_1, n_1⟩, -, X_1, ⟨Lc_1, hQ_1, l_1, y_1, z_1⟩, st_1⟩ := Jvm.LawKit.callS X0 hx (y := (⟨x.cls, "draw", "(I)Ljava/lang/String;"⟩ : MethodName)) hown (mvT hZ (own_w0 hw)) (mvT hZ (own_w1 hw)) (mvT hZ (own_w2 hw)) (mvT hZ (own_w3 hw)) (by decide) (backOf (W := 0) (rm1 l Z a0 hw [] k0 cz h0 n0 Z0 S_c hcz) hZ (own_w3 hw) (own_w2 hw) (by decide) (by decide)) (g := (mkF m 1 #[.val (.int fl), .val (.int k0), .val (.int k1), .val (.int k2), .val (.int k3), .unset, .unset, .unset, .unset, .unset, .unset, .unset] [(.int k0)])) rfl (by rw [hml]; rfl) (argsL := [(.int k0)]) (rest := []) (lenOf pd_2 rfl) rfl (by show 2 * 0 + _ ≤ _; exact Nat.le_of_eq rfl) (hb hby at_1) (fun _ _ => ⟨rfl, e0, (by decide : 0 + 3 ≤ _), (by decide : 0 + 8 ≤ _)⟩)
  dsimp only [Pt.U, Pt.locs, Pt.cells, Pt.slots] at X_1 l_1 y_1 z_1 st_1 hQ_1
  subst l_1 y_1 z_1
  obtain ⟨k, rfl, N_1q, K_1⟩ := hQ_1
  have Z0 := Nat.le_trans Z0 K_1.1
  have S_c := own_Sta_keep S_c K_1 
  have N_1 := Fr.app N0 N_1q
  refine hst (fun _ kt => st_1 _ kt) ?_
  show G (T_1.setTop (mkF m 4 #[.val (.int fl), .val (.int k0), .val (.int k1), .val (.int k2), .val (.int k3), .unset, .unset, .unset, .unset, .unset, .unset, .unset] [(.ref k)]))
  refine hst (fun _ kt => XS.astore X_1.here hx rfl (hb hby at_4) rfl rfl (l' := #[.val (.int fl), .val (.int k0), .val (.int k1), .val (.int k2), .val (.int k3), .val (.ref k), .unset, .unset, .unset, .unset, .unset, .unset]) rfl kt) ?_
  show G (T_1.setTop (mkF m 6 #[.val (.int fl), .val (.int k0), .val (.int k1), .val (.int k2), .val (.int k3), .val (.ref k), .unset, .unset, .unset, .unset, .unset, .unset] []))
  refine hst (fun _ kt => XS.aconstNull X_1.here hx rfl (hb hby at_6) kt) ?_
  show G (T_1.setTop (mkF m 7 #[.val (.int fl), .val (.int k0), .val (.int k1), .val (.int k2), .val (.int k3), .val (.ref k), .unset, .unset, .unset, .unset, .unset, .unset] [.null]))
  refine hst (fun _ kt => XS.astore X_1.here hx rfl (hb hby at_7) rfl rfl (l' := #[.val (.int fl), .val (.int k0), .val (.int k1), .val (.int k2), .val (.int k3), .val (.ref k), .val .null, .unset, .unset, .unset, .unset, .unset]) rfl kt) ?_
  show G (T_1.setTop (mkF m 9 #[.val (.int fl), .val (.int k0), .val (.int k1), .val (.int k2), .val (.int k3), .val (.ref k), .val .null, .unset, .unset, .unset, .unset, .unset] []))
  refine hst (fun _ kt => XS.iloadN X_1.here hx rfl (hb hby at_9) rfl kt) ?_
  show G (T_1.setTop (mkF m 10 #[.val (.int fl), .val (.int k0), .val (.int k1), .val (.int k2), .val (.int k3), .val (.ref k), .val .null, .unset, .unset, .unset, .unset, .unset] [(.int fl)]))
  refine hst (fun _ kt => XS.iconst X_1.here hx rfl (hb hby at_10) kt) ?_
  show G (T_1.setTop (mkF m 11 #[.val (.int fl), .val (.int k0), .val (.int k1), .val (.int k2), .val (.int k3), .val (.ref k), .val .null, .unset, .unset, .unset, .unset, .unset] [(.int (1 : Int32)), (.int fl)]))
  refine hst (fun _ kt => XS.iand X_1.here hx rfl (hb hby at_11) rfl kt) ?_
  show G (T_1.setTop (mkF m 12 #[.val (.int fl), .val (.int k0), .val (.int k1), .val (.int k2), .val (.int k3), .val (.ref k), .val .null, .unset, .unset, .unset, .unset, .unset] [(.int (fl &&& (1 : Int32)))]))
  by_cases hf0 : (fl &&& (1 : Int32)) = (0 : Int32)
  ·
    refine hst (fun _ kt => XS.ifYes X_1.here hx rfl (pc0 := 12) (pc' := 21) rfl (hb hby at_12) rfl ((if0 _ _).trans (teq hf0).1) (by decide) (by decide) kt) ?_
    show G (T_1.setTop (mkF m 21 #[.val (.int fl), .val (.int k0), .val (.int k1), .val (.int k2), .val (.int k3), .val (.ref k), .val .null, .unset, .unset, .unset, .unset, .unset] []))
    refine hst (fun _ kt => XS.aconstNull X_1.here hx rfl (hb hby at_21) kt) ?_
    show G (T_1.setTop (mkF m 22 #[.val (.int fl), .val (.int k0), .val (.int k1), .val (.int k2), .val (.int k3), .val (.ref k), .val .null, .unset, .unset, .unset, .unset, .unset] [.null]))
    refine hst (fun _ kt => XS.astore X_1.here hx rfl (hb hby at_22) rfl rfl (l' := #[.val (.int fl), .val (.int k0), .val (.int k1), .val (.int k2), .val (.int k3), .val (.ref k), .val .null, .val .null, .unset, .unset, .unset, .unset]) rfl kt) ?_
    show G (T_1.setTop (mkF m 24 #[.val (.int fl), .val (.int k0), .val (.int k1), .val (.int k2), .val (.int k3), .val (.ref k), .val .null, .val .null, .unset, .unset, .unset, .unset] []))
    refine hst (fun _ kt => XS.iloadN X_1.here hx rfl (hb hby at_24) rfl kt) ?_
    show G (T_1.setTop (mkF m 25 #[.val (.int fl), .val (.int k0), .val (.int k1), .val (.int k2), .val (.int k3), .val (.ref k), .val .null, .val .null, .unset, .unset, .unset, .unset] [(.int fl)]))
    refine hst (fun _ kt => XS.iconst X_1.here hx rfl (hb hby at_25) kt) ?_
    show G (T_1.setTop (mkF m 26 #[.val (.int fl), .val (.int k0), .val (.int k1), .val (.int k2), .val (.int k3), .val (.ref k), .val .null, .val .null, .unset, .unset, .unset, .unset] [(.int (2 : Int32)), (.int fl)]))
    refine hst (fun _ kt => XS.iand X_1.here hx rfl (hb hby at_26) rfl kt) ?_
    show G (T_1.setTop (mkF m 27 #[.val (.int fl), .val (.int k0), .val (.int k1), .val (.int k2), .val (.int k3), .val (.ref k), .val .null, .val .null, .unset, .unset, .unset, .unset] [(.int (fl &&& (2 : Int32)))]))
    by_cases hf1 : (fl &&& (2 : Int32)) = (0 : Int32)
    ·
      refine hst (fun _ kt => XS.ifYes X_1.here hx rfl (pc0 := 27) (pc' := 36) rfl (hb hby at_27) rfl ((if0 _ _).trans (teq hf1).1) (by decide) (by decide) kt) ?_
      show G (T_1.setTop (mkF m 36 #[.val (.int fl), .val (.int k0), .val (.int k1), .val (.int k2), .val (.int k3), .val (.ref k), .val .null, .val .null, .unset, .unset, .unset, .unset] []))
      refine hst (fun _ kt => XS.aconstNull X_1.here hx rfl (hb hby at_36) kt) ?_
      show G (T_1.setTop (mkF m 37 #[.val (.int fl), .val (.int k0), .val (.int k1), .val (.int k2), .val (.int k3), .val (.ref k), .val .null, .val .null, .unset, .unset, .unset, .unset] [.null]))
      refine hst (fun _ kt => XS.astore X_1.here hx rfl (hb hby at_37) rfl rfl (l' := #[.val (.int fl), .val (.int k0), .val (.int k1), .val (.int k2), .val (.int k3), .val (.ref k), .val .null, .val .null, .val .null, .unset, .unset, .unset]) rfl kt) ?_
      show G (T_1.setTop (mkF m 39 #[.val (.int fl), .val (.int k0), .val (.int k1), .val (.int k2), .val (.int k3), .val (.ref k), .val .null, .val .null, .val .null, .unset, .unset, .unset] []))
      refine hst (fun _ kt => XS.iloadN X_1.here hx rfl (hb hby at_39) rfl kt) ?_
      show G (T_1.setTop (mkF m 40 #[.val (.int fl), .val (.int k0), .val (.int k1), .val (.int k2), .val (.int k3), .val (.ref k), .val .null, .val .null, .val .null, .unset, .unset, .unset] [(.int fl)]))
      refine hst (fun _ kt => XS.iconst X_1.here hx rfl (hb hby at_40) kt) ?_
      show G (T_1.setTop (mkF m 41 #[.val (.int fl), .val (.int k0), .val (.int k1), .val (.int k2), .val (.int k3), .val (.ref k), .val .null, .val .null, .val .null, .unset, .unset, .unset] [(.int (4 : Int32)), (.int fl)]))
      refine hst (fun _ kt => XS.iand X_1.here hx rfl (hb hby at_41) rfl kt) ?_
      show G (T_1.setTop (mkF m 42 #[.val (.int fl), .val (.int k0), .val (.int k1), .val (.int k2), .val (.int k3), .val (.ref k), .val .null, .val .null, .val .null, .unset, .unset, .unset] [(.int (fl &&& (4 : Int32)))]))
      by_cases hf2 : (fl &&& (4 : Int32)) = (0 : Int32)
      ·
        refine hst (fun _ kt => XS.ifYes X_1.here hx rfl (pc0 := 42) (pc' := 52) rfl (hb hby at_42) rfl ((if0 _ _).trans (teq hf2).1) (by decide) (by decide) kt) ?_
        show G (T_1.setTop (mkF m 52 #[.val (.int fl), .val (.int k0), .val (.int k1), .val (.int k2), .val (.int k3), .val (.ref k), .val .null, .val .null, .val .null, .unset, .unset, .unset] []))
        obtain ⟨T_2, h_2, X_2, e_2, E_2, A_2, D_2, -, st_2⟩ := newO X_1 hx hZ hown (own_w34 hw) (own_w35 hw) (own_w36 hw) rfl (g := (mkF m 52 #[.val (.int fl), .val (.int k0), .val (.int k1), .val (.int k2), .val (.int k3), .val (.ref k), .val .null, .val .null, .val .null, .unset, .unset, .unset] [])) rfl (hb hby at_52) (by decide) (by decide)
        obtain ⟨a, g_a⟩ : ∃ z, z = T_1.heap.size := ⟨_, rfl⟩
        rw [← g_a] at A_2 D_2 st_2
        have le_n0_a : n0 ≤ a := Nat.le_trans Z0 (Nat.le_of_eq g_a.symm)
        have Z0 := Nat.le_trans Z0 E_2.1
        have S_c := S_c.ext E_2
        have E_a : Exa Z h_2 a own_V := A_2
        have F_key_a : Fld Z h_2 a own_V "key" "Ljava/lang/String;" .null := D_2 (Or.inr (own_w47 hw)) (ty := (.object "java/lang/String")) (by decide)
        have F_topic_a : Fld Z h_2 a own_V "topic" "Ljava/lang/String;" .null := D_2 (Or.inr (own_w49 hw)) (ty := (.object "java/lang/String")) (by decide)
        have F_broker_a : Fld Z h_2 a own_V "broker" "Ljava/lang/String;" .null := D_2 (Or.inr (own_w51 hw)) (ty := (.object "java/lang/String")) (by decide)
        have F_defaultValue_a : Fld Z h_2 a own_V "defaultValue" "Ljava/lang/String;" .null := D_2 (Or.inr (own_w53 hw)) (ty := (.object "java/lang/String")) (by decide)
        refine hst st_2 ?_
        show G (T_2.setTop (mkF m 55 #[.val (.int fl), .val (.int k0), .val (.int k1), .val (.int k2), .val (.int k3), .val (.ref k), .val .null, .val .null, .val .null, .unset, .unset, .unset] [(.ref a)]))
        refine hst (fun _ kt => XS.dup X_2.here hx rfl (hb hby at_55) rfl rfl kt) ?_
        show G (T_2.setTop (mkF m 56 #[.val (.int fl), .val (.int k0), .val (.int k1), .val (.int k2), .val (.int k3), .val (.ref k), .val .null, .val .null, .val .null, .unset, .unset, .unset] [(.ref a), (.ref a)]))
        refine hst (fun _ kt => XS.aload X_2.here hx rfl (hb hby at_56) rfl rfl kt) ?_
        show G (T_2.setTop (mkF m 58 #[.val (.int fl), .val (.int k0), .val (.int k1), .val (.int k2), .val (.int k3), .val (.ref k), .val .null, .val .null, .val .null, .unset, .unset, .unset] [(.ref k), (.ref a), (.ref a)]))
        refine hst (fun _ kt => XS.aload X_2.here hx rfl (hb hby at_58) rfl rfl kt) ?_
        show G (T_2.setTop (mkF m 60 #[.val (.int fl), .val (.int k0), .val (.int k1), .val (.int k2), .val (.int k3), .val (.ref k), .val .null, .val .null, .val .null, .unset, .unset, .unset] [.null, (.ref k), (.ref a), (.ref a)]))
        refine hst (fun _ kt => XS.aload X_2.here hx rfl (hb hby at_60) rfl rfl kt) ?_
        show G (T_2.setTop (mkF m 62 #[.val (.int fl), .val (.int k0), .val (.int k1), .val (.int k2), .val (.int k3), .val (.ref k), .val .null, .val .null, .val .null, .unset, .unset, .unset] [.null, .null, (.ref k), (.ref a), (.ref a)]))
        refine hst (fun _ kt => XS.aload X_2.here hx rfl (hb hby at_62) rfl rfl kt) ?_
        show G (T_2.setTop (mkF m 64 #[.val (.int fl), .val (.int k0), .val (.int k1), .val (.int k2), .val (.int k3), .val (.ref k), .val .null, .val .null, .val .null, .unset, .unset, .unset] [.null, .null, .null, (.ref k), (.ref a), (.ref a)]))
        obtain ⟨_, _, ⟨T_3, L_3, k_3, n_3⟩, -, X_3, ⟨Lc_3, hQ_3, l_3, y_3, z_3⟩, st_3⟩ := X_2.specialBack hx (y := (⟨own_V, "<init>", "(Ljava/lang/String;Ljava/lang/String;Ljava/lang/String;Ljava/lang/String;)V"⟩ : MethodName)) rfl hown (mvT hZ (own_w37 hw)) (mvT hZ (own_w38 hw)) (mvT hZ (own_w39 hw)) (by decide) (backOf (W := 1) (rmI000 l Z a0 hw [] a k  h_2 n0 Z0 F_key_a F_topic_a F_broker_a F_defaultValue_a E_a le_n0_a) hZ (own_w39 hw) (own_w36 hw) (by decide) (by decide)) (g := (mkF m 64 #[.val (.int fl), .val (.int k0), .val (.int k1), .val (.int k2), .val (.int k3), .val (.ref k), .val .null, .val .null, .val .null, .unset, .unset, .unset] [.null, .null, .null, (.ref k), (.ref a), (.ref a)])) rfl (by rw [hml]; rfl) (Steps.refl _) (a := a) (argsL := [(.ref k), .null, .null, .null]) (rest := [(.ref a)]) (lenOf pd_3 rfl) rfl (by show 2 * 0 + _ ≤ _; exact Nat.le_of_eq rfl) (hb hby at_64) (fun _ _ => ⟨rfl, e_2, (by decide : 4 + 0 ≤ _), (by decide : 12 + 0 ≤ _)⟩)
        dsimp only [Pt.U, Pt.locs, Pt.cells, Pt.slots] at X_3 l_3 y_3 z_3 st_3 hQ_3
        subst l_3 y_3 z_3
        obtain ⟨rfl, N_3q, K_3, Ex_3, Q1, Q2, Q3⟩ := hQ_3
        have Z0 := Nat.le_trans Z0 K_3.1
        have E_a := E_a.keep K_3
        have F_topic_a := Q1
        have F_broker_a := Q2
        have F_defaultValue_a := Q3
        have N_3 := Fr.app N_1 N_3q
        refine hst (fun _ kt => st_3.trans kt) ?_
        show G (T_3.setTop (mkF m 67 #[.val (.int fl), .val (.int k0), .val (.int k1), .val (.int k2), .val (.int k3), .val (.ref k), .val .null, .val .null, .val .null, .unset, .unset, .unset] [(.ref a)]))
        refine hst (fun _ kt => XS.astore X_3.here hx rfl (hb hby at_67) rfl rfl (l' := #[.val (.int fl), .val (.int k0), .val (.int k1), .val (.int k2), .val (.int k3), .val (.ref k), .val .null, .val .null, .val .null, .val (.ref a), .unset, .unset]) rfl kt) ?_
        show G (T_3.setTop (mkF m 69 #[.val (.int fl), .val (.int k0), .val (.int k1), .val (.int k2), .val (.int k3), .val (.ref k), .val .null, .val .null, .val .null, .val (.ref a), .unset, .unset] []))
        refine hst (fun _ kt => XS.aload X_3.here hx rfl (hb hby at_69) rfl rfl kt) ?_
        show G (T_3.setTop (mkF m 71 #[.val (.int fl), .val (.int k0), .val (.int k1), .val (.int k2), .val (.int k3), .val (.ref k), .val .null, .val .null, .val .null, .val (.ref a), .unset, .unset] [(.ref a)]))
        obtain ⟨cq_4, kq_4, q_4a, q_4b, q_4c⟩ := isOf hZ rfl E_a
        obtain ⟨_, _, ⟨T_4, L_4, k_4, n_4⟩, -, X_4, ⟨Lc_4, hQ_4, l_4, y_4, z_4⟩, st_4⟩ := X_3.virtualBack hx (y := (⟨own_V, "value", "()Ljava/lang/String;"⟩ : MethodName)) (z := (⟨own_V, "value", "()Ljava/lang/String;"⟩ : MethodName)) hown (mvT hZ (own_w54 hw)) (mvT hZ (own_w55 hw)) (notFace_of_selects (args := #[]) (mvT hZ (own_w57 hw))) (mvT hZ (own_w57 hw)) (mvT hZ (own_w56 hw)) (by decide) (backOf (W := 0) (rmV000 l Z a0 hw [] a  T_3.heap n0 Z0 F_topic_a F_broker_a F_defaultValue_a) hZ (own_w58 hw) (own_w36 hw) (by decide) (by decide)) q_4a q_4c (g := (mkF m 71 #[.val (.int fl), .val (.int k0), .val (.int k1), .val (.int k2), .val (.int k3), .val (.ref k), .val .null, .val .null, .val .null, .val (.ref a), .unset, .unset] [(.ref a)])) rfl (by rw [hml]; rfl) (Steps.refl _) (argsL := []) (rest := []) (lenOf pd_4 rfl) rfl (by show 2 * 0 + _ ≤ _; exact Nat.le_of_eq rfl) (hb hby at_71) (fun _ _ => ⟨rfl, rfl, (by decide : 4 + 0 ≤ _), (by decide : 12 + 0 ≤ _)⟩)
        dsimp only [Pt.U, Pt.locs, Pt.cells, Pt.slots] at X_4 l_4 y_4 z_4 st_4 hQ_4
        subst l_4 y_4 z_4
        obtain ⟨rfl, N_4q, eh_4⟩ := hQ_4
        have N_4 := Fr.app N_3 N_4q
        refine hst (fun _ kt => st_4.trans kt) ?_
        show G (T_4.setTop (mkF m 74 #[.val (.int fl), .val (.int k0), .val (.int k1), .val (.int k2), .val (.int k3), .val (.ref k), .val .null, .val .null, .val .null, .val (.ref a), .unset, .unset] [.null]))
        refine hst (fun _ kt => XS.astore X_4.here hx rfl (hb hby at_74) rfl rfl (l' := #[.val (.int fl), .val (.int k0), .val (.int k1), .val (.int k2), .val (.int k3), .val (.ref k), .val .null, .val .null, .val .null, .val (.ref a), .val .null, .unset]) rfl kt) ?_
        show G (T_4.setTop (mkF m 76 #[.val (.int fl), .val (.int k0), .val (.int k1), .val (.int k2), .val (.int k3), .val (.ref k), .val .null, .val .null, .val .null, .val (.ref a), .val .null, .unset] []))
        refine hst (fun _ kt => XS.iloadN X_4.here hx rfl (hb hby at_76) rfl kt) ?_
        show G (T_4.setTop (mkF m 77 #[.val (.int fl), .val (.int k0), .val (.int k1), .val (.int k2), .val (.int k3), .val (.ref k), .val .null, .val .null, .val .null, .val (.ref a), .val .null, .unset] [(.int fl)]))
        refine hst (fun _ kt => XS.iconst X_4.here hx rfl (hb hby at_77) kt) ?_
        show G (T_4.setTop (mkF m 78 #[.val (.int fl), .val (.int k0), .val (.int k1), .val (.int k2), .val (.int k3), .val (.ref k), .val .null, .val .null, .val .null, .val (.ref a), .val .null, .unset] [(.int (1 : Int32)), (.int fl)]))
        refine hst (fun _ kt => XS.iand X_4.here hx rfl (hb hby at_78) rfl kt) ?_
        show G (T_4.setTop (mkF m 79 #[.val (.int fl), .val (.int k0), .val (.int k1), .val (.int k2), .val (.int k3), .val (.ref k), .val .null, .val .null, .val .null, .val (.ref a), .val .null, .unset] [(.int (fl &&& (1 : Int32)))]))
        have hc79 : (fl &&& (1 : Int32)) = (0 : Int32) := hf0
        refine hst (fun _ kt => XS.ifYes X_4.here hx rfl (pc0 := 79) (pc' := 89) rfl (hb hby at_79) rfl ((if0 _ _).trans (teq hc79).1) (by decide) (by decide) kt) ?_
        show G (T_4.setTop (mkF m 89 #[.val (.int fl), .val (.int k0), .val (.int k1), .val (.int k2), .val (.int k3), .val (.ref k), .val .null, .val .null, .val .null, .val (.ref a), .val .null, .unset] []))
        refine hst (fun _ kt => XS.iloadN X_4.here hx rfl (hb hby at_89) rfl kt) ?_
        show G (T_4.setTop (mkF m 90 #[.val (.int fl), .val (.int k0), .val (.int k1), .val (.int k2), .val (.int k3), .val (.ref k), .val .null, .val .null, .val .null, .val (.ref a), .val .null, .unset] [(.int fl)]))
        refine hst (fun _ kt => XS.iconst X_4.here hx rfl (hb hby at_90) kt) ?_
        show G (T_4.setTop (mkF m 91 #[.val (.int fl), .val (.int k0), .val (.int k1), .val (.int k2), .val (.int k3), .val (.ref k), .val .null, .val .null, .val .null, .val (.ref a), .val .null, .unset] [(.int (2 : Int32)), (.int fl)]))
        refine hst (fun _ kt => XS.iand X_4.here hx rfl (hb hby at_91) rfl kt) ?_
        show G (T_4.setTop (mkF m 92 #[.val (.int fl), .val (.int k0), .val (.int k1), .val (.int k2), .val (.int k3), .val (.ref k), .val .null, .val .null, .val .null, .val (.ref a), .val .null, .unset] [(.int (fl &&& (2 : Int32)))]))
        have hc92 : (fl &&& (2 : Int32)) = (0 : Int32) := hf1
        refine hst (fun _ kt => XS.ifYes X_4.here hx rfl (pc0 := 92) (pc' := 102) rfl (hb hby at_92) rfl ((if0 _ _).trans (teq hc92).1) (by decide) (by decide) kt) ?_
        show G (T_4.setTop (mkF m 102 #[.val (.int fl), .val (.int k0), .val (.int k1), .val (.int k2), .val (.int k3), .val (.ref k), .val .null, .val .null, .val .null, .val (.ref a), .val .null, .unset] []))
        refine hst (fun _ kt => XS.aload X_4.here hx rfl (hb hby at_102) rfl rfl kt) ?_
        show G (T_4.setTop (mkF m 104 #[.val (.int fl), .val (.int k0), .val (.int k1), .val (.int k2), .val (.int k3), .val (.ref k), .val .null, .val .null, .val .null, .val (.ref a), .val .null, .unset] [.null]))
        refine hst (fun _ kt => XS.astore X_4.here hx rfl (hb hby at_104) rfl rfl (l' := #[.val (.int fl), .val (.int k0), .val (.int k1), .val (.int k2), .val (.int k3), .val (.ref k), .val .null, .val .null, .val .null, .val (.ref a), .val .null, .val .null]) rfl kt) ?_
        show G (T_4.setTop (mkF m 106 #[.val (.int fl), .val (.int k0), .val (.int k1), .val (.int k2), .val (.int k3), .val (.ref k), .val .null, .val .null, .val .null, .val (.ref a), .val .null, .val .null] []))
        refine hst (fun _ kt => XS.aload X_4.here hx rfl (hb hby at_106) rfl rfl kt) ?_
        show G (T_4.setTop (mkF m 108 #[.val (.int fl), .val (.int k0), .val (.int k1), .val (.int k2), .val (.int k3), .val (.ref k), .val .null, .val .null, .val .null, .val (.ref a), .val .null, .val .null] [.null]))
        refine hst (fun _ kt => XS.aload X_4.here hx rfl (hb hby at_108) rfl rfl kt) ?_
        show G (T_4.setTop (mkF m 110 #[.val (.int fl), .val (.int k0), .val (.int k1), .val (.int k2), .val (.int k3), .val (.ref k), .val .null, .val .null, .val .null, .val (.ref a), .val .null, .val .null] [.null, .null]))
        refine hst (fun _ kt => Jvm.RoadKit.acmp (g := (mkF m 110 #[.val (.int fl), .val (.int k0), .val (.int k1), .val (.int k2), .val (.int k3), .val (.ref k), .val .null, .val .null, .val .null, .val (.ref a), .val .null, .val .null] [.null, .null])) X_4 hx rfl rfl rfl (pc0 := 110) (pc' := 113) (same := true) rfl (hb hby at_110) rfl (decide_eq_true rfl) (by decide) (by decide) kt) ?_
        show G (T_4.setTop (mkF m 113 #[.val (.int fl), .val (.int k0), .val (.int k1), .val (.int k2), .val (.int k3), .val (.ref k), .val .null, .val .null, .val .null, .val (.ref a), .val .null, .val .null] []))
        refine hst (fun _ kt => XS.iconst X_4.here hx rfl (hb hby at_113) kt) ?_
        show G (T_4.setTop (mkF m 114 #[.val (.int fl), .val (.int k0), .val (.int k1), .val (.int k2), .val (.int k3), .val (.ref k), .val .null, .val .null, .val .null, .val (.ref a), .val .null, .val .null] [(.int (1 : Int32))]))
        refine hst (fun _ kt => XS.goto X_4.here hx rfl (pc0 := 114) (pc' := 118) rfl (hb hby at_114) (by decide) (by decide) kt) ?_
        show G (T_4.setTop (mkF m 118 #[.val (.int fl), .val (.int k0), .val (.int k1), .val (.int k2), .val (.int k3), .val (.ref k), .val .null, .val .null, .val .null, .val (.ref a), .val .null, .val .null] [(.int (1 : Int32))]))
        exact hend (own_goRet X_4 hx Bd.returns rfl (Or.inl ⟨rfl, by simp, _, rfl⟩) (hb hby at_118) Bd.notSynchronized (by rw [eh_4]; exact ⟨rfl, N_4⟩) (by decide) (by decide))
      ·
        refine hst (fun _ kt => XS.ifNo X_1.here hx rfl (hb hby at_42) rfl ((if0 _ _).trans (feq hf2).1) kt) ?_
        show G (T_1.setTop (mkF m 45 #[.val (.int fl), .val (.int k0), .val (.int k1), .val (.int k2), .val (.int k3), .val (.ref k), .val .null, .val .null, .val .null, .unset, .unset, .unset] []))
        refine hst (fun _ kt => XS.iload X_1.here hx rfl (hb hby at_45) rfl kt) ?_
        show G (T_1.setTop (mkF m 47 #[.val (.int fl), .val (.int k0), .val (.int k1), .val (.int k2), .val (.int k3), .val (.ref k), .val .null, .val .null, .val .null, .unset, .unset, .unset] [(.int k3)]))
        obtain ⟨_, _, ⟨T_5, L_5, k_5, n_5⟩, -, X_5, ⟨Lc_5, hQ_5, l_5, y_5, z_5⟩, st_5⟩ := Jvm.LawKit.callS X_1 hx (y := (⟨x.cls, "draw", "(I)Ljava/lang/String;"⟩ : MethodName)) hown (mvT hZ (own_w0 hw)) (mvT hZ (own_w1 hw)) (mvT hZ (own_w2 hw)) (mvT hZ (own_w3 hw)) (by decide) (backOf (W := 0) (rm1 l Z a0 hw [] k3 cz T_1.heap n0 Z0 S_c hcz) hZ (own_w3 hw) (own_w2 hw) (by decide) (by decide)) (g := (mkF m 47 #[.val (.int fl), .val (.int k0), .val (.int k1), .val (.int k2), .val (.int k3), .val (.ref k), .val .null, .val .null, .val .null, .unset, .unset, .unset] [(.int k3)])) rfl (by rw [hml]; rfl) (argsL := [(.int k3)]) (rest := []) (lenOf pd_2 rfl) rfl (by show 2 * 0 + _ ≤ _; exact Nat.le_of_eq rfl) (hb hby at_47) (fun _ _ => ⟨rfl, rfl, (by decide : 3 + 3 ≤ _), (by decide : 8 + 8 ≤ _)⟩)
        dsimp only [Pt.U, Pt.locs, Pt.cells, Pt.slots] at X_5 l_5 y_5 z_5 st_5 hQ_5
        subst l_5 y_5 z_5
        obtain ⟨dd, rfl, N_5q, K_5⟩ := hQ_5
        have Z0 := Nat.le_trans Z0 K_5.1
        have S_c := own_Sta_keep S_c K_5 
        have N_5 := Fr.app N_1 N_5q
        refine hst (fun _ kt => st_5 _ kt) ?_
        show G (T_5.setTop (mkF m 50 #[.val (.int fl), .val (.int k0), .val (.int k1), .val (.int k2), .val (.int k3), .val (.ref k), .val .null, .val .null, .val .null, .unset, .unset, .unset] [(.ref dd)]))
        refine hst (fun _ kt => XS.astore X_5.here hx rfl (hb hby at_50) rfl rfl (l' := #[.val (.int fl), .val (.int k0), .val (.int k1), .val (.int k2), .val (.int k3), .val (.ref k), .val .null, .val .null, .val (.ref dd), .unset, .unset, .unset]) rfl kt) ?_
        show G (T_5.setTop (mkF m 52 #[.val (.int fl), .val (.int k0), .val (.int k1), .val (.int k2), .val (.int k3), .val (.ref k), .val .null, .val .null, .val (.ref dd), .unset, .unset, .unset] []))
        obtain ⟨T_6, h_6, X_6, e_6, E_6, A_6, D_6, -, st_6⟩ := newO X_5 hx hZ hown (own_w34 hw) (own_w35 hw) (own_w36 hw) rfl (g := (mkF m 52 #[.val (.int fl), .val (.int k0), .val (.int k1), .val (.int k2), .val (.int k3), .val (.ref k), .val .null, .val .null, .val (.ref dd), .unset, .unset, .unset] [])) rfl (hb hby at_52) (by decide) (by decide)
        obtain ⟨a, g_a⟩ : ∃ z, z = T_5.heap.size := ⟨_, rfl⟩
        rw [← g_a] at A_6 D_6 st_6
        have le_n0_a : n0 ≤ a := Nat.le_trans Z0 (Nat.le_of_eq g_a.symm)
        have Z0 := Nat.le_trans Z0 E_6.1
        have S_c := S_c.ext E_6
        have E_a : Exa Z h_6 a own_V := A_6
        have F_key_a : Fld Z h_6 a own_V "key" "Ljava/lang/String;" .null := D_6 (Or.inr (own_w47 hw)) (ty := (.object "java/lang/String")) (by decide)
        have F_topic_a : Fld Z h_6 a own_V "topic" "Ljava/lang/String;" .null := D_6 (Or.inr (own_w49 hw)) (ty := (.object "java/lang/String")) (by decide)
        have F_broker_a : Fld Z h_6 a own_V "broker" "Ljava/lang/String;" .null := D_6 (Or.inr (own_w51 hw)) (ty := (.object "java/lang/String")) (by decide)
        have F_defaultValue_a : Fld Z h_6 a own_V "defaultValue" "Ljava/lang/String;" .null := D_6 (Or.inr (own_w53 hw)) (ty := (.object "java/lang/String")) (by decide)
        refine hst st_6 ?_
        show G (T_6.setTop (mkF m 55 #[.val (.int fl), .val (.int k0), .val (.int k1), .val (.int k2), .val (.int k3), .val (.ref k), .val .null, .val .null, .val (.ref dd), .unset, .unset, .unset] [(.ref a)]))
        refine hst (fun _ kt => XS.dup X_6.here hx rfl (hb hby at_55) rfl rfl kt) ?_
        show G (T_6.setTop (mkF m 56 #[.val (.int fl), .val (.int k0), .val (.int k1), .val (.int k2), .val (.int k3), .val (.ref k), .val .null, .val .null, .val (.ref dd), .unset, .unset, .unset] [(.ref a), (.ref a)]))
        refine hst (fun _ kt => XS.aload X_6.here hx rfl (hb hby at_56) rfl rfl kt) ?_
        show G (T_6.setTop (mkF m 58 #[.val (.int fl), .val (.int k0), .val (.int k1), .val (.int k2), .val (.int k3), .val (.ref k), .val .null, .val .null, .val (.ref dd), .unset, .unset, .unset] [(.ref k), (.ref a), (.ref a)]))
        refine hst (fun _ kt => XS.aload X_6.here hx rfl (hb hby at_58) rfl rfl kt) ?_
        show G (T_6.setTop (mkF m 60 #[.val (.int fl), .val (.int k0), .val (.int k1), .val (.int k2), .val (.int k3), .val (.ref k), .val .null, .val .null, .val (.ref dd), .unset, .unset, .unset] [.null, (.ref k), (.ref a), (.ref a)]))
        refine hst (fun _ kt => XS.aload X_6.here hx rfl (hb hby at_60) rfl rfl kt) ?_
        show G (T_6.setTop (mkF m 62 #[.val (.int fl), .val (.int k0), .val (.int k1), .val (.int k2), .val (.int k3), .val (.ref k), .val .null, .val .null, .val (.ref dd), .unset, .unset, .unset] [.null, .null, (.ref k), (.ref a), (.ref a)]))
        refine hst (fun _ kt => XS.aload X_6.here hx rfl (hb hby at_62) rfl rfl kt) ?_
        show G (T_6.setTop (mkF m 64 #[.val (.int fl), .val (.int k0), .val (.int k1), .val (.int k2), .val (.int k3), .val (.ref k), .val .null, .val .null, .val (.ref dd), .unset, .unset, .unset] [(.ref dd), .null, .null, (.ref k), (.ref a), (.ref a)]))
        obtain ⟨_, _, ⟨T_7, L_7, k_7, n_7⟩, -, X_7, ⟨Lc_7, hQ_7, l_7, y_7, z_7⟩, st_7⟩ := X_6.specialBack hx (y := (⟨own_V, "<init>", "(Ljava/lang/String;Ljava/lang/String;Ljava/lang/String;Ljava/lang/String;)V"⟩ : MethodName)) rfl hown (mvT hZ (own_w37 hw)) (mvT hZ (own_w38 hw)) (mvT hZ (own_w39 hw)) (by decide) (backOf (W := 1) (rmI001 l Z a0 hw [] a k dd  h_6 n0 Z0 F_key_a F_topic_a F_broker_a F_defaultValue_a E_a le_n0_a) hZ (own_w39 hw) (own_w36 hw) (by decide) (by decide)) (g := (mkF m 64 #[.val (.int fl), .val (.int k0), .val (.int k1), .val (.int k2), .val (.int k3), .val (.ref k), .val .null, .val .null, .val (.ref dd), .unset, .unset, .unset] [(.ref dd), .null, .null, (.ref k), (.ref a), (.ref a)])) rfl (by rw [hml]; rfl) (Steps.refl _) (a := a) (argsL := [(.ref k), .null, .null, (.ref dd)]) (rest := [(.ref a)]) (lenOf pd_3 rfl) rfl (by show 2 * 0 + _ ≤ _; exact Nat.le_of_eq rfl) (hb hby at_64) (fun _ _ => ⟨rfl, e_6, (by decide : 7 + 0 ≤ _), (by decide : 20 + 0 ≤ _)⟩)
        dsimp only [Pt.U, Pt.locs, Pt.cells, Pt.slots] at X_7 l_7 y_7 z_7 st_7 hQ_7
        subst l_7 y_7 z_7
        obtain ⟨rfl, N_7q, K_7, Ex_7, Q1, Q2, Q3⟩ := hQ_7
        have Z0 := Nat.le_trans Z0 K_7.1
        have E_a := E_a.keep K_7
        have F_topic_a := Q1
        have F_broker_a := Q2
        have F_defaultValue_a := Q3
        have N_7 := Fr.app N_5 N_7q
        refine hst (fun _ kt => st_7.trans kt) ?_
        show G (T_7.setTop (mkF m 67 #[.val (.int fl), .val (.int k0), .val (.int k1), .val (.int k2), .val (.int k3), .val (.ref k), .val .null, .val .null, .val (.ref dd), .unset, .unset, .unset] [(.ref a)]))
        refine hst (fun _ kt => XS.astore X_7.here hx rfl (hb hby at_67) rfl rfl (l' := #[.val (.int fl), .val (.int k0), .val (.int k1), .val (.int k2), .val (.int k3), .val (.ref k), .val .null, .val .null, .val (.ref dd), .val (.ref a), .unset, .unset]) rfl kt) ?_
        show G (T_7.setTop (mkF m 69 #[.val (.int fl), .val (.int k0), .val (.int k1), .val (.int k2), .val (.int k3), .val (.ref k), .val .null, .val .null, .val (.ref dd), .val (.ref a), .unset, .unset] []))
        refine hst (fun _ kt => XS.aload X_7.here hx rfl (hb hby at_69) rfl rfl kt) ?_
        show G (T_7.setTop (mkF m 71 #[.val (.int fl), .val (.int k0), .val (.int k1), .val (.int k2), .val (.int k3), .val (.ref k), .val .null, .val .null, .val (.ref dd), .val (.ref a), .unset, .unset] [(.ref a)]))
        obtain ⟨cq_8, kq_8, q_8a, q_8b, q_8c⟩ := isOf hZ rfl E_a
        obtain ⟨_, _, ⟨T_8, L_8, k_8, n_8⟩, -, X_8, ⟨Lc_8, hQ_8, l_8, y_8, z_8⟩, st_8⟩ := X_7.virtualBack hx (y := (⟨own_V, "value", "()Ljava/lang/String;"⟩ : MethodName)) (z := (⟨own_V, "value", "()Ljava/lang/String;"⟩ : MethodName)) hown (mvT hZ (own_w54 hw)) (mvT hZ (own_w55 hw)) (notFace_of_selects (args := #[]) (mvT hZ (own_w57 hw))) (mvT hZ (own_w57 hw)) (mvT hZ (own_w56 hw)) (by decide) (backOf (W := 0) (rmV001 l Z a0 hw [] a dd T_7.heap n0 Z0 F_topic_a F_broker_a F_defaultValue_a) hZ (own_w58 hw) (own_w36 hw) (by decide) (by decide)) q_8a q_8c (g := (mkF m 71 #[.val (.int fl), .val (.int k0), .val (.int k1), .val (.int k2), .val (.int k3), .val (.ref k), .val .null, .val .null, .val (.ref dd), .val (.ref a), .unset, .unset] [(.ref a)])) rfl (by rw [hml]; rfl) (Steps.refl _) (argsL := []) (rest := []) (lenOf pd_4 rfl) rfl (by show 2 * 0 + _ ≤ _; exact Nat.le_of_eq rfl) (hb hby at_71) (fun _ _ => ⟨rfl, rfl, (by decide : 7 + 0 ≤ _), (by decide : 20 + 0 ≤ _)⟩)
        dsimp only [Pt.U, Pt.locs, Pt.cells, Pt.slots] at X_8 l_8 y_8 z_8 st_8 hQ_8
        subst l_8 y_8 z_8
        obtain ⟨rfl, N_8q, eh_8⟩ := hQ_8
        have N_8 := Fr.app N_7 N_8q
        refine hst (fun _ kt => st_8.trans kt) ?_
        show G (T_8.setTop (mkF m 74 #[.val (.int fl), .val (.int k0), .val (.int k1), .val (.int k2), .val (.int k3), .val (.ref k), .val .null, .val .null, .val (.ref dd), .val (.ref a), .unset, .unset] [(.ref dd)]))
        refine hst (fun _ kt => XS.astore X_8.here hx rfl (hb hby at_74) rfl rfl (l' := #[.val (.int fl), .val (.int k0), .val (.int k1), .val (.int k2), .val (.int k3), .val (.ref k), .val .null, .val .null, .val (.ref dd), .val (.ref a), .val (.ref dd), .unset]) rfl kt) ?_
        show G (T_8.setTop (mkF m 76 #[.val (.int fl), .val (.int k0), .val (.int k1), .val (.int k2), .val (.int k3), .val (.ref k), .val .null, .val .null, .val (.ref dd), .val (.ref a), .val (.ref dd), .unset] []))
        refine hst (fun _ kt => XS.iloadN X_8.here hx rfl (hb hby at_76) rfl kt) ?_
        show G (T_8.setTop (mkF m 77 #[.val (.int fl), .val (.int k0), .val (.int k1), .val (.int k2), .val (.int k3), .val (.ref k), .val .null, .val .null, .val (.ref dd), .val (.ref a), .val (.ref dd), .unset] [(.int fl)]))
        refine hst (fun _ kt => XS.iconst X_8.here hx rfl (hb hby at_77) kt) ?_
        show G (T_8.setTop (mkF m 78 #[.val (.int fl), .val (.int k0), .val (.int k1), .val (.int k2), .val (.int k3), .val (.ref k), .val .null, .val .null, .val (.ref dd), .val (.ref a), .val (.ref dd), .unset] [(.int (1 : Int32)), (.int fl)]))
        refine hst (fun _ kt => XS.iand X_8.here hx rfl (hb hby at_78) rfl kt) ?_
        show G (T_8.setTop (mkF m 79 #[.val (.int fl), .val (.int k0), .val (.int k1), .val (.int k2), .val (.int k3), .val (.ref k), .val .null, .val .null, .val (.ref dd), .val (.ref a), .val (.ref dd), .unset] [(.int (fl &&& (1 : Int32)))]))
        have hc79 : (fl &&& (1 : Int32)) = (0 : Int32) := hf0
        refine hst (fun _ kt => XS.ifYes X_8.here hx rfl (pc0 := 79) (pc' := 89) rfl (hb hby at_79) rfl ((if0 _ _).trans (teq hc79).1) (by decide) (by decide) kt) ?_
        show G (T_8.setTop (mkF m 89 #[.val (.int fl), .val (.int k0), .val (.int k1), .val (.int k2), .val (.int k3), .val (.ref k), .val .null, .val .null, .val (.ref dd), .val (.ref a), .val (.ref dd), .unset] []))
        refine hst (fun _ kt => XS.iloadN X_8.here hx rfl (hb hby at_89) rfl kt) ?_
        show G (T_8.setTop (mkF m 90 #[.val (.int fl), .val (.int k0), .val (.int k1), .val (.int k2), .val (.int k3), .val (.ref k), .val .null, .val .null, .val (.ref dd), .val (.ref a), .val (.ref dd), .unset] [(.int fl)]))
        refine hst (fun _ kt => XS.iconst X_8.here hx rfl (hb hby at_90) kt) ?_
        show G (T_8.setTop (mkF m 91 #[.val (.int fl), .val (.int k0), .val (.int k1), .val (.int k2), .val (.int k3), .val (.ref k), .val .null, .val .null, .val (.ref dd), .val (.ref a), .val (.ref dd), .unset] [(.int (2 : Int32)), (.int fl)]))
        refine hst (fun _ kt => XS.iand X_8.here hx rfl (hb hby at_91) rfl kt) ?_
        show G (T_8.setTop (mkF m 92 #[.val (.int fl), .val (.int k0), .val (.int k1), .val (.int k2), .val (.int k3), .val (.ref k), .val .null, .val .null, .val (.ref dd), .val (.ref a), .val (.ref dd), .unset] [(.int (fl &&& (2 : Int32)))]))
        have hc92 : (fl &&& (2 : Int32)) = (0 : Int32) := hf1
        refine hst (fun _ kt => XS.ifYes X_8.here hx rfl (pc0 := 92) (pc' := 102) rfl (hb hby at_92) rfl ((if0 _ _).trans (teq hc92).1) (by decide) (by decide) kt) ?_
        show G (T_8.setTop (mkF m 102 #[.val (.int fl), .val (.int k0), .val (.int k1), .val (.int k2), .val (.int k3), .val (.ref k), .val .null, .val .null, .val (.ref dd), .val (.ref a), .val (.ref dd), .unset] []))
        refine hst (fun _ kt => XS.aload X_8.here hx rfl (hb hby at_102) rfl rfl kt) ?_
        show G (T_8.setTop (mkF m 104 #[.val (.int fl), .val (.int k0), .val (.int k1), .val (.int k2), .val (.int k3), .val (.ref k), .val .null, .val .null, .val (.ref dd), .val (.ref a), .val (.ref dd), .unset] [(.ref dd)]))
        refine hst (fun _ kt => XS.astore X_8.here hx rfl (hb hby at_104) rfl rfl (l' := #[.val (.int fl), .val (.int k0), .val (.int k1), .val (.int k2), .val (.int k3), .val (.ref k), .val .null, .val .null, .val (.ref dd), .val (.ref a), .val (.ref dd), .val (.ref dd)]) rfl kt) ?_
        show G (T_8.setTop (mkF m 106 #[.val (.int fl), .val (.int k0), .val (.int k1), .val (.int k2), .val (.int k3), .val (.ref k), .val .null, .val .null, .val (.ref dd), .val (.ref a), .val (.ref dd), .val (.ref dd)] []))
        refine hst (fun _ kt => XS.aload X_8.here hx rfl (hb hby at_106) rfl rfl kt) ?_
        show G (T_8.setTop (mkF m 108 #[.val (.int fl), .val (.int k0), .val (.int k1), .val (.int k2), .val (.int k3), .val (.ref k), .val .null, .val .null, .val (.ref dd), .val (.ref a), .val (.ref dd), .val (.ref dd)] [(.ref dd)]))
        refine hst (fun _ kt => XS.aload X_8.here hx rfl (hb hby at_108) rfl rfl kt) ?_
        show G (T_8.setTop (mkF m 110 #[.val (.int fl), .val (.int k0), .val (.int k1), .val (.int k2), .val (.int k3), .val (.ref k), .val .null, .val .null, .val (.ref dd), .val (.ref a), .val (.ref dd), .val (.ref dd)] [(.ref dd), (.ref dd)]))
        refine hst (fun _ kt => Jvm.RoadKit.acmp (g := (mkF m 110 #[.val (.int fl), .val (.int k0), .val (.int k1), .val (.int k2), .val (.int k3), .val (.ref k), .val .null, .val .null, .val (.ref dd), .val (.ref a), .val (.ref dd), .val (.ref dd)] [(.ref dd), (.ref dd)])) X_8 hx rfl rfl rfl (pc0 := 110) (pc' := 113) (same := true) rfl (hb hby at_110) rfl (decide_eq_true rfl) (by decide) (by decide) kt) ?_
        show G (T_8.setTop (mkF m 113 #[.val (.int fl), .val (.int k0), .val (.int k1), .val (.int k2), .val (.int k3), .val (.ref k), .val .null, .val .null, .val (.ref dd), .val (.ref a), .val (.ref dd), .val (.ref dd)] []))
        refine hst (fun _ kt => XS.iconst X_8.here hx rfl (hb hby at_113) kt) ?_
        show G (T_8.setTop (mkF m 114 #[.val (.int fl), .val (.int k0), .val (.int k1), .val (.int k2), .val (.int k3), .val (.ref k), .val .null, .val .null, .val (.ref dd), .val (.ref a), .val (.ref dd), .val (.ref dd)] [(.int (1 : Int32))]))
        refine hst (fun _ kt => XS.goto X_8.here hx rfl (pc0 := 114) (pc' := 118) rfl (hb hby at_114) (by decide) (by decide) kt) ?_
        show G (T_8.setTop (mkF m 118 #[.val (.int fl), .val (.int k0), .val (.int k1), .val (.int k2), .val (.int k3), .val (.ref k), .val .null, .val .null, .val (.ref dd), .val (.ref a), .val (.ref dd), .val (.ref dd)] [(.int (1 : Int32))]))
        exact hend (own_goRet X_8 hx Bd.returns rfl (Or.inl ⟨rfl, by simp, _, rfl⟩) (hb hby at_118) Bd.notSynchronized (by rw [eh_8]; exact ⟨rfl, N_8⟩) (by decide) (by decide))
    ·
      refine hst (fun _ kt => XS.ifNo X_1.here hx rfl (hb hby at_27) rfl ((if0 _ _).trans (feq hf1).1) kt) ?_
      show G (T_1.setTop (mkF m 30 #[.val (.int fl), .val (.int k0), .val (.int k1), .val (.int k2), .val (.int k3), .val (.ref k), .val .null, .val .null, .unset, .unset, .unset, .unset] []))
      refine hst (fun _ kt => XS.iloadN X_1.here hx rfl (hb hby at_30) rfl kt) ?_
      show G (T_1.setTop (mkF m 31 #[.val (.int fl), .val (.int k0), .val (.int k1), .val (.int k2), .val (.int k3), .val (.ref k), .val .null, .val .null, .unset, .unset, .unset, .unset] [(.int k2)]))
      obtain ⟨_, _, ⟨T_9, L_9, k_9, n_9⟩, -, X_9, ⟨Lc_9, hQ_9, l_9, y_9, z_9⟩, st_9⟩ := Jvm.LawKit.callS X_1 hx (y := (⟨x.cls, "draw", "(I)Ljava/lang/String;"⟩ : MethodName)) hown (mvT hZ (own_w0 hw)) (mvT hZ (own_w1 hw)) (mvT hZ (own_w2 hw)) (mvT hZ (own_w3 hw)) (by decide) (backOf (W := 0) (rm1 l Z a0 hw [] k2 cz T_1.heap n0 Z0 S_c hcz) hZ (own_w3 hw) (own_w2 hw) (by decide) (by decide)) (g := (mkF m 31 #[.val (.int fl), .val (.int k0), .val (.int k1), .val (.int k2), .val (.int k3), .val (.ref k), .val .null, .val .null, .unset, .unset, .unset, .unset] [(.int k2)])) rfl (by rw [hml]; rfl) (argsL := [(.int k2)]) (rest := []) (lenOf pd_2 rfl) rfl (by show 2 * 0 + _ ≤ _; exact Nat.le_of_eq rfl) (hb hby at_31) (fun _ _ => ⟨rfl, rfl, (by decide : 3 + 3 ≤ _), (by decide : 8 + 8 ≤ _)⟩)
      dsimp only [Pt.U, Pt.locs, Pt.cells, Pt.slots] at X_9 l_9 y_9 z_9 st_9 hQ_9
      subst l_9 y_9 z_9
      obtain ⟨b, rfl, N_9q, K_9⟩ := hQ_9
      have Z0 := Nat.le_trans Z0 K_9.1
      have S_c := own_Sta_keep S_c K_9 
      have N_9 := Fr.app N_1 N_9q
      refine hst (fun _ kt => st_9 _ kt) ?_
      show G (T_9.setTop (mkF m 34 #[.val (.int fl), .val (.int k0), .val (.int k1), .val (.int k2), .val (.int k3), .val (.ref k), .val .null, .val .null, .unset, .unset, .unset, .unset] [(.ref b)]))
      refine hst (fun _ kt => XS.astore X_9.here hx rfl (hb hby at_34) rfl rfl (l' := #[.val (.int fl), .val (.int k0), .val (.int k1), .val (.int k2), .val (.int k3), .val (.ref k), .val .null, .val (.ref b), .unset, .unset, .unset, .unset]) rfl kt) ?_
      show G (T_9.setTop (mkF m 36 #[.val (.int fl), .val (.int k0), .val (.int k1), .val (.int k2), .val (.int k3), .val (.ref k), .val .null, .val (.ref b), .unset, .unset, .unset, .unset] []))
      refine hst (fun _ kt => XS.aconstNull X_9.here hx rfl (hb hby at_36) kt) ?_
      show G (T_9.setTop (mkF m 37 #[.val (.int fl), .val (.int k0), .val (.int k1), .val (.int k2), .val (.int k3), .val (.ref k), .val .null, .val (.ref b), .unset, .unset, .unset, .unset] [.null]))
      refine hst (fun _ kt => XS.astore X_9.here hx rfl (hb hby at_37) rfl rfl (l' := #[.val (.int fl), .val (.int k0), .val (.int k1), .val (.int k2), .val (.int k3), .val (.ref k), .val .null, .val (.ref b), .val .null, .unset, .unset, .unset]) rfl kt) ?_
      show G (T_9.setTop (mkF m 39 #[.val (.int fl), .val (.int k0), .val (.int k1), .val (.int k2), .val (.int k3), .val (.ref k), .val .null, .val (.ref b), .val .null, .unset, .unset, .unset] []))
      refine hst (fun _ kt => XS.iloadN X_9.here hx rfl (hb hby at_39) rfl kt) ?_
      show G (T_9.setTop (mkF m 40 #[.val (.int fl), .val (.int k0), .val (.int k1), .val (.int k2), .val (.int k3), .val (.ref k), .val .null, .val (.ref b), .val .null, .unset, .unset, .unset] [(.int fl)]))
      refine hst (fun _ kt => XS.iconst X_9.here hx rfl (hb hby at_40) kt) ?_
      show G (T_9.setTop (mkF m 41 #[.val (.int fl), .val (.int k0), .val (.int k1), .val (.int k2), .val (.int k3), .val (.ref k), .val .null, .val (.ref b), .val .null, .unset, .unset, .unset] [(.int (4 : Int32)), (.int fl)]))
      refine hst (fun _ kt => XS.iand X_9.here hx rfl (hb hby at_41) rfl kt) ?_
      show G (T_9.setTop (mkF m 42 #[.val (.int fl), .val (.int k0), .val (.int k1), .val (.int k2), .val (.int k3), .val (.ref k), .val .null, .val (.ref b), .val .null, .unset, .unset, .unset] [(.int (fl &&& (4 : Int32)))]))
      by_cases hf2 : (fl &&& (4 : Int32)) = (0 : Int32)
      ·
        refine hst (fun _ kt => XS.ifYes X_9.here hx rfl (pc0 := 42) (pc' := 52) rfl (hb hby at_42) rfl ((if0 _ _).trans (teq hf2).1) (by decide) (by decide) kt) ?_
        show G (T_9.setTop (mkF m 52 #[.val (.int fl), .val (.int k0), .val (.int k1), .val (.int k2), .val (.int k3), .val (.ref k), .val .null, .val (.ref b), .val .null, .unset, .unset, .unset] []))
        obtain ⟨T_10, h_10, X_10, e_10, E_10, A_10, D_10, -, st_10⟩ := newO X_9 hx hZ hown (own_w34 hw) (own_w35 hw) (own_w36 hw) rfl (g := (mkF m 52 #[.val (.int fl), .val (.int k0), .val (.int k1), .val (.int k2), .val (.int k3), .val (.ref k), .val .null, .val (.ref b), .val .null, .unset, .unset, .unset] [])) rfl (hb hby at_52) (by decide) (by decide)
        obtain ⟨a, g_a⟩ : ∃ z, z = T_9.heap.size := ⟨_, rfl⟩
        rw [← g_a] at A_10 D_10 st_10
        have le_n0_a : n0 ≤ a := Nat.le_trans Z0 (Nat.le_of_eq g_a.symm)
        have Z0 := Nat.le_trans Z0 E_10.1
        have S_c := S_c.ext E_10
        have E_a : Exa Z h_10 a own_V := A_10
        have F_key_a : Fld Z h_10 a own_V "key" "Ljava/lang/String;" .null := D_10 (Or.inr (own_w47 hw)) (ty := (.object "java/lang/String")) (by decide)
        have F_topic_a : Fld Z h_10 a own_V "topic" "Ljava/lang/String;" .null := D_10 (Or.inr (own_w49 hw)) (ty := (.object "java/lang/String")) (by decide)
        have F_broker_a : Fld Z h_10 a own_V "broker" "Ljava/lang/String;" .null := D_10 (Or.inr (own_w51 hw)) (ty := (.object "java/lang/String")) (by decide)
        have F_defaultValue_a : Fld Z h_10 a own_V "defaultValue" "Ljava/lang/String;" .null := D_10 (Or.inr (own_w53 hw)) (ty := (.object "java/lang/String")) (by decide)
        refine hst st_10 ?_
        show G (T_10.setTop (mkF m 55 #[.val (.int fl), .val (.int k0), .val (.int k1), .val (.int k2), .val (.int k3), .val (.ref k), .val .null, .val (.ref b), .val .null, .unset, .unset, .unset] [(.ref a)]))
        refine hst (fun _ kt => XS.dup X_10.here hx rfl (hb hby at_55) rfl rfl kt) ?_
        show G (T_10.setTop (mkF m 56 #[.val (.int fl), .val (.int k0), .val (.int k1), .val (.int k2), .val (.int k3), .val (.ref k), .val .null, .val (.ref b), .val .null, .unset, .unset, .unset] [(.ref a), (.ref a)]))
        refine hst (fun _ kt => XS.aload X_10.here hx rfl (hb hby at_56) rfl rfl kt) ?_
        show G (T_10.setTop (mkF m 58 #[.val (.int fl), .val (.int k0), .val (.int k1), .val (.int k2), .val (.int k3), .val (.ref k), .val .null, .val (.ref b), .val .null, .unset, .unset, .unset] [(.ref k), (.ref a), (.ref a)]))
        refine hst (fun _ kt => XS.aload X_10.here hx rfl (hb hby at_58) rfl rfl kt) ?_
        show G (T_10.setTop (mkF m 60 #[.val (.int fl), .val (.int k0), .val (.int k1), .val (.int k2), .val (.int k3), .val (.ref k), .val .null, .val (.ref b), .val .null, .unset, .unset, .unset] [.null, (.ref k), (.ref a), (.ref a)]))
        refine hst (fun _ kt => XS.aload X_10.here hx rfl (hb hby at_60) rfl rfl kt) ?_
        show G (T_10.setTop (mkF m 62 #[.val (.int fl), .val (.int k0), .val (.int k1), .val (.int k2), .val (.int k3), .val (.ref k), .val .null, .val (.ref b), .val .null, .unset, .unset, .unset] [(.ref b), .null, (.ref k), (.ref a), (.ref a)]))
        refine hst (fun _ kt => XS.aload X_10.here hx rfl (hb hby at_62) rfl rfl kt) ?_
        show G (T_10.setTop (mkF m 64 #[.val (.int fl), .val (.int k0), .val (.int k1), .val (.int k2), .val (.int k3), .val (.ref k), .val .null, .val (.ref b), .val .null, .unset, .unset, .unset] [.null, (.ref b), .null, (.ref k), (.ref a), (.ref a)]))
        obtain ⟨_, _, ⟨T_11, L_11, k_11, n_11⟩, -, X_11, ⟨Lc_11, hQ_11, l_11, y_11, z_11⟩, st_11⟩ := X_10.specialBack hx (y := (⟨own_V, "<init>", "(Ljava/lang/String;Ljava/lang/String;Ljava/lang/String;Ljava/lang/String;)V"⟩ : MethodName)) rfl hown (mvT hZ (own_w37 hw)) (mvT hZ (own_w38 hw)) (mvT hZ (own_w39 hw)) (by decide) (backOf (W := 1) (rmI010 l Z a0 hw [] a k b  h_10 n0 Z0 F_key_a F_topic_a F_broker_a F_defaultValue_a E_a le_n0_a) hZ (own_w39 hw) (own_w36 hw) (by decide) (by decide)) (g := (mkF m 64 #[.val (.int fl), .val (.int k0), .val (.int k1), .val (.int k2), .val (.int k3), .val (.ref k), .val .null, .val (.ref b), .val .null, .unset, .unset, .unset] [.null, (.ref b), .null, (.ref k), (.ref a), (.ref a)])) rfl (by rw [hml]; rfl) (Steps.refl _) (a := a) (argsL := [(.ref k), .null, (.ref b), .null]) (rest := [(.ref a)]) (lenOf pd_3 rfl) rfl (by show 2 * 0 + _ ≤ _; exact Nat.le_of_eq rfl) (hb hby at_64) (fun _ _ => ⟨rfl, e_10, (by decide : 7 + 0 ≤ _), (by decide : 20 + 0 ≤ _)⟩)
        dsimp only [Pt.U, Pt.locs, Pt.cells, Pt.slots] at X_11 l_11 y_11 z_11 st_11 hQ_11
        subst l_11 y_11 z_11
        obtain ⟨rfl, N_11q, K_11, Ex_11, Q1, Q2, Q3⟩ := hQ_11
        have Z0 := Nat.le_trans Z0 K_11.1
        have E_a := E_a.keep K_11
        have F_topic_a := Q1
        have F_broker_a := Q2
        have F_defaultValue_a := Q3
        have N_11 := Fr.app N_9 N_11q
        refine hst (fun _ kt => st_11.trans kt) ?_
        show G (T_11.setTop (mkF m 67 #[.val (.int fl), .val (.int k0), .val (.int k1), .val (.int k2), .val (.int k3), .val (.ref k), .val .null, .val (.ref b), .val .null, .unset, .unset, .unset] [(.ref a)]))
        refine hst (fun _ kt => XS.astore X_11.here hx rfl (hb hby at_67) rfl rfl (l' := #[.val (.int fl), .val (.int k0), .val (.int k1), .val (.int k2), .val (.int k3), .val (.ref k), .val .null, .val (.ref b), .val .null, .val (.ref a), .unset, .unset]) rfl kt) ?_
        show G (T_11.setTop (mkF m 69 #[.val (.int fl), .val (.int k0), .val (.int k1), .val (.int k2), .val (.int k3), .val (.ref k), .val .null, .val (.ref b), .val .null, .val (.ref a), .unset, .unset] []))
        refine hst (fun _ kt => XS.aload X_11.here hx rfl (hb hby at_69) rfl rfl kt) ?_
        show G (T_11.setTop (mkF m 71 #[.val (.int fl), .val (.int k0), .val (.int k1), .val (.int k2), .val (.int k3), .val (.ref k), .val .null, .val (.ref b), .val .null, .val (.ref a), .unset, .unset] [(.ref a)]))
        obtain ⟨cq_12, kq_12, q_12a, q_12b, q_12c⟩ := isOf hZ rfl E_a
        obtain ⟨_, _, ⟨T_12, L_12, k_12, n_12⟩, -, X_12, ⟨Lc_12, hQ_12, l_12, y_12, z_12⟩, st_12⟩ := X_11.virtualBack hx (y := (⟨own_V, "value", "()Ljava/lang/String;"⟩ : MethodName)) (z := (⟨own_V, "value", "()Ljava/lang/String;"⟩ : MethodName)) hown (mvT hZ (own_w54 hw)) (mvT hZ (own_w55 hw)) (notFace_of_selects (args := #[]) (mvT hZ (own_w57 hw))) (mvT hZ (own_w57 hw)) (mvT hZ (own_w56 hw)) (by decide) (backOf (W := 0) (rmV010 l Z a0 hw [] a b T_11.heap n0 Z0 F_topic_a F_broker_a F_defaultValue_a) hZ (own_w58 hw) (own_w36 hw) (by decide) (by decide)) q_12a q_12c (g := (mkF m 71 #[.val (.int fl), .val (.int k0), .val (.int k1), .val (.int k2), .val (.int k3), .val (.ref k), .val .null, .val (.ref b), .val .null, .val (.ref a), .unset, .unset] [(.ref a)])) rfl (by rw [hml]; rfl) (Steps.refl _) (argsL := []) (rest := []) (lenOf pd_4 rfl) rfl (by show 2 * 0 + _ ≤ _; exact Nat.le_of_eq rfl) (hb hby at_71) (fun _ _ => ⟨rfl, rfl, (by decide : 7 + 0 ≤ _), (by decide : 20 + 0 ≤ _)⟩)
        dsimp only [Pt.U, Pt.locs, Pt.cells, Pt.slots] at X_12 l_12 y_12 z_12 st_12 hQ_12
        subst l_12 y_12 z_12
        obtain ⟨rfl, N_12q, eh_12⟩ := hQ_12
        have N_12 := Fr.app N_11 N_12q
        refine hst (fun _ kt => st_12.trans kt) ?_
        show G (T_12.setTop (mkF m 74 #[.val (.int fl), .val (.int k0), .val (.int k1), .val (.int k2), .val (.int k3), .val (.ref k), .val .null, .val (.ref b), .val .null, .val (.ref a), .unset, .unset] [(.ref b)]))
        refine hst (fun _ kt => XS.astore X_12.here hx rfl (hb hby at_74) rfl rfl (l' := #[.val (.int fl), .val (.int k0), .val (.int k1), .val (.int k2), .val (.int k3), .val (.ref k), .val .null, .val (.ref b), .val .null, .val (.ref a), .val (.ref b), .unset]) rfl kt) ?_
        show G (T_12.setTop (mkF m 76 #[.val (.int fl), .val (.int k0), .val (.int k1), .val (.int k2), .val (.int k3), .val (.ref k), .val .null, .val (.ref b), .val .null, .val (.ref a), .val (.ref b), .unset] []))
        refine hst (fun _ kt => XS.iloadN X_12.here hx rfl (hb hby at_76) rfl kt) ?_
        show G (T_12.setTop (mkF m 77 #[.val (.int fl), .val (.int k0), .val (.int k1), .val (.int k2), .val (.int k3), .val (.ref k), .val .null, .val (.ref b), .val .null, .val (.ref a), .val (.ref b), .unset] [(.int fl)]))
        refine hst (fun _ kt => XS.iconst X_12.here hx rfl (hb hby at_77) kt) ?_
        show G (T_12.setTop (mkF m 78 #[.val (.int fl), .val (.int k0), .val (.int k1), .val (.int k2), .val (.int k3), .val (.ref k), .val .null, .val (.ref b), .val .null, .val (.ref a), .val (.ref b), .unset] [(.int (1 : Int32)), (.int fl)]))
        refine hst (fun _ kt => XS.iand X_12.here hx rfl (hb hby at_78) rfl kt) ?_
        show G (T_12.setTop (mkF m 79 #[.val (.int fl), .val (.int k0), .val (.int k1), .val (.int k2), .val (.int k3), .val (.ref k), .val .null, .val (.ref b), .val .null, .val (.ref a), .val (.ref b), .unset] [(.int (fl &&& (1 : Int32)))]))
        have hc79 : (fl &&& (1 : Int32)) = (0 : Int32) := hf0
        refine hst (fun _ kt => XS.ifYes X_12.here hx rfl (pc0 := 79) (pc' := 89) rfl (hb hby at_79) rfl ((if0 _ _).trans (teq hc79).1) (by decide) (by decide) kt) ?_
        show G (T_12.setTop (mkF m 89 #[.val (.int fl), .val (.int k0), .val (.int k1), .val (.int k2), .val (.int k3), .val (.ref k), .val .null, .val (.ref b), .val .null, .val (.ref a), .val (.ref b), .unset] []))
        refine hst (fun _ kt => XS.iloadN X_12.here hx rfl (hb hby at_89) rfl kt) ?_
        show G (T_12.setTop (mkF m 90 #[.val (.int fl), .val (.int k0), .val (.int k1), .val (.int k2), .val (.int k3), .val (.ref k), .val .null, .val (.ref b), .val .null, .val (.ref a), .val (.ref b), .unset] [(.int fl)]))
        refine hst (fun _ kt => XS.iconst X_12.here hx rfl (hb hby at_90) kt) ?_
        show G (T_12.setTop (mkF m 91 #[.val (.int fl), .val (.int k0), .val (.int k1), .val (.int k2), .val (.int k3), .val (.ref k), .val .null, .val (.ref b), .val .null, .val (.ref a), .val (.ref b), .unset] [(.int (2 : Int32)), (.int fl)]))
        refine hst (fun _ kt => XS.iand X_12.here hx rfl (hb hby at_91) rfl kt) ?_
        show G (T_12.setTop (mkF m 92 #[.val (.int fl), .val (.int k0), .val (.int k1), .val (.int k2), .val (.int k3), .val (.ref k), .val .null, .val (.ref b), .val .null, .val (.ref a), .val (.ref b), .unset] [(.int (fl &&& (2 : Int32)))]))
        have hc92 : ¬ ((fl &&& (2 : Int32)) = (0 : Int32)) := hf1
        refine hst (fun _ kt => XS.ifNo X_12.here hx rfl (hb hby at_92) rfl ((if0 _ _).trans (feq hc92).1) kt) ?_
        show G (T_12.setTop (mkF m 95 #[.val (.int fl), .val (.int k0), .val (.int k1), .val (.int k2), .val (.int k3), .val (.ref k), .val .null, .val (.ref b), .val .null, .val (.ref a), .val (.ref b), .unset] []))
        refine hst (fun _ kt => XS.aload X_12.here hx rfl (hb hby at_95) rfl rfl kt) ?_
        show G (T_12.setTop (mkF m 97 #[.val (.int fl), .val (.int k0), .val (.int k1), .val (.int k2), .val (.int k3), .val (.ref k), .val .null, .val (.ref b), .val .null, .val (.ref a), .val (.ref b), .unset] [(.ref b)]))
        refine hst (fun _ kt => XS.astore X_12.here hx rfl (hb hby at_97) rfl rfl (l' := #[.val (.int fl), .val (.int k0), .val (.int k1), .val (.int k2), .val (.int k3), .val (.ref k), .val .null, .val (.ref b), .val .null, .val (.ref a), .val (.ref b), .val (.ref b)]) rfl kt) ?_
        show G (T_12.setTop (mkF m 99 #[.val (.int fl), .val (.int k0), .val (.int k1), .val (.int k2), .val (.int k3), .val (.ref k), .val .null, .val (.ref b), .val .null, .val (.ref a), .val (.ref b), .val (.ref b)] []))
        refine hst (fun _ kt => XS.goto X_12.here hx rfl (pc0 := 99) (pc' := 106) rfl (hb hby at_99) (by decide) (by decide) kt) ?_
        show G (T_12.setTop (mkF m 106 #[.val (.int fl), .val (.int k0), .val (.int k1), .val (.int k2), .val (.int k3), .val (.ref k), .val .null, .val (.ref b), .val .null, .val (.ref a), .val (.ref b), .val (.ref b)] []))
        refine hst (fun _ kt => XS.aload X_12.here hx rfl (hb hby at_106) rfl rfl kt) ?_
        show G (T_12.setTop (mkF m 108 #[.val (.int fl), .val (.int k0), .val (.int k1), .val (.int k2), .val (.int k3), .val (.ref k), .val .null, .val (.ref b), .val .null, .val (.ref a), .val (.ref b), .val (.ref b)] [(.ref b)]))
        refine hst (fun _ kt => XS.aload X_12.here hx rfl (hb hby at_108) rfl rfl kt) ?_
        show G (T_12.setTop (mkF m 110 #[.val (.int fl), .val (.int k0), .val (.int k1), .val (.int k2), .val (.int k3), .val (.ref k), .val .null, .val (.ref b), .val .null, .val (.ref a), .val (.ref b), .val (.ref b)] [(.ref b), (.ref b)]))
        refine hst (fun _ kt => Jvm.RoadKit.acmp (g := (mkF m 110 #[.val (.int fl), .val (.int k0), .val (.int k1), .val (.int k2), .val (.int k3), .val (.ref k), .val .null, .val (.ref b), .val .null, .val (.ref a), .val (.ref b), .val (.ref b)] [(.ref b), (.ref b)])) X_12 hx rfl rfl rfl (pc0 := 110) (pc' := 113) (same := true) rfl (hb hby at_110) rfl (decide_eq_true rfl) (by decide) (by decide) kt) ?_
        show G (T_12.setTop (mkF m 113 #[.val (.int fl), .val (.int k0), .val (.int k1), .val (.int k2), .val (.int k3), .val (.ref k), .val .null, .val (.ref b), .val .null, .val (.ref a), .val (.ref b), .val (.ref b)] []))
        refine hst (fun _ kt => XS.iconst X_12.here hx rfl (hb hby at_113) kt) ?_
        show G (T_12.setTop (mkF m 114 #[.val (.int fl), .val (.int k0), .val (.int k1), .val (.int k2), .val (.int k3), .val (.ref k), .val .null, .val (.ref b), .val .null, .val (.ref a), .val (.ref b), .val (.ref b)] [(.int (1 : Int32))]))
        refine hst (fun _ kt => XS.goto X_12.here hx rfl (pc0 := 114) (pc' := 118) rfl (hb hby at_114) (by decide) (by decide) kt) ?_
        show G (T_12.setTop (mkF m 118 #[.val (.int fl), .val (.int k0), .val (.int k1), .val (.int k2), .val (.int k3), .val (.ref k), .val .null, .val (.ref b), .val .null, .val (.ref a), .val (.ref b), .val (.ref b)] [(.int (1 : Int32))]))
        exact hend (own_goRet X_12 hx Bd.returns rfl (Or.inl ⟨rfl, by simp, _, rfl⟩) (hb hby at_118) Bd.notSynchronized (by rw [eh_12]; exact ⟨rfl, N_12⟩) (by decide) (by decide))
      ·
        refine hst (fun _ kt => XS.ifNo X_9.here hx rfl (hb hby at_42) rfl ((if0 _ _).trans (feq hf2).1) kt) ?_
        show G (T_9.setTop (mkF m 45 #[.val (.int fl), .val (.int k0), .val (.int k1), .val (.int k2), .val (.int k3), .val (.ref k), .val .null, .val (.ref b), .val .null, .unset, .unset, .unset] []))
        refine hst (fun _ kt => XS.iload X_9.here hx rfl (hb hby at_45) rfl kt) ?_
        show G (T_9.setTop (mkF m 47 #[.val (.int fl), .val (.int k0), .val (.int k1), .val (.int k2), .val (.int k3), .val (.ref k), .val .null, .val (.ref b), .val .null, .unset, .unset, .unset] [(.int k3)]))
        obtain ⟨_, _, ⟨T_13, L_13, k_13, n_13⟩, -, X_13, ⟨Lc_13, hQ_13, l_13, y_13, z_13⟩, st_13⟩ := Jvm.LawKit.callS X_9 hx (y := (⟨x.cls, "draw", "(I)Ljava/lang/String;"⟩ : MethodName)) hown (mvT hZ (own_w0 hw)) (mvT hZ (own_w1 hw)) (mvT hZ (own_w2 hw)) (mvT hZ (own_w3 hw)) (by decide) (backOf (W := 0) (rm1 l Z a0 hw [] k3 cz T_9.heap n0 Z0 S_c hcz) hZ (own_w3 hw) (own_w2 hw) (by decide) (by decide)) (g := (mkF m 47 #[.val (.int fl), .val (.int k0), .val (.int k1), .val (.int k2), .val (.int k3), .val (.ref k), .val .null, .val (.ref b), .val .null, .unset, .unset, .unset] [(.int k3)])) rfl (by rw [hml]; rfl) (argsL := [(.int k3)]) (rest := []) (lenOf pd_2 rfl) rfl (by show 2 * 0 + _ ≤ _; exact Nat.le_of_eq rfl) (hb hby at_47) (fun _ _ => ⟨rfl, rfl, (by decide : 6 + 3 ≤ _), (by decide : 16 + 8 ≤ _)⟩)
        dsimp only [Pt.U, Pt.locs, Pt.cells, Pt.slots] at X_13 l_13 y_13 z_13 st_13 hQ_13
        subst l_13 y_13 z_13
        obtain ⟨dd, rfl, N_13q, K_13⟩ := hQ_13
        have Z0 := Nat.le_trans Z0 K_13.1
        have S_c := own_Sta_keep S_c K_13 
        have N_13 := Fr.app N_9 N_13q
        refine hst (fun _ kt => st_13 _ kt) ?_
        show G (T_13.setTop (mkF m 50 #[.val (.int fl), .val (.int k0), .val (.int k1), .val (.int k2), .val (.int k3), .val (.ref k), .val .null, .val (.ref b), .val .null, .unset, .unset, .unset] [(.ref dd)]))
        refine hst (fun _ kt => XS.astore X_13.here hx rfl (hb hby at_50) rfl rfl (l' := #[.val (.int fl), .val (.int k0), .val (.int k1), .val (.int k2), .val (.int k3), .val (.ref k), .val .null, .val (.ref b), .val (.ref dd), .unset, .unset, .unset]) rfl kt) ?_
        show G (T_13.setTop (mkF m 52 #[.val (.int fl), .val (.int k0), .val (.int k1), .val (.int k2), .val (.int k3), .val (.ref k), .val .null, .val (.ref b), .val (.ref dd), .unset, .unset, .unset] []))
        obtain ⟨T_14, h_14, X_14, e_14, E_14, A_14, D_14, -, st_14⟩ := newO X_13 hx hZ hown (own_w34 hw) (own_w35 hw) (own_w36 hw) rfl (g := (mkF m 52 #[.val (.int fl), .val (.int k0), .val (.int k1), .val (.int k2), .val (.int k3), .val (.ref k), .val .null, .val (.ref b), .val (.ref dd), .unset, .unset, .unset] [])) rfl (hb hby at_52) (by decide) (by decide)
        obtain ⟨a, g_a⟩ : ∃ z, z = T_13.heap.size := ⟨_, rfl⟩
        rw [← g_a] at A_14 D_14 st_14
        have le_n0_a : n0 ≤ a := Nat.le_trans Z0 (Nat.le_of_eq g_a.symm)
        have Z0 := Nat.le_trans Z0 E_14.1
        have S_c := S_c.ext E_14
        have E_a : Exa Z h_14 a own_V := A_14
        have F_key_a : Fld Z h_14 a own_V "key" "Ljava/lang/String;" .null := D_14 (Or.inr (own_w47 hw)) (ty := (.object "java/lang/String")) (by decide)
        have F_topic_a : Fld Z h_14 a own_V "topic" "Ljava/lang/String;" .null := D_14 (Or.inr (own_w49 hw)) (ty := (.object "java/lang/String")) (by decide)
        have F_broker_a : Fld Z h_14 a own_V "broker" "Ljava/lang/String;" .null := D_14 (Or.inr (own_w51 hw)) (ty := (.object "java/lang/String")) (by decide)
        have F_defaultValue_a : Fld Z h_14 a own_V "defaultValue" "Ljava/lang/String;" .null := D_14 (Or.inr (own_w53 hw)) (ty := (.object "java/lang/String")) (by decide)
        refine hst st_14 ?_
        show G (T_14.setTop (mkF m 55 #[.val (.int fl), .val (.int k0), .val (.int k1), .val (.int k2), .val (.int k3), .val (.ref k), .val .null, .val (.ref b), .val (.ref dd), .unset, .unset, .unset] [(.ref a)]))
        refine hst (fun _ kt => XS.dup X_14.here hx rfl (hb hby at_55) rfl rfl kt) ?_
        show G (T_14.setTop (mkF m 56 #[.val (.int fl), .val (.int k0), .val (.int k1), .val (.int k2), .val (.int k3), .val (.ref k), .val .null, .val (.ref b), .val (.ref dd), .unset, .unset, .unset] [(.ref a), (.ref a)]))
        refine hst (fun _ kt => XS.aload X_14.here hx rfl (hb hby at_56) rfl rfl kt) ?_
        show G (T_14.setTop (mkF m 58 #[.val (.int fl), .val (.int k0), .val (.int k1), .val (.int k2), .val (.int k3), .val (.ref k), .val .null, .val (.ref b), .val (.ref dd), .unset, .unset, .unset] [(.ref k), (.ref a), (.ref a)]))
        refine hst (fun _ kt => XS.aload X_14.here hx rfl (hb hby at_58) rfl rfl kt) ?_
        show G (T_14.setTop (mkF m 60 #[.val (.int fl), .val (.int k0), .val (.int k1), .val (.int k2), .val (.int k3), .val (.ref k), .val .null, .val (.ref b), .val (.ref dd), .unset, .unset, .unset] [.null, (.ref k), (.ref a), (.ref a)]))
        refine hst (fun _ kt => XS.aload X_14.here hx rfl (hb hby at_60) rfl rfl kt) ?_
        show G (T_14.setTop (mkF m 62 #[.val (.int fl), .val (.int k0), .val (.int k1), .val (.int k2), .val (.int k3), .val (.ref k), .val .null, .val (.ref b), .val (.ref dd), .unset, .unset, .unset] [(.ref b), .null, (.ref k), (.ref a), (.ref a)]))
        refine hst (fun _ kt => XS.aload X_14.here hx rfl (hb hby at_62) rfl rfl kt) ?_
        show G (T_14.setTop (mkF m 64 #[.val (.int fl), .val (.int k0), .val (.int k1), .val (.int k2), .val (.int k3), .val (.ref k), .val .null, .val (.ref b), .val (.ref dd), .unset, .unset, .unset] [(.ref dd), (.ref b), .null, (.ref k), (.ref a), (.ref a)]))
        obtain ⟨_, _, ⟨T_15, L_15, k_15, n_15⟩, -, X_15, ⟨Lc_15, hQ_15, l_15, y_15, z_15⟩, st_15⟩ := X_14.specialBack hx (y := (⟨own_V, "<init>", "(Ljava/lang/String;Ljava/lang/String;Ljava/lang/String;Ljava/lang/String;)V"⟩ : MethodName)) rfl hown (mvT hZ (own_w37 hw)) (mvT hZ (own_w38 hw)) (mvT hZ (own_w39 hw)) (by decide) (backOf (W := 1) (rmI011 l Z a0 hw [] a k b dd  h_14 n0 Z0 F_key_a F_topic_a F_broker_a F_defaultValue_a E_a le_n0_a) hZ (own_w39 hw) (own_w36 hw) (by decide) (by decide)) (g := (mkF m 64 #[.val (.int fl), .val (.int k0), .val (.int k1), .val (.int k2), .val (.int k3), .val (.ref k), .val .null, .val (.ref b), .val (.ref dd), .unset, .unset, .unset] [(.ref dd), (.ref b), .null, (.ref k), (.ref a), (.ref a)])) rfl (by rw [hml]; rfl) (Steps.refl _) (a := a) (argsL := [(.ref k), .null, (.ref b), (.ref dd)]) (rest := [(.ref a)]) (lenOf pd_3 rfl) rfl (by show 2 * 0 + _ ≤ _; exact Nat.le_of_eq rfl) (hb hby at_64) (fun _ _ => ⟨rfl, e_14, (by decide : 10 + 0 ≤ _), (by decide : 28 + 0 ≤ _)⟩)
        dsimp only [Pt.U, Pt.locs, Pt.cells, Pt.slots] at X_15 l_15 y_15 z_15 st_15 hQ_15
        subst l_15 y_15 z_15
        obtain ⟨rfl, N_15q, K_15, Ex_15, Q1, Q2, Q3⟩ := hQ_15
        have Z0 := Nat.le_trans Z0 K_15.1
        have E_a := E_a.keep K_15
        have F_topic_a := Q1
        have F_broker_a := Q2
        have F_defaultValue_a := Q3
        have N_15 := Fr.app N_13 N_15q
        refine hst (fun _ kt => st_15.trans kt) ?_
        show G (T_15.setTop (mkF m 67 #[.val (.int fl), .val (.int k0), .val (.int k1), .val (.int k2), .val (.int k3), .val (.ref k), .val .null, .val (.ref b), .val (.ref dd), .unset, .unset, .unset] [(.ref a)]))
        refine hst (fun _ kt => XS.astore X_15.here hx rfl (hb hby at_67) rfl rfl (l' := #[.val (.int fl), .val (.int k0), .val (.int k1), .val (.int k2), .val (.int k3), .val (.ref k), .val .null, .val (.ref b), .val (.ref dd), .val (.ref a), .unset, .unset]) rfl kt) ?_
        show G (T_15.setTop (mkF m 69 #[.val (.int fl), .val (.int k0), .val (.int k1), .val (.int k2), .val (.int k3), .val (.ref k), .val .null, .val (.ref b), .val (.ref dd), .val (.ref a), .unset, .unset] []))
        refine hst (fun _ kt => XS.aload X_15.here hx rfl (hb hby at_69) rfl rfl kt) ?_
        show G (T_15.setTop (mkF m 71 #[.val (.int fl), .val (.int k0), .val (.int k1), .val (.int k2), .val (.int k3), .val (.ref k), .val .null, .val (.ref b), .val (.ref dd), .val (.ref a), .unset, .unset] [(.ref a)]))
        obtain ⟨cq_16, kq_16, q_16a, q_16b, q_16c⟩ := isOf hZ rfl E_a
        obtain ⟨_, _, ⟨T_16, L_16, k_16, n_16⟩, -, X_16, ⟨Lc_16, hQ_16, l_16, y_16, z_16⟩, st_16⟩ := X_15.virtualBack hx (y := (⟨own_V, "value", "()Ljava/lang/String;"⟩ : MethodName)) (z := (⟨own_V, "value", "()Ljava/lang/String;"⟩ : MethodName)) hown (mvT hZ (own_w54 hw)) (mvT hZ (own_w55 hw)) (notFace_of_selects (args := #[]) (mvT hZ (own_w57 hw))) (mvT hZ (own_w57 hw)) (mvT hZ (own_w56 hw)) (by decide) (backOf (W := 0) (rmV011 l Z a0 hw [] a b dd T_15.heap n0 Z0 F_topic_a F_broker_a F_defaultValue_a) hZ (own_w58 hw) (own_w36 hw) (by decide) (by decide)) q_16a q_16c (g := (mkF m 71 #[.val (.int fl), .val (.int k0), .val (.int k1), .val (.int k2), .val (.int k3), .val (.ref k), .val .null, .val (.ref b), .val (.ref dd), .val (.ref a), .unset, .unset] [(.ref a)])) rfl (by rw [hml]; rfl) (Steps.refl _) (argsL := []) (rest := []) (lenOf pd_4 rfl) rfl (by show 2 * 0 + _ ≤ _; exact Nat.le_of_eq rfl) (hb hby at_71) (fun _ _ => ⟨rfl, rfl, (by decide : 10 + 0 ≤ _), (by decide : 28 + 0 ≤ _)⟩)
        dsimp only [Pt.U, Pt.locs, Pt.cells, Pt.slots] at X_16 l_16 y_16 z_16 st_16 hQ_16
        subst l_16 y_16 z_16
        obtain ⟨rfl, N_16q, eh_16⟩ := hQ_16
        have N_16 := Fr.app N_15 N_16q
        refine hst (fun _ kt => st_16.trans kt) ?_
        show G (T_16.setTop (mkF m 74 #[.val (.int fl), .val (.int k0), .val (.int k1), .val (.int k2), .val (.int k3), .val (.ref k), .val .null, .val (.ref b), .val (.ref dd), .val (.ref a), .unset, .unset] [(.ref b)]))
        refine hst (fun _ kt => XS.astore X_16.here hx rfl (hb hby at_74) rfl rfl (l' := #[.val (.int fl), .val (.int k0), .val (.int k1), .val (.int k2), .val (.int k3), .val (.ref k), .val .null, .val (.ref b), .val (.ref dd), .val (.ref a), .val (.ref b), .unset]) rfl kt) ?_
        show G (T_16.setTop (mkF m 76 #[.val (.int fl), .val (.int k0), .val (.int k1), .val (.int k2), .val (.int k3), .val (.ref k), .val .null, .val (.ref b), .val (.ref dd), .val (.ref a), .val (.ref b), .unset] []))
        refine hst (fun _ kt => XS.iloadN X_16.here hx rfl (hb hby at_76) rfl kt) ?_
        show G (T_16.setTop (mkF m 77 #[.val (.int fl), .val (.int k0), .val (.int k1), .val (.int k2), .val (.int k3), .val (.ref k), .val .null, .val (.ref b), .val (.ref dd), .val (.ref a), .val (.ref b), .unset] [(.int fl)]))
        refine hst (fun _ kt => XS.iconst X_16.here hx rfl (hb hby at_77) kt) ?_
        show G (T_16.setTop (mkF m 78 #[.val (.int fl), .val (.int k0), .val (.int k1), .val (.int k2), .val (.int k3), .val (.ref k), .val .null, .val (.ref b), .val (.ref dd), .val (.ref a), .val (.ref b), .unset] [(.int (1 : Int32)), (.int fl)]))
        refine hst (fun _ kt => XS.iand X_16.here hx rfl (hb hby at_78) rfl kt) ?_
        show G (T_16.setTop (mkF m 79 #[.val (.int fl), .val (.int k0), .val (.int k1), .val (.int k2), .val (.int k3), .val (.ref k), .val .null, .val (.ref b), .val (.ref dd), .val (.ref a), .val (.ref b), .unset] [(.int (fl &&& (1 : Int32)))]))
        have hc79 : (fl &&& (1 : Int32)) = (0 : Int32) := hf0
        refine hst (fun _ kt => XS.ifYes X_16.here hx rfl (pc0 := 79) (pc' := 89) rfl (hb hby at_79) rfl ((if0 _ _).trans (teq hc79).1) (by decide) (by decide) kt) ?_
        show G (T_16.setTop (mkF m 89 #[.val (.int fl), .val (.int k0), .val (.int k1), .val (.int k2), .val (.int k3), .val (.ref k), .val .null, .val (.ref b), .val (.ref dd), .val (.ref a), .val (.ref b), .unset] []))
        refine hst (fun _ kt => XS.iloadN X_16.here hx rfl (hb hby at_89) rfl kt) ?_
        show G (T_16.setTop (mkF m 90 #[.val (.int fl), .val (.int k0), .val (.int k1), .val (.int k2), .val (.int k3), .val (.ref k), .val .null, .val (.ref b), .val (.ref dd), .val (.ref a), .val (.ref b), .unset] [(.int fl)]))
        refine hst (fun _ kt => XS.iconst X_16.here hx rfl (hb hby at_90) kt) ?_
        show G (T_16.setTop (mkF m 91 #[.val (.int fl), .val (.int k0), .val (.int k1), .val (.int k2), .val (.int k3), .val (.ref k), .val .null, .val (.ref b), .val (.ref dd), .val (.ref a), .val (.ref b), .unset] [(.int (2 : Int32)), (.int fl)]))
        refine hst (fun _ kt => XS.iand X_16.here hx rfl (hb hby at_91) rfl kt) ?_
        show G (T_16.setTop (mkF m 92 #[.val (.int fl), .val (.int k0), .val (.int k1), .val (.int k2), .val (.int k3), .val (.ref k), .val .null, .val (.ref b), .val (.ref dd), .val (.ref a), .val (.ref b), .unset] [(.int (fl &&& (2 : Int32)))]))
        have hc92 : ¬ ((fl &&& (2 : Int32)) = (0 : Int32)) := hf1
        refine hst (fun _ kt => XS.ifNo X_16.here hx rfl (hb hby at_92) rfl ((if0 _ _).trans (feq hc92).1) kt) ?_
        show G (T_16.setTop (mkF m 95 #[.val (.int fl), .val (.int k0), .val (.int k1), .val (.int k2), .val (.int k3), .val (.ref k), .val .null, .val (.ref b), .val (.ref dd), .val (.ref a), .val (.ref b), .unset] []))
        refine hst (fun _ kt => XS.aload X_16.here hx rfl (hb hby at_95) rfl rfl kt) ?_
        show G (T_16.setTop (mkF m 97 #[.val (.int fl), .val (.int k0), .val (.int k1), .val (.int k2), .val (.int k3), .val (.ref k), .val .null, .val (.ref b), .val (.ref dd), .val (.ref a), .val (.ref b), .unset] [(.ref b)]))
        refine hst (fun _ kt => XS.astore X_16.here hx rfl (hb hby at_97) rfl rfl (l' := #[.val (.int fl), .val (.int k0), .val (.int k1), .val (.int k2), .val (.int k3), .val (.ref k), .val .null, .val (.ref b), .val (.ref dd), .val (.ref a), .val (.ref b), .val (.ref b)]) rfl kt) ?_
        show G (T_16.setTop (mkF m 99 #[.val (.int fl), .val (.int k0), .val (.int k1), .val (.int k2), .val (.int k3), .val (.ref k), .val .null, .val (.ref b), .val (.ref dd), .val (.ref a), .val (.ref b), .val (.ref b)] []))
        refine hst (fun _ kt => XS.goto X_16.here hx rfl (pc0 := 99) (pc' := 106) rfl (hb hby at_99) (by decide) (by decide) kt) ?_
        show G (T_16.setTop (mkF m 106 #[.val (.int fl), .val (.int k0), .val (.int k1), .val (.int k2), .val (.int k3), .val (.ref k), .val .null, .val (.ref b), .val (.ref dd), .val (.ref a), .val (.ref b), .val (.ref b)] []))
        refine hst (fun _ kt => XS.aload X_16.here hx rfl (hb hby at_106) rfl rfl kt) ?_
        show G (T_16.setTop (mkF m 108 #[.val (.int fl), .val (.int k0), .val (.int k1), .val (.int k2), .val (.int k3), .val (.ref k), .val .null, .val (.ref b), .val (.ref dd), .val (.ref a), .val (.ref b), .val (.ref b)] [(.ref b)]))
        refine hst (fun _ kt => XS.aload X_16.here hx rfl (hb hby at_108) rfl rfl kt) ?_
        show G (T_16.setTop (mkF m 110 #[.val (.int fl), .val (.int k0), .val (.int k1), .val (.int k2), .val (.int k3), .val (.ref k), .val .null, .val (.ref b), .val (.ref dd), .val (.ref a), .val (.ref b), .val (.ref b)] [(.ref b), (.ref b)]))
        refine hst (fun _ kt => Jvm.RoadKit.acmp (g := (mkF m 110 #[.val (.int fl), .val (.int k0), .val (.int k1), .val (.int k2), .val (.int k3), .val (.ref k), .val .null, .val (.ref b), .val (.ref dd), .val (.ref a), .val (.ref b), .val (.ref b)] [(.ref b), (.ref b)])) X_16 hx rfl rfl rfl (pc0 := 110) (pc' := 113) (same := true) rfl (hb hby at_110) rfl (decide_eq_true rfl) (by decide) (by decide) kt) ?_
        show G (T_16.setTop (mkF m 113 #[.val (.int fl), .val (.int k0), .val (.int k1), .val (.int k2), .val (.int k3), .val (.ref k), .val .null, .val (.ref b), .val (.ref dd), .val (.ref a), .val (.ref b), .val (.ref b)] []))
        refine hst (fun _ kt => XS.iconst X_16.here hx rfl (hb hby at_113) kt) ?_
        show G (T_16.setTop (mkF m 114 #[.val (.int fl), .val (.int k0), .val (.int k1), .val (.int k2), .val (.int k3), .val (.ref k), .val .null, .val (.ref b), .val (.ref dd), .val (.ref a), .val (.ref b), .val (.ref b)] [(.int (1 : Int32))]))
        refine hst (fun _ kt => XS.goto X_16.here hx rfl (pc0 := 114) (pc' := 118) rfl (hb hby at_114) (by decide) (by decide) kt) ?_
        show G (T_16.setTop (mkF m 118 #[.val (.int fl), .val (.int k0), .val (.int k1), .val (.int k2), .val (.int k3), .val (.ref k), .val .null, .val (.ref b), .val (.ref dd), .val (.ref a), .val (.ref b), .val (.ref b)] [(.int (1 : Int32))]))
        exact hend (own_goRet X_16 hx Bd.returns rfl (Or.inl ⟨rfl, by simp, _, rfl⟩) (hb hby at_118) Bd.notSynchronized (by rw [eh_16]; exact ⟨rfl, N_16⟩) (by decide) (by decide))
  ·
    refine hst (fun _ kt => XS.ifNo X_1.here hx rfl (hb hby at_12) rfl ((if0 _ _).trans (feq hf0).1) kt) ?_
    show G (T_1.setTop (mkF m 15 #[.val (.int fl), .val (.int k0), .val (.int k1), .val (.int k2), .val (.int k3), .val (.ref k), .val .null, .unset, .unset, .unset, .unset, .unset] []))
    refine hst (fun _ kt => XS.iloadN X_1.here hx rfl (hb hby at_15) rfl kt) ?_
    show G (T_1.setTop (mkF m 16 #[.val (.int fl), .val (.int k0), .val (.int k1), .val (.int k2), .val (.int k3), .val (.ref k), .val .null, .unset, .unset, .unset, .unset, .unset] [(.int k1)]))
    obtain ⟨_, _, ⟨T_17, L_17, k_17, n_17⟩, -, X_17, ⟨Lc_17, hQ_17, l_17, y_17, z_17⟩, st_17⟩ := Jvm.LawKit.callS X_1 hx (y := (⟨x.cls, "draw", "(I)Ljava/lang/String;"⟩ : MethodName)) hown (mvT hZ (own_w0 hw)) (mvT hZ (own_w1 hw)) (mvT hZ (own_w2 hw)) (mvT hZ (own_w3 hw)) (by decide) (backOf (W := 0) (rm1 l Z a0 hw [] k1 cz T_1.heap n0 Z0 S_c hcz) hZ (own_w3 hw) (own_w2 hw) (by decide) (by decide)) (g := (mkF m 16 #[.val (.int fl), .val (.int k0), .val (.int k1), .val (.int k2), .val (.int k3), .val (.ref k), .val .null, .unset, .unset, .unset, .unset, .unset] [(.int k1)])) rfl (by rw [hml]; rfl) (argsL := [(.int k1)]) (rest := []) (lenOf pd_2 rfl) rfl (by show 2 * 0 + _ ≤ _; exact Nat.le_of_eq rfl) (hb hby at_16) (fun _ _ => ⟨rfl, rfl, (by decide : 3 + 3 ≤ _), (by decide : 8 + 8 ≤ _)⟩)
    dsimp only [Pt.U, Pt.locs, Pt.cells, Pt.slots] at X_17 l_17 y_17 z_17 st_17 hQ_17
    subst l_17 y_17 z_17
    obtain ⟨t, rfl, N_17q, K_17⟩ := hQ_17
    have Z0 := Nat.le_trans Z0 K_17.1
    have S_c := own_Sta_keep S_c K_17 
    have N_17 := Fr.app N_1 N_17q
    refine hst (fun _ kt => st_17 _ kt) ?_
    show G (T_17.setTop (mkF m 19 #[.val (.int fl), .val (.int k0), .val (.int k1), .val (.int k2), .val (.int k3), .val (.ref k), .val .null, .unset, .unset, .unset, .unset, .unset] [(.ref t)]))
    refine hst (fun _ kt => XS.astore X_17.here hx rfl (hb hby at_19) rfl rfl (l' := #[.val (.int fl), .val (.int k0), .val (.int k1), .val (.int k2), .val (.int k3), .val (.ref k), .val (.ref t), .unset, .unset, .unset, .unset, .unset]) rfl kt) ?_
    show G (T_17.setTop (mkF m 21 #[.val (.int fl), .val (.int k0), .val (.int k1), .val (.int k2), .val (.int k3), .val (.ref k), .val (.ref t), .unset, .unset, .unset, .unset, .unset] []))
    refine hst (fun _ kt => XS.aconstNull X_17.here hx rfl (hb hby at_21) kt) ?_
    show G (T_17.setTop (mkF m 22 #[.val (.int fl), .val (.int k0), .val (.int k1), .val (.int k2), .val (.int k3), .val (.ref k), .val (.ref t), .unset, .unset, .unset, .unset, .unset] [.null]))
    refine hst (fun _ kt => XS.astore X_17.here hx rfl (hb hby at_22) rfl rfl (l' := #[.val (.int fl), .val (.int k0), .val (.int k1), .val (.int k2), .val (.int k3), .val (.ref k), .val (.ref t), .val .null, .unset, .unset, .unset, .unset]) rfl kt) ?_
    show G (T_17.setTop (mkF m 24 #[.val (.int fl), .val (.int k0), .val (.int k1), .val (.int k2), .val (.int k3), .val (.ref k), .val (.ref t), .val .null, .unset, .unset, .unset, .unset] []))
    refine hst (fun _ kt => XS.iloadN X_17.here hx rfl (hb hby at_24) rfl kt) ?_
    show G (T_17.setTop (mkF m 25 #[.val (.int fl), .val (.int k0), .val (.int k1), .val (.int k2), .val (.int k3), .val (.ref k), .val (.ref t), .val .null, .unset, .unset, .unset, .unset] [(.int fl)]))
    refine hst (fun _ kt => XS.iconst X_17.here hx rfl (hb hby at_25) kt) ?_
    show G (T_17.setTop (mkF m 26 #[.val (.int fl), .val (.int k0), .val (.int k1), .val (.int k2), .val (.int k3), .val (.ref k), .val (.ref t), .val .null, .unset, .unset, .unset, .unset] [(.int (2 : Int32)), (.int fl)]))
    refine hst (fun _ kt => XS.iand X_17.here hx rfl (hb hby at_26) rfl kt) ?_
    show G (T_17.setTop (mkF m 27 #[.val (.int fl), .val (.int k0), .val (.int k1), .val (.int k2), .val (.int k3), .val (.ref k), .val (.ref t), .val .null, .unset, .unset, .unset, .unset] [(.int (fl &&& (2 : Int32)))]))
    by_cases hf1 : (fl &&& (2 : Int32)) = (0 : Int32)
    ·
      refine hst (fun _ kt => XS.ifYes X_17.here hx rfl (pc0 := 27) (pc' := 36) rfl (hb hby at_27) rfl ((if0 _ _).trans (teq hf1).1) (by decide) (by decide) kt) ?_
      show G (T_17.setTop (mkF m 36 #[.val (.int fl), .val (.int k0), .val (.int k1), .val (.int k2), .val (.int k3), .val (.ref k), .val (.ref t), .val .null, .unset, .unset, .unset, .unset] []))
      refine hst (fun _ kt => XS.aconstNull X_17.here hx rfl (hb hby at_36) kt) ?_
      show G (T_17.setTop (mkF m 37 #[.val (.int fl), .val (.int k0), .val (.int k1), .val (.int k2), .val (.int k3), .val (.ref k), .val (.ref t), .val .null, .unset, .unset, .unset, .unset] [.null]))
      refine hst (fun _ kt => XS.astore X_17.here hx rfl (hb hby at_37) rfl rfl (l' := #[.val (.int fl), .val (.int k0), .val (.int k1), .val (.int k2), .val (.int k3), .val (.ref k), .val (.ref t), .val .null, .val .null, .unset, .unset, .unset]) rfl kt) ?_
      show G (T_17.setTop (mkF m 39 #[.val (.int fl), .val (.int k0), .val (.int k1), .val (.int k2), .val (.int k3), .val (.ref k), .val (.ref t), .val .null, .val .null, .unset, .unset, .unset] []))
      refine hst (fun _ kt => XS.iloadN X_17.here hx rfl (hb hby at_39) rfl kt) ?_
      show G (T_17.setTop (mkF m 40 #[.val (.int fl), .val (.int k0), .val (.int k1), .val (.int k2), .val (.int k3), .val (.ref k), .val (.ref t), .val .null, .val .null, .unset, .unset, .unset] [(.int fl)]))
      refine hst (fun _ kt => XS.iconst X_17.here hx rfl (hb hby at_40) kt) ?_
      show G (T_17.setTop (mkF m 41 #[.val (.int fl), .val (.int k0), .val (.int k1), .val (.int k2), .val (.int k3), .val (.ref k), .val (.ref t), .val .null, .val .null, .unset, .unset, .unset] [(.int (4 : Int32)), (.int fl)]))
      refine hst (fun _ kt => XS.iand X_17.here hx rfl (hb hby at_41) rfl kt) ?_
      show G (T_17.setTop (mkF m 42 #[.val (.int fl), .val (.int k0), .val (.int k1), .val (.int k2), .val (.int k3), .val (.ref k), .val (.ref t), .val .null, .val .null, .unset, .unset, .unset] [(.int (fl &&& (4 : Int32)))]))
      by_cases hf2 : (fl &&& (4 : Int32)) = (0 : Int32)
      ·
        refine hst (fun _ kt => XS.ifYes X_17.here hx rfl (pc0 := 42) (pc' := 52) rfl (hb hby at_42) rfl ((if0 _ _).trans (teq hf2).1) (by decide) (by decide) kt) ?_
        show G (T_17.setTop (mkF m 52 #[.val (.int fl), .val (.int k0), .val (.int k1), .val (.int k2), .val (.int k3), .val (.ref k), .val (.ref t), .val .null, .val .null, .unset, .unset, .unset] []))
        obtain ⟨T_18, h_18, X_18, e_18, E_18, A_18, D_18, -, st_18⟩ := newO X_17 hx hZ hown (own_w34 hw) (own_w35 hw) (own_w36 hw) rfl (g := (mkF m 52 #[.val (.int fl), .val (.int k0), .val (.int k1), .val (.int k2), .val (.int k3), .val (.ref k), .val (.ref t), .val .null, .val .null, .unset, .unset, .unset] [])) rfl (hb hby at_52) (by decide) (by decide)
        obtain ⟨a, g_a⟩ : ∃ z, z = T_17.heap.size := ⟨_, rfl⟩
        rw [← g_a] at A_18 D_18 st_18
        have le_n0_a : n0 ≤ a := Nat.le_trans Z0 (Nat.le_of_eq g_a.symm)
        have Z0 := Nat.le_trans Z0 E_18.1
        have S_c := S_c.ext E_18
        have E_a : Exa Z h_18 a own_V := A_18
        have F_key_a : Fld Z h_18 a own_V "key" "Ljava/lang/String;" .null := D_18 (Or.inr (own_w47 hw)) (ty := (.object "java/lang/String")) (by decide)
        have F_topic_a : Fld Z h_18 a own_V "topic" "Ljava/lang/String;" .null := D_18 (Or.inr (own_w49 hw)) (ty := (.object "java/lang/String")) (by decide)
        have F_broker_a : Fld Z h_18 a own_V "broker" "Ljava/lang/String;" .null := D_18 (Or.inr (own_w51 hw)) (ty := (.object "java/lang/String")) (by decide)
        have F_defaultValue_a : Fld Z h_18 a own_V "defaultValue" "Ljava/lang/String;" .null := D_18 (Or.inr (own_w53 hw)) (ty := (.object "java/lang/String")) (by decide)
        refine hst st_18 ?_
        show G (T_18.setTop (mkF m 55 #[.val (.int fl), .val (.int k0), .val (.int k1), .val (.int k2), .val (.int k3), .val (.ref k), .val (.ref t), .val .null, .val .null, .unset, .unset, .unset] [(.ref a)]))
        refine hst (fun _ kt => XS.dup X_18.here hx rfl (hb hby at_55) rfl rfl kt) ?_
        show G (T_18.setTop (mkF m 56 #[.val (.int fl), .val (.int k0), .val (.int k1), .val (.int k2), .val (.int k3), .val (.ref k), .val (.ref t), .val .null, .val .null, .unset, .unset, .unset] [(.ref a), (.ref a)]))
        refine hst (fun _ kt => XS.aload X_18.here hx rfl (hb hby at_56) rfl rfl kt) ?_
        show G (T_18.setTop (mkF m 58 #[.val (.int fl), .val (.int k0), .val (.int k1), .val (.int k2), .val (.int k3), .val (.ref k), .val (.ref t), .val .null, .val .null, .unset, .unset, .unset] [(.ref k), (.ref a), (.ref a)]))
        refine hst (fun _ kt => XS.aload X_18.here hx rfl (hb hby at_58) rfl rfl kt) ?_
        show G (T_18.setTop (mkF m 60 #[.val (.int fl), .val (.int k0), .val (.int k1), .val (.int k2), .val (.int k3), .val (.ref k), .val (.ref t), .val .null, .val .null, .unset, .unset, .unset] [(.ref t), (.ref k), (.ref a), (.ref a)]))
        refine hst (fun _ kt => XS.aload X_18.here hx rfl (hb hby at_60) rfl rfl kt) ?_
        show G (T_18.setTop (mkF m 62 #[.val (.int fl), .val (.int k0), .val (.int k1), .val (.int k2), .val (.int k3), .val (.ref k), .val (.ref t), .val .null, .val .null, .unset, .unset, .unset] [.null, (.ref t), (.ref k), (.ref a), (.ref a)]))
        refine hst (fun _ kt => XS.aload X_18.here hx rfl (hb hby at_62) rfl rfl kt) ?_
        show G (T_18.setTop (mkF m 64 #[.val (.int fl), .val (.int k0), .val (.int k1), .val (.int k2), .val (.int k3), .val (.ref k), .val (.ref t), .val .null, .val .null, .unset, .unset, .unset] [.null, .null, (.ref t), (.ref k), (.ref a), (.ref a)]))
        obtain ⟨_, _, ⟨T_19, L_19, k_19, n_19⟩, -, X_19, ⟨Lc_19, hQ_19, l_19, y_19, z_19⟩, st_19⟩ := X_18.specialBack hx (y := (⟨own_V, "<init>", "(Ljava/lang/String;Ljava/lang/String;Ljava/lang/String;Ljava/lang/String;)V"⟩ : MethodName)) rfl hown (mvT hZ (own_w37 hw)) (mvT hZ (own_w38 hw)) (mvT hZ (own_w39 hw)) (by decide) (backOf (W := 1) (rmI100 l Z a0 hw [] a k t  h_18 n0 Z0 F_key_a F_topic_a F_broker_a F_defaultValue_a E_a le_n0_a) hZ (own_w39 hw) (own_w36 hw) (by decide) (by decide)) (g := (mkF m 64 #[.val (.int fl), .val (.int k0), .val (.int k1), .val (.int k2), .val (.int k3), .val (.ref k), .val (.ref t), .val .null, .val .null, .unset, .unset, .unset] [.null, .null, (.ref t), (.ref k), (.ref a), (.ref a)])) rfl (by rw [hml]; rfl) (Steps.refl _) (a := a) (argsL := [(.ref k), (.ref t), .null, .null]) (rest := [(.ref a)]) (lenOf pd_3 rfl) rfl (by show 2 * 0 + _ ≤ _; exact Nat.le_of_eq rfl) (hb hby at_64) (fun _ _ => ⟨rfl, e_18, (by decide : 7 + 0 ≤ _), (by decide : 20 + 0 ≤ _)⟩)
        dsimp only [Pt.U, Pt.locs, Pt.cells, Pt.slots] at X_19 l_19 y_19 z_19 st_19 hQ_19
        subst l_19 y_19 z_19
        obtain ⟨rfl, N_19q, K_19, Ex_19, Q1, Q2, Q3⟩ := hQ_19
        have Z0 := Nat.le_trans Z0 K_19.1
        have E_a := E_a.keep K_19
        have F_topic_a := Q1
        have F_broker_a := Q2
        have F_defaultValue_a := Q3
        have N_19 := Fr.app N_17 N_19q
        refine hst (fun _ kt => st_19.trans kt) ?_
        show G (T_19.setTop (mkF m 67 #[.val (.int fl), .val (.int k0), .val (.int k1), .val (.int k2), .val (.int k3), .val (.ref k), .val (.ref t), .val .null, .val .null, .unset, .unset, .unset] [(.ref a)]))
        refine hst (fun _ kt => XS.astore X_19.here hx rfl (hb hby at_67) rfl rfl (l' := #[.val (.int fl), .val (.int k0), .val (.int k1), .val (.int k2), .val (.int k3), .val (.ref k), .val (.ref t), .val .null, .val .null, .val (.ref a), .unset, .unset]) rfl kt) ?_
        show G (T_19.setTop (mkF m 69 #[.val (.int fl), .val (.int k0), .val (.int k1), .val (.int k2), .val (.int k3), .val (.ref k), .val (.ref t), .val .null, .val .null, .val (.ref a), .unset, .unset] []))
        refine hst (fun _ kt => XS.aload X_19.here hx rfl (hb hby at_69) rfl rfl kt) ?_
        show G (T_19.setTop (mkF m 71 #[.val (.int fl), .val (.int k0), .val (.int k1), .val (.int k2), .val (.int k3), .val (.ref k), .val (.ref t), .val .null, .val .null, .val (.ref a), .unset, .unset] [(.ref a)]))
        obtain ⟨cq_20, kq_20, q_20a, q_20b, q_20c⟩ := isOf hZ rfl E_a
        obtain ⟨_, _, ⟨T_20, L_20, k_20, n_20⟩, -, X_20, ⟨Lc_20, hQ_20, l_20, y_20, z_20⟩, st_20⟩ := X_19.virtualBack hx (y := (⟨own_V, "value", "()Ljava/lang/String;"⟩ : MethodName)) (z := (⟨own_V, "value", "()Ljava/lang/String;"⟩ : MethodName)) hown (mvT hZ (own_w54 hw)) (mvT hZ (own_w55 hw)) (notFace_of_selects (args := #[]) (mvT hZ (own_w57 hw))) (mvT hZ (own_w57 hw)) (mvT hZ (own_w56 hw)) (by decide) (backOf (W := 0) (rmV100 l Z a0 hw [] a t T_19.heap n0 Z0 F_topic_a F_broker_a F_defaultValue_a) hZ (own_w58 hw) (own_w36 hw) (by decide) (by decide)) q_20a q_20c (g := (mkF m 71 #[.val (.int fl), .val (.int k0), .val (.int k1), .val (.int k2), .val (.int k3), .val (.ref k), .val (.ref t), .val .null, .val .null, .val (.ref a), .unset, .unset] [(.ref a)])) rfl (by rw [hml]; rfl) (Steps.refl _) (argsL := []) (rest := []) (lenOf pd_4 rfl) rfl (by show 2 * 0 + _ ≤ _; exact Nat.le_of_eq rfl) (hb hby at_71) (fun _ _ => ⟨rfl, rfl, (by decide : 7 + 0 ≤ _), (by decide : 20 + 0 ≤ _)⟩)
        dsimp only [Pt.U, Pt.locs, Pt.cells, Pt.slots] at X_20 l_20 y_20 z_20 st_20 hQ_20
        subst l_20 y_20 z_20
        obtain ⟨rfl, N_20q, eh_20⟩ := hQ_20
        have N_20 := Fr.app N_19 N_20q
        refine hst (fun _ kt => st_20.trans kt) ?_
        show G (T_20.setTop (mkF m 74 #[.val (.int fl), .val (.int k0), .val (.int k1), .val (.int k2), .val (.int k3), .val (.ref k), .val (.ref t), .val .null, .val .null, .val (.ref a), .unset, .unset] [(.ref t)]))
        refine hst (fun _ kt => XS.astore X_20.here hx rfl (hb hby at_74) rfl rfl (l' := #[.val (.int fl), .val (.int k0), .val (.int k1), .val (.int k2), .val (.int k3), .val (.ref k), .val (.ref t), .val .null, .val .null, .val (.ref a), .val (.ref t), .unset]) rfl kt) ?_
        show G (T_20.setTop (mkF m 76 #[.val (.int fl), .val (.int k0), .val (.int k1), .val (.int k2), .val (.int k3), .val (.ref k), .val (.ref t), .val .null, .val .null, .val (.ref a), .val (.ref t), .unset] []))
        refine hst (fun _ kt => XS.iloadN X_20.here hx rfl (hb hby at_76) rfl kt) ?_
        show G (T_20.setTop (mkF m 77 #[.val (.int fl), .val (.int k0), .val (.int k1), .val (.int k2), .val (.int k3), .val (.ref k), .val (.ref t), .val .null, .val .null, .val (.ref a), .val (.ref t), .unset] [(.int fl)]))
        refine hst (fun _ kt => XS.iconst X_20.here hx rfl (hb hby at_77) kt) ?_
        show G (T_20.setTop (mkF m 78 #[.val (.int fl), .val (.int k0), .val (.int k1), .val (.int k2), .val (.int k3), .val (.ref k), .val (.ref t), .val .null, .val .null, .val (.ref a), .val (.ref t), .unset] [(.int (1 : Int32)), (.int fl)]))
        refine hst (fun _ kt => XS.iand X_20.here hx rfl (hb hby at_78) rfl kt) ?_
        show G (T_20.setTop (mkF m 79 #[.val (.int fl), .val (.int k0), .val (.int k1), .val (.int k2), .val (.int k3), .val (.ref k), .val (.ref t), .val .null, .val .null, .val (.ref a), .val (.ref t), .unset] [(.int (fl &&& (1 : Int32)))]))
        have hc79 : ¬ ((fl &&& (1 : Int32)) = (0 : Int32)) := hf0
        refine hst (fun _ kt => XS.ifNo X_20.here hx rfl (hb hby at_79) rfl ((if0 _ _).trans (feq hc79).1) kt) ?_
        show G (T_20.setTop (mkF m 82 #[.val (.int fl), .val (.int k0), .val (.int k1), .val (.int k2), .val (.int k3), .val (.ref k), .val (.ref t), .val .null, .val .null, .val (.ref a), .val (.ref t), .unset] []))
        refine hst (fun _ kt => XS.aload X_20.here hx rfl (hb hby at_82) rfl rfl kt) ?_
        show G (T_20.setTop (mkF m 84 #[.val (.int fl), .val (.int k0), .val (.int k1), .val (.int k2), .val (.int k3), .val (.ref k), .val (.ref t), .val .null, .val .null, .val (.ref a), .val (.ref t), .unset] [(.ref t)]))
        refine hst (fun _ kt => XS.astore X_20.here hx rfl (hb hby at_84) rfl rfl (l' := #[.val (.int fl), .val (.int k0), .val (.int k1), .val (.int k2), .val (.int k3), .val (.ref k), .val (.ref t), .val .null, .val .null, .val (.ref a), .val (.ref t), .val (.ref t)]) rfl kt) ?_
        show G (T_20.setTop (mkF m 86 #[.val (.int fl), .val (.int k0), .val (.int k1), .val (.int k2), .val (.int k3), .val (.ref k), .val (.ref t), .val .null, .val .null, .val (.ref a), .val (.ref t), .val (.ref t)] []))
        refine hst (fun _ kt => XS.goto X_20.here hx rfl (pc0 := 86) (pc' := 106) rfl (hb hby at_86) (by decide) (by decide) kt) ?_
        show G (T_20.setTop (mkF m 106 #[.val (.int fl), .val (.int k0), .val (.int k1), .val (.int k2), .val (.int k3), .val (.ref k), .val (.ref t), .val .null, .val .null, .val (.ref a), .val (.ref t), .val (.ref t)] []))
        refine hst (fun _ kt => XS.aload X_20.here hx rfl (hb hby at_106) rfl rfl kt) ?_
        show G (T_20.setTop (mkF m 108 #[.val (.int fl), .val (.int k0), .val (.int k1), .val (.int k2), .val (.int k3), .val (.ref k), .val (.ref t), .val .null, .val .null, .val (.ref a), .val (.ref t), .val (.ref t)] [(.ref t)]))
        refine hst (fun _ kt => XS.aload X_20.here hx rfl (hb hby at_108) rfl rfl kt) ?_
        show G (T_20.setTop (mkF m 110 #[.val (.int fl), .val (.int k0), .val (.int k1), .val (.int k2), .val (.int k3), .val (.ref k), .val (.ref t), .val .null, .val .null, .val (.ref a), .val (.ref t), .val (.ref t)] [(.ref t), (.ref t)]))
        refine hst (fun _ kt => Jvm.RoadKit.acmp (g := (mkF m 110 #[.val (.int fl), .val (.int k0), .val (.int k1), .val (.int k2), .val (.int k3), .val (.ref k), .val (.ref t), .val .null, .val .null, .val (.ref a), .val (.ref t), .val (.ref t)] [(.ref t), (.ref t)])) X_20 hx rfl rfl rfl (pc0 := 110) (pc' := 113) (same := true) rfl (hb hby at_110) rfl (decide_eq_true rfl) (by decide) (by decide) kt) ?_
        show G (T_20.setTop (mkF m 113 #[.val (.int fl), .val (.int k0), .val (.int k1), .val (.int k2), .val (.int k3), .val (.ref k), .val (.ref t), .val .null, .val .null, .val (.ref a), .val (.ref t), .val (.ref t)] []))
        refine hst (fun _ kt => XS.iconst X_20.here hx rfl (hb hby at_113) kt) ?_
        show G (T_20.setTop (mkF m 114 #[.val (.int fl), .val (.int k0), .val (.int k1), .val (.int k2), .val (.int k3), .val (.ref k), .val (.ref t), .val .null, .val .null, .val (.ref a), .val (.ref t), .val (.ref t)] [(.int (1 : Int32))]))
        refine hst (fun _ kt => XS.goto X_20.here hx rfl (pc0 := 114) (pc' := 118) rfl (hb hby at_114) (by decide) (by decide) kt) ?_
        show G (T_20.setTop (mkF m 118 #[.val (.int fl), .val (.int k0), .val (.int k1), .val (.int k2), .val (.int k3), .val (.ref k), .val (.ref t), .val .null, .val .null, .val (.ref a), .val (.ref t), .val (.ref t)] [(.int (1 : Int32))]))
        exact hend (own_goRet X_20 hx Bd.returns rfl (Or.inl ⟨rfl, by simp, _, rfl⟩) (hb hby at_118) Bd.notSynchronized (by rw [eh_20]; exact ⟨rfl, N_20⟩) (by decide) (by decide))
      ·
        refine hst (fun _ kt => XS.ifNo X_17.here hx rfl (hb hby at_42) rfl ((if0 _ _).trans (feq hf2).1) kt) ?_
        show G (T_17.setTop (mkF m 45 #[.val (.int fl), .val (.int k0), .val (.int k1), .val (.int k2), .val (.int k3), .val (.ref k), .val (.ref t), .val .null, .val .null, .unset, .unset, .unset] []))
        refine hst (fun _ kt => XS.iload X_17.here hx rfl (hb hby at_45) rfl kt) ?_
        show G (T_17.setTop (mkF m 47 #[.val (.int fl), .val (.int k0), .val (.int k1), .val (.int k2), .val (.int k3), .val (.ref k), .val (.ref t), .val .null, .val .null, .unset, .unset, .unset] [(.int k3)]))
        obtain ⟨_, _, ⟨T_21, L_21, k_21, n_21⟩, -, X_21, ⟨Lc_21, hQ_21, l_21, y_21, z_21⟩, st_21⟩ := Jvm.LawKit.callS X_17 hx (y := (⟨x.cls, "draw", "(I)Ljava/lang/String;"⟩ : MethodName)) hown (mvT hZ (own_w0 hw)) (mvT hZ (own_w1 hw)) (mvT hZ (own_w2 hw)) (mvT hZ (own_w3 hw)) (by decide) (backOf (W := 0) (rm1 l Z a0 hw [] k3 cz T_17.heap n0 Z0 S_c hcz) hZ (own_w3 hw) (own_w2 hw) (by decide) (by decide)) (g := (mkF m 47 #[.val (.int fl), .val (.int k0), .val (.int k1), .val (.int k2), .val (.int k3), .val (.ref k), .val (.ref t), .val .null, .val .null, .unset, .unset, .unset] [(.int k3)])) rfl (by rw [hml]; rfl) (argsL := [(.int k3)]) (rest := []) (lenOf pd_2 rfl) rfl (by show 2 * 0 + _ ≤ _; exact Nat.le_of_eq rfl) (hb hby at_47) (fun _ _ => ⟨rfl, rfl, (by decide : 6 + 3 ≤ _), (by decide : 16 + 8 ≤ _)⟩)
        dsimp only [Pt.U, Pt.locs, Pt.cells, Pt.slots] at X_21 l_21 y_21 z_21 st_21 hQ_21
        subst l_21 y_21 z_21
        obtain ⟨dd, rfl, N_21q, K_21⟩ := hQ_21
        have Z0 := Nat.le_trans Z0 K_21.1
        have S_c := own_Sta_keep S_c K_21 
        have N_21 := Fr.app N_17 N_21q
        refine hst (fun _ kt => st_21 _ kt) ?_
        show G (T_21.setTop (mkF m 50 #[.val (.int fl), .val (.int k0), .val (.int k1), .val (.int k2), .val (.int k3), .val (.ref k), .val (.ref t), .val .null, .val .null, .unset, .unset, .unset] [(.ref dd)]))
        refine hst (fun _ kt => XS.astore X_21.here hx rfl (hb hby at_50) rfl rfl (l' := #[.val (.int fl), .val (.int k0), .val (.int k1), .val (.int k2), .val (.int k3), .val (.ref k), .val (.ref t), .val .null, .val (.ref dd), .unset, .unset, .unset]) rfl kt) ?_
        show G (T_21.setTop (mkF m 52 #[.val (.int fl), .val (.int k0), .val (.int k1), .val (.int k2), .val (.int k3), .val (.ref k), .val (.ref t), .val .null, .val (.ref dd), .unset, .unset, .unset] []))
        obtain ⟨T_22, h_22, X_22, e_22, E_22, A_22, D_22, -, st_22⟩ := newO X_21 hx hZ hown (own_w34 hw) (own_w35 hw) (own_w36 hw) rfl (g := (mkF m 52 #[.val (.int fl), .val (.int k0), .val (.int k1), .val (.int k2), .val (.int k3), .val (.ref k), .val (.ref t), .val .null, .val (.ref dd), .unset, .unset, .unset] [])) rfl (hb hby at_52) (by decide) (by decide)
        obtain ⟨a, g_a⟩ : ∃ z, z = T_21.heap.size := ⟨_, rfl⟩
        rw [← g_a] at A_22 D_22 st_22
        have le_n0_a : n0 ≤ a := Nat.le_trans Z0 (Nat.le_of_eq g_a.symm)
        have Z0 := Nat.le_trans Z0 E_22.1
        have S_c := S_c.ext E_22
        have E_a : Exa Z h_22 a own_V := A_22
        have F_key_a : Fld Z h_22 a own_V "key" "Ljava/lang/String;" .null := D_22 (Or.inr (own_w47 hw)) (ty := (.object "java/lang/String")) (by decide)
        have F_topic_a : Fld Z h_22 a own_V "topic" "Ljava/lang/String;" .null := D_22 (Or.inr (own_w49 hw)) (ty := (.object "java/lang/String")) (by decide)
        have F_broker_a : Fld Z h_22 a own_V "broker" "Ljava/lang/String;" .null := D_22 (Or.inr (own_w51 hw)) (ty := (.object "java/lang/String")) (by decide)
        have F_defaultValue_a : Fld Z h_22 a own_V "defaultValue" "Ljava/lang/String;" .null := D_22 (Or.inr (own_w53 hw)) (ty := (.object "java/lang/String")) (by decide)
        refine hst st_22 ?_
        show G (T_22.setTop (mkF m 55 #[.val (.int fl), .val (.int k0), .val (.int k1), .val (.int k2), .val (.int k3), .val (.ref k), .val (.ref t), .val .null, .val (.ref dd), .unset, .unset, .unset] [(.ref a)]))
        refine hst (fun _ kt => XS.dup X_22.here hx rfl (hb hby at_55) rfl rfl kt) ?_
        show G (T_22.setTop (mkF m 56 #[.val (.int fl), .val (.int k0), .val (.int k1), .val (.int k2), .val (.int k3), .val (.ref k), .val (.ref t), .val .null, .val (.ref dd), .unset, .unset, .unset] [(.ref a), (.ref a)]))
        refine hst (fun _ kt => XS.aload X_22.here hx rfl (hb hby at_56) rfl rfl kt) ?_
        show G (T_22.setTop (mkF m 58 #[.val (.int fl), .val (.int k0), .val (.int k1), .val (.int k2), .val (.int k3), .val (.ref k), .val (.ref t), .val .null, .val (.ref dd), .unset, .unset, .unset] [(.ref k), (.ref a), (.ref a)]))
        refine hst (fun _ kt => XS.aload X_22.here hx rfl (hb hby at_58) rfl rfl kt) ?_
        show G (T_22.setTop (mkF m 60 #[.val (.int fl), .val (.int k0), .val (.int k1), .val (.int k2), .val (.int k3), .val (.ref k), .val (.ref t), .val .null, .val (.ref dd), .unset, .unset, .unset] [(.ref t), (.ref k), (.ref a), (.ref a)]))
        refine hst (fun _ kt => XS.aload X_22.here hx rfl (hb hby at_60) rfl rfl kt) ?_
        show G (T_22.setTop (mkF m 62 #[.val (.int fl), .val (.int k0), .val (.int k1), .val (.int k2), .val (.int k3), .val (.ref k), .val (.ref t), .val .null, .val (.ref dd), .unset, .unset, .unset] [.null, (.ref t), (.ref k), (.ref a), (.ref a)]))
        refine hst (fun _ kt => XS.aload X_22.here hx rfl (hb hby at_62) rfl rfl kt) ?_
        show G (T_22.setTop (mkF m 64 #[.val (.int fl), .val (.int k0), .val (.int k1), .val (.int k2), .val (.int k3), .val (.ref k), .val (.ref t), .val .null, .val (.ref dd), .unset, .unset, .unset] [(.ref dd), .null, (.ref t), (.ref k), (.ref a), (.ref a)]))
        obtain ⟨_, _, ⟨T_23, L_23, k_23, n_23⟩, -, X_23, ⟨Lc_23, hQ_23, l_23, y_23, z_23⟩, st_23⟩ := X_22.specialBack hx (y := (⟨own_V, "<init>", "(Ljava/lang/String;Ljava/lang/String;Ljava/lang/String;Ljava/lang/String;)V"⟩ : MethodName)) rfl hown (mvT hZ (own_w37 hw)) (mvT hZ (own_w38 hw)) (mvT hZ (own_w39 hw)) (by decide) (backOf (W := 1) (rmI101 l Z a0 hw [] a k t dd  h_22 n0 Z0 F_key_a F_topic_a F_broker_a F_defaultValue_a E_a le_n0_a) hZ (own_w39 hw) (own_w36 hw) (by decide) (by decide)) (g := (mkF m 64 #[.val (.int fl), .val (.int k0), .val (.int k1), .val (.int k2), .val (.int k3), .val (.ref k), .val (.ref t), .val .null, .val (.ref dd), .unset, .unset, .unset] [(.ref dd), .null, (.ref t), (.ref k), (.ref a), (.ref a)])) rfl (by rw [hml]; rfl) (Steps.refl _) (a := a) (argsL := [(.ref k), (.ref t), .null, (.ref dd)]) (rest := [(.ref a)]) (lenOf pd_3 rfl) rfl (by show 2 * 0 + _ ≤ _; exact Nat.le_of_eq rfl) (hb hby at_64) (fun _ _ => ⟨rfl, e_22, (by decide : 10 + 0 ≤ _), (by decide : 28 + 0 ≤ _)⟩)
        dsimp only [Pt.U, Pt.locs, Pt.cells, Pt.slots] at X_23 l_23 y_23 z_23 st_23 hQ_23
        subst l_23 y_23 z_23
        obtain ⟨rfl, N_23q, K_23, Ex_23, Q1, Q2, Q3⟩ := hQ_23
        have Z0 := Nat.le_trans Z0 K_23.1
        have E_a := E_a.keep K_23
        have F_topic_a := Q1
        have F_broker_a := Q2
        have F_defaultValue_a := Q3
        have N_23 := Fr.app N_21 N_23q
        refine hst (fun _ kt => st_23.trans kt) ?_
        show G (T_23.setTop (mkF m 67 #[.val (.int fl), .val (.int k0), .val (.int k1), .val (.int k2), .val (.int k3), .val (.ref k), .val (.ref t), .val .null, .val (.ref dd), .unset, .unset, .unset] [(.ref a)]))
        refine hst (fun _ kt => XS.astore X_23.here hx rfl (hb hby at_67) rfl rfl (l' := #[.val (.int fl), .val (.int k0), .val (.int k1), .val (.int k2), .val (.int k3), .val (.ref k), .val (.ref t), .val .null, .val (.ref dd), .val (.ref a), .unset, .unset]) rfl kt) ?_
        show G (T_23.setTop (mkF m 69 #[.val (.int fl), .val (.int k0), .val (.int k1), .val (.int k2), .val (.int k3), .val (.ref k), .val (.ref t), .val .null, .val (.ref dd), .val (.ref a), .unset, .unset] []))
        refine hst (fun _ kt => XS.aload X_23.here hx rfl (hb hby at_69) rfl rfl kt) ?_
        show G (T_23.setTop (mkF m 71 #[.val (.int fl), .val (.int k0), .val (.int k1), .val (.int k2), .val (.int k3), .val (.ref k), .val (.ref t), .val .null, .val (.ref dd), .val (.ref a), .unset, .unset] [(.ref a)]))
        obtain ⟨cq_24, kq_24, q_24a, q_24b, q_24c⟩ := isOf hZ rfl E_a
        obtain ⟨_, _, ⟨T_24, L_24, k_24, n_24⟩, -, X_24, ⟨Lc_24, hQ_24, l_24, y_24, z_24⟩, st_24⟩ := X_23.virtualBack hx (y := (⟨own_V, "value", "()Ljava/lang/String;"⟩ : MethodName)) (z := (⟨own_V, "value", "()Ljava/lang/String;"⟩ : MethodName)) hown (mvT hZ (own_w54 hw)) (mvT hZ (own_w55 hw)) (notFace_of_selects (args := #[]) (mvT hZ (own_w57 hw))) (mvT hZ (own_w57 hw)) (mvT hZ (own_w56 hw)) (by decide) (backOf (W := 0) (rmV101 l Z a0 hw [] a t dd T_23.heap n0 Z0 F_topic_a F_broker_a F_defaultValue_a) hZ (own_w58 hw) (own_w36 hw) (by decide) (by decide)) q_24a q_24c (g := (mkF m 71 #[.val (.int fl), .val (.int k0), .val (.int k1), .val (.int k2), .val (.int k3), .val (.ref k), .val (.ref t), .val .null, .val (.ref dd), .val (.ref a), .unset, .unset] [(.ref a)])) rfl (by rw [hml]; rfl) (Steps.refl _) (argsL := []) (rest := []) (lenOf pd_4 rfl) rfl (by show 2 * 0 + _ ≤ _; exact Nat.le_of_eq rfl) (hb hby at_71) (fun _ _ => ⟨rfl, rfl, (by decide : 10 + 0 ≤ _), (by decide : 28 + 0 ≤ _)⟩)
        dsimp only [Pt.U, Pt.locs, Pt.cells, Pt.slots] at X_24 l_24 y_24 z_24 st_24 hQ_24
        subst l_24 y_24 z_24
        obtain ⟨rfl, N_24q, eh_24⟩ := hQ_24
        have N_24 := Fr.app N_23 N_24q
        refine hst (fun _ kt => st_24.trans kt) ?_
        show G (T_24.setTop (mkF m 74 #[.val (.int fl), .val (.int k0), .val (.int k1), .val (.int k2), .val (.int k3), .val (.ref k), .val (.ref t), .val .null, .val (.ref dd), .val (.ref a), .unset, .unset] [(.ref t)]))
        refine hst (fun _ kt => XS.astore X_24.here hx rfl (hb hby at_74) rfl rfl (l' := #[.val (.int fl), .val (.int k0), .val (.int k1), .val (.int k2), .val (.int k3), .val (.ref k), .val (.ref t), .val .null, .val (.ref dd), .val (.ref a), .val (.ref t), .unset]) rfl kt) ?_
        show G (T_24.setTop (mkF m 76 #[.val (.int fl), .val (.int k0), .val (.int k1), .val (.int k2), .val (.int k3), .val (.ref k), .val (.ref t), .val .null, .val (.ref dd), .val (.ref a), .val (.ref t), .unset] []))
        refine hst (fun _ kt => XS.iloadN X_24.here hx rfl (hb hby at_76) rfl kt) ?_
        show G (T_24.setTop (mkF m 77 #[.val (.int fl), .val (.int k0), .val (.int k1), .val (.int k2), .val (.int k3), .val (.ref k), .val (.ref t), .val .null, .val (.ref dd), .val (.ref a), .val (.ref t), .unset] [(.int fl)]))
        refine hst (fun _ kt => XS.iconst X_24.here hx rfl (hb hby at_77) kt) ?_
        show G (T_24.setTop (mkF m 78 #[.val (.int fl), .val (.int k0), .val (.int k1), .val (.int k2), .val (.int k3), .val (.ref k), .val (.ref t), .val .null, .val (.ref dd), .val (.ref a), .val (.ref t), .unset] [(.int (1 : Int32)), (.int fl)]))
        refine hst (fun _ kt => XS.iand X_24.here hx rfl (hb hby at_78) rfl kt) ?_
        show G (T_24.setTop (mkF m 79 #[.val (.int fl), .val (.int k0), .val (.int k1), .val (.int k2), .val (.int k3), .val (.ref k), .val (.ref t), .val .null, .val (.ref dd), .val (.ref a), .val (.ref t), .unset] [(.int (fl &&& (1 : Int32)))]))
        have hc79 : ¬ ((fl &&& (1 : Int32)) = (0 : Int32)) := hf0
        refine hst (fun _ kt => XS.ifNo X_24.here hx rfl (hb hby at_79) rfl ((if0 _ _).trans (feq hc79).1) kt) ?_
        show G (T_24.setTop (mkF m 82 #[.val (.int fl), .val (.int k0), .val (.int k1), .val (.int k2), .val (.int k3), .val (.ref k), .val (.ref t), .val .null, .val (.ref dd), .val (.ref a), .val (.ref t), .unset] []))
        refine hst (fun _ kt => XS.aload X_24.here hx rfl (hb hby at_82) rfl rfl kt) ?_
        show G (T_24.setTop (mkF m 84 #[.val (.int fl), .val (.int k0), .val (.int k1), .val (.int k2), .val (.int k3), .val (.ref k), .val (.ref t), .val .null, .val (.ref dd), .val (.ref a), .val (.ref t), .unset] [(.ref t)]))
        refine hst (fun _ kt => XS.astore X_24.here hx rfl (hb hby at_84) rfl rfl (l' := #[.val (.int fl), .val (.int k0), .val (.int k1), .val (.int k2), .val (.int k3), .val (.ref k), .val (.ref t), .val .null, .val (.ref dd), .val (.ref a), .val (.ref t), .val (.ref t)]) rfl kt) ?_
        show G (T_24.setTop (mkF m 86 #[.val (.int fl), .val (.int k0), .val (.int k1), .val (.int k2), .val (.int k3), .val (.ref k), .val (.ref t), .val .null, .val (.ref dd), .val (.ref a), .val (.ref t), .val (.ref t)] []))
        refine hst (fun _ kt => XS.goto X_24.here hx rfl (pc0 := 86) (pc' := 106) rfl (hb hby at_86) (by decide) (by decide) kt) ?_
        show G (T_24.setTop (mkF m 106 #[.val (.int fl), .val (.int k0), .val (.int k1), .val (.int k2), .val (.int k3), .val (.ref k), .val (.ref t), .val .null, .val (.ref dd), .val (.ref a), .val (.ref t), .val (.ref t)] []))
        refine hst (fun _ kt => XS.aload X_24.here hx rfl (hb hby at_106) rfl rfl kt) ?_
        show G (T_24.setTop (mkF m 108 #[.val (.int fl), .val (.int k0), .val (.int k1), .val (.int k2), .val (.int k3), .val (.ref k), .val (.ref t), .val .null, .val (.ref dd), .val (.ref a), .val (.ref t), .val (.ref t)] [(.ref t)]))
        refine hst (fun _ kt => XS.aload X_24.here hx rfl (hb hby at_108) rfl rfl kt) ?_
        show G (T_24.setTop (mkF m 110 #[.val (.int fl), .val (.int k0), .val (.int k1), .val (.int k2), .val (.int k3), .val (.ref k), .val (.ref t), .val .null, .val (.ref dd), .val (.ref a), .val (.ref t), .val (.ref t)] [(.ref t), (.ref t)]))
        refine hst (fun _ kt => Jvm.RoadKit.acmp (g := (mkF m 110 #[.val (.int fl), .val (.int k0), .val (.int k1), .val (.int k2), .val (.int k3), .val (.ref k), .val (.ref t), .val .null, .val (.ref dd), .val (.ref a), .val (.ref t), .val (.ref t)] [(.ref t), (.ref t)])) X_24 hx rfl rfl rfl (pc0 := 110) (pc' := 113) (same := true) rfl (hb hby at_110) rfl (decide_eq_true rfl) (by decide) (by decide) kt) ?_
        show G (T_24.setTop (mkF m 113 #[.val (.int fl), .val (.int k0), .val (.int k1), .val (.int k2), .val (.int k3), .val (.ref k), .val (.ref t), .val .null, .val (.ref dd), .val (.ref a), .val (.ref t), .val (.ref t)] []))
        refine hst (fun _ kt => XS.iconst X_24.here hx rfl (hb hby at_113) kt) ?_
        show G (T_24.setTop (mkF m 114 #[.val (.int fl), .val (.int k0), .val (.int k1), .val (.int k2), .val (.int k3), .val (.ref k), .val (.ref t), .val .null, .val (.ref dd), .val (.ref a), .val (.ref t), .val (.ref t)] [(.int (1 : Int32))]))
        refine hst (fun _ kt => XS.goto X_24.here hx rfl (pc0 := 114) (pc' := 118) rfl (hb hby at_114) (by decide) (by decide) kt) ?_
        show G (T_24.setTop (mkF m 118 #[.val (.int fl), .val (.int k0), .val (.int k1), .val (.int k2), .val (.int k3), .val (.ref k), .val (.ref t), .val .null, .val (.ref dd), .val (.ref a), .val (.ref t), .val (.ref t)] [(.int (1 : Int32))]))
        exact hend (own_goRet X_24 hx Bd.returns rfl (Or.inl ⟨rfl, by simp, _, rfl⟩) (hb hby at_118) Bd.notSynchronized (by rw [eh_24]; exact ⟨rfl, N_24⟩) (by decide) (by decide))
    ·
      refine hst (fun _ kt => XS.ifNo X_17.here hx rfl (hb hby at_27) rfl ((if0 _ _).trans (feq hf1).1) kt) ?_
      show G (T_17.setTop (mkF m 30 #[.val (.int fl), .val (.int k0), .val (.int k1), .val (.int k2), .val (.int k3), .val (.ref k), .val (.ref t), .val .null, .unset, .unset, .unset, .unset] []))
      refine hst (fun _ kt => XS.iloadN X_17.here hx rfl (hb hby at_30) rfl kt) ?_
      show G (T_17.setTop (mkF m 31 #[.val (.int fl), .val (.int k0), .val (.int k1), .val (.int k2), .val (.int k3), .val (.ref k), .val (.ref t), .val .null, .unset, .unset, .unset, .unset] [(.int k2)]))
      obtain ⟨_, _, ⟨T_25, L_25, k_25, n_25⟩, -, X_25, ⟨Lc_25, hQ_25, l_25, y_25, z_25⟩, st_25⟩ := Jvm.LawKit.callS X_17 hx (y := (⟨x.cls, "draw", "(I)Ljava/lang/String;"⟩ : MethodName)) hown (mvT hZ (own_w0 hw)) (mvT hZ (own_w1 hw)) (mvT hZ (own_w2 hw)) (mvT hZ (own_w3 hw)) (by decide) (backOf (W := 0) (rm1 l Z a0 hw [] k2 cz T_17.heap n0 Z0 S_c hcz) hZ (own_w3 hw) (own_w2 hw) (by decide) (by decide)) (g := (mkF m 31 #[.val (.int fl), .val (.int k0), .val (.int k1), .val (.int k2), .val (.int k3), .val (.ref k), .val (.ref t), .val .null, .unset, .unset, .unset, .unset] [(.int k2)])) rfl (by rw [hml]; rfl) (argsL := [(.int k2)]) (rest := []) (lenOf pd_2 rfl) rfl (by show 2 * 0 + _ ≤ _; exact Nat.le_of_eq rfl) (hb hby at_31) (fun _ _ => ⟨rfl, rfl, (by decide : 6 + 3 ≤ _), (by decide : 16 + 8 ≤ _)⟩)
      dsimp only [Pt.U, Pt.locs, Pt.cells, Pt.slots] at X_25 l_25 y_25 z_25 st_25 hQ_25
      subst l_25 y_25 z_25
      obtain ⟨b, rfl, N_25q, K_25⟩ := hQ_25
      have Z0 := Nat.le_trans Z0 K_25.1
      have S_c := own_Sta_keep S_c K_25 
      have N_25 := Fr.app N_17 N_25q
      refine hst (fun _ kt => st_25 _ kt) ?_
      show G (T_25.setTop (mkF m 34 #[.val (.int fl), .val (.int k0), .val (.int k1), .val (.int k2), .val (.int k3), .val (.ref k), .val (.ref t), .val .null, .unset, .unset, .unset, .unset] [(.ref b)]))
      refine hst (fun _ kt => XS.astore X_25.here hx rfl (hb hby at_34) rfl rfl (l' := #[.val (.int fl), .val (.int k0), .val (.int k1), .val (.int k2), .val (.int k3), .val (.ref k), .val (.ref t), .val (.ref b), .unset, .unset, .unset, .unset]) rfl kt) ?_
      show G (T_25.setTop (mkF m 36 #[.val (.int fl), .val (.int k0), .val (.int k1), .val (.int k2), .val (.int k3), .val (.ref k), .val (.ref t), .val (.ref b), .unset, .unset, .unset, .unset] []))
      refine hst (fun _ kt => XS.aconstNull X_25.here hx rfl (hb hby at_36) kt) ?_
      show G (T_25.setTop (mkF m 37 #[.val (.int fl), .val (.int k0), .val (.int k1), .val (.int k2), .val (.int k3), .val (.ref k), .val (.ref t), .val (.ref b), .unset, .unset, .unset, .unset] [.null]))
      refine hst (fun _ kt => XS.astore X_25.here hx rfl (hb hby at_37) rfl rfl (l' := #[.val (.int fl), .val (.int k0), .val (.int k1), .val (.int k2), .val (.int k3), .val (.ref k), .val (.ref t), .val (.ref b), .val .null, .unset, .unset, .unset]) rfl kt) ?_
      show G (T_25.setTop (mkF m 39 #[.val (.int fl), .val (.int k0), .val (.int k1), .val (.int k2), .val (.int k3), .val (.ref k), .val (.ref t), .val (.ref b), .val .null, .unset, .unset, .unset] []))
      refine hst (fun _ kt => XS.iloadN X_25.here hx rfl (hb hby at_39) rfl kt) ?_
      show G (T_25.setTop (mkF m 40 #[.val (.int fl), .val (.int k0), .val (.int k1), .val (.int k2), .val (.int k3), .val (.ref k), .val (.ref t), .val (.ref b), .val .null, .unset, .unset, .unset] [(.int fl)]))
      refine hst (fun _ kt => XS.iconst X_25.here hx rfl (hb hby at_40) kt) ?_
      show G (T_25.setTop (mkF m 41 #[.val (.int fl), .val (.int k0), .val (.int k1), .val (.int k2), .val (.int k3), .val (.ref k), .val (.ref t), .val (.ref b), .val .null, .unset, .unset, .unset] [(.int (4 : Int32)), (.int fl)]))
      refine hst (fun _ kt => XS.iand X_25.here hx rfl (hb hby at_41) rfl kt) ?_
      show G (T_25.setTop (mkF m 42 #[.val (.int fl), .val (.int k0), .val (.int k1), .val (.int k2), .val (.int k3), .val (.ref k), .val (.ref t), .val (.ref b), .val .null, .unset, .unset, .unset] [(.int (fl &&& (4 : Int32)))]))
      by_cases hf2 : (fl &&& (4 : Int32)) = (0 : Int32)
      ·
        refine hst (fun _ kt => XS.ifYes X_25.here hx rfl (pc0 := 42) (pc' := 52) rfl (hb hby at_42) rfl ((if0 _ _).trans (teq hf2).1) (by decide) (by decide) kt) ?_
        show G (T_25.setTop (mkF m 52 #[.val (.int fl), .val (.int k0), .val (.int k1), .val (.int k2), .val (.int k3), .val (.ref k), .val (.ref t), .val (.ref b), .val .null, .unset, .unset, .unset] []))
        obtain ⟨T_26, h_26, X_26, e_26, E_26, A_26, D_26, -, st_26⟩ := newO X_25 hx hZ hown (own_w34 hw) (own_w35 hw) (own_w36 hw) rfl (g := (mkF m 52 #[.val (.int fl), .val (.int k0), .val (.int k1), .val (.int k2), .val (.int k3), .val (.ref k), .val (.ref t), .val (.ref b), .val .null, .unset, .unset, .unset] [])) rfl (hb hby at_52) (by decide) (by decide)
        obtain ⟨a, g_a⟩ : ∃ z, z = T_25.heap.size := ⟨_, rfl⟩
        rw [← g_a] at A_26 D_26 st_26
        have le_n0_a : n0 ≤ a := Nat.le_trans Z0 (Nat.le_of_eq g_a.symm)
        have Z0 := Nat.le_trans Z0 E_26.1
        have S_c := S_c.ext E_26
        have E_a : Exa Z h_26 a own_V := A_26
        have F_key_a : Fld Z h_26 a own_V "key" "Ljava/lang/String;" .null := D_26 (Or.inr (own_w47 hw)) (ty := (.object "java/lang/String")) (by decide)
        have F_topic_a : Fld Z h_26 a own_V "topic" "Ljava/lang/String;" .null := D_26 (Or.inr (own_w49 hw)) (ty := (.object "java/lang/String")) (by decide)
        have F_broker_a : Fld Z h_26 a own_V "broker" "Ljava/lang/String;" .null := D_26 (Or.inr (own_w51 hw)) (ty := (.object "java/lang/String")) (by decide)
        have F_defaultValue_a : Fld Z h_26 a own_V "defaultValue" "Ljava/lang/String;" .null := D_26 (Or.inr (own_w53 hw)) (ty := (.object "java/lang/String")) (by decide)
        refine hst st_26 ?_
        show G (T_26.setTop (mkF m 55 #[.val (.int fl), .val (.int k0), .val (.int k1), .val (.int k2), .val (.int k3), .val (.ref k), .val (.ref t), .val (.ref b), .val .null, .unset, .unset, .unset] [(.ref a)]))
        refine hst (fun _ kt => XS.dup X_26.here hx rfl (hb hby at_55) rfl rfl kt) ?_
        show G (T_26.setTop (mkF m 56 #[.val (.int fl), .val (.int k0), .val (.int k1), .val (.int k2), .val (.int k3), .val (.ref k), .val (.ref t), .val (.ref b), .val .null, .unset, .unset, .unset] [(.ref a), (.ref a)]))
        refine hst (fun _ kt => XS.aload X_26.here hx rfl (hb hby at_56) rfl rfl kt) ?_
        show G (T_26.setTop (mkF m 58 #[.val (.int fl), .val (.int k0), .val (.int k1), .val (.int k2), .val (.int k3), .val (.ref k), .val (.ref t), .val (.ref b), .val .null, .unset, .unset, .unset] [(.ref k), (.ref a), (.ref a)]))
        refine hst (fun _ kt => XS.aload X_26.here hx rfl (hb hby at_58) rfl rfl kt) ?_
        show G (T_26.setTop (mkF m 60 #[.val (.int fl), .val (.int k0), .val (.int k1), .val (.int k2), .val (.int k3), .val (.ref k), .val (.ref t), .val (.ref b), .val .null, .unset, .unset, .unset] [(.ref t), (.ref k), (.ref a), (.ref a)]))
        refine hst (fun _ kt => XS.aload X_26.here hx rfl (hb hby at_60) rfl rfl kt) ?_
        show G (T_26.setTop (mkF m 62 #[.val (.int fl), .val (.int k0), .val (.int k1), .val (.int k2), .val (.int k3), .val (.ref k), .val (.ref t), .val (.ref b), .val .null, .unset, .unset, .unset] [(.ref b), (.ref t), (.ref k), (.ref a), (.ref a)]))
        refine hst (fun _ kt => XS.aload X_26.here hx rfl (hb hby at_62) rfl rfl kt) ?_
        show G (T_26.setTop (mkF m 64 #[.val (.int fl), .val (.int k0), .val (.int k1), .val (.int k2), .val (.int k3), .val (.ref k), .val (.ref t), .val (.ref b), .val .null, .unset, .unset, .unset] [.null, (.ref b), (.ref t), (.ref k), (.ref a), (.ref a)]))
        obtain ⟨_, _, ⟨T_27, L_27, k_27, n_27⟩, -, X_27, ⟨Lc_27, hQ_27, l_27, y_27, z_27⟩, st_27⟩ := X_26.specialBack hx (y := (⟨own_V, "<init>", "(Ljava/lang/String;Ljava/lang/String;Ljava/lang/String;Ljava/lang/String;)V"⟩ : MethodName)) rfl hown (mvT hZ (own_w37 hw)) (mvT hZ (own_w38 hw)) (mvT hZ (own_w39 hw)) (by decide) (backOf (W := 1) (rmI110 l Z a0 hw [] a k t b  h_26 n0 Z0 F_key_a F_topic_a F_broker_a F_defaultValue_a E_a le_n0_a) hZ (own_w39 hw) (own_w36 hw) (by decide) (by decide)) (g := (mkF m 64 #[.val (.int fl), .val (.int k0), .val (.int k1), .val (.int k2), .val (.int k3), .val (.ref k), .val (.ref t), .val (.ref b), .val .null, .unset, .unset, .unset] [.null, (.ref b), (.ref t), (.ref k), (.ref a), (.ref a)])) rfl (by rw [hml]; rfl) (Steps.refl _) (a := a) (argsL := [(.ref k), (.ref t), (.ref b), .null]) (rest := [(.ref a)]) (lenOf pd_3 rfl) rfl (by show 2 * 0 + _ ≤ _; exact Nat.le_of_eq rfl) (hb hby at_64) (fun _ _ => ⟨rfl, e_26, (by decide : 10 + 0 ≤ _), (by decide : 28 + 0 ≤ _)⟩)
        dsimp only [Pt.U, Pt.locs, Pt.cells, Pt.slots] at X_27 l_27 y_27 z_27 st_27 hQ_27
        subst l_27 y_27 z_27
        obtain ⟨rfl, N_27q, K_27, Ex_27, Q1, Q2, Q3⟩ := hQ_27
        have Z0 := Nat.le_trans Z0 K_27.1
        have E_a := E_a.keep K_27
        have F_topic_a := Q1
        have F_broker_a := Q2
        have F_defaultValue_a := Q3
        have N_27 := Fr.app N_25 N_27q
        refine hst (fun _ kt => st_27.trans kt) ?_
        show G (T_27.setTop (mkF m 67 #[.val (.int fl), .val (.int k0), .val (.int k1), .val (.int k2), .val (.int k3), .val (.ref k), .val (.ref t), .val (.ref b), .val .null, .unset, .unset, .unset] [(.ref a)]))
        refine hst (fun _ kt => XS.astore X_27.here hx rfl (hb hby at_67) rfl rfl (l' := #[.val (.int fl), .val (.int k0), .val (.int k1), .val (.int k2), .val (.int k3), .val (.ref k), .val (.ref t), .val (.ref b), .val .null, .val (.ref a), .unset, .unset]) rfl kt) ?_
        show G (T_27.setTop (mkF m 69 #[.val (.int fl), .val (.int k0), .val (.int k1), .val (.int k2), .val (.int k3), .val (.ref k), .val (.ref t), .val (.ref b), .val .null, .val (.ref a), .unset, .unset] []))
        refine hst (fun _ kt => XS.aload X_27.here hx rfl (hb hby at_69) rfl rfl kt) ?_
        show G (T_27.setTop (mkF m 71 #[.val (.int fl), .val (.int k0), .val (.int k1), .val (.int k2), .val (.int k3), .val (.ref k), .val (.ref t), .val (.ref b), .val .null, .val (.ref a), .unset, .unset] [(.ref a)]))
        obtain ⟨cq_28, kq_28, q_28a, q_28b, q_28c⟩ := isOf hZ rfl E_a
        obtain ⟨_, _, ⟨T_28, L_28, k_28, n_28⟩, -, X_28, ⟨Lc_28, hQ_28, l_28, y_28, z_28⟩, st_28⟩ := X_27.virtualBack hx (y := (⟨own_V, "value", "()Ljava/lang/String;"⟩ : MethodName)) (z := (⟨own_V, "value", "()Ljava/lang/String;"⟩ : MethodName)) hown (mvT hZ (own_w54 hw)) (mvT hZ (own_w55 hw)) (notFace_of_selects (args := #[]) (mvT hZ (own_w57 hw))) (mvT hZ (own_w57 hw)) (mvT hZ (own_w56 hw)) (by decide) (backOf (W := 0) (rmV110 l Z a0 hw [] a t b T_27.heap n0 Z0 F_topic_a F_broker_a F_defaultValue_a) hZ (own_w58 hw) (own_w36 hw) (by decide) (by decide)) q_28a q_28c (g := (mkF m 71 #[.val (.int fl), .val (.int k0), .val (.int k1), .val (.int k2), .val (.int k3), .val (.ref k), .val (.ref t), .val (.ref b), .val .null, .val (.ref a), .unset, .unset] [(.ref a)])) rfl (by rw [hml]; rfl) (Steps.refl _) (argsL := []) (rest := []) (lenOf pd_4 rfl) rfl (by show 2 * 0 + _ ≤ _; exact Nat.le_of_eq rfl) (hb hby at_71) (fun _ _ => ⟨rfl, rfl, (by decide : 10 + 0 ≤ _), (by decide : 28 + 0 ≤ _)⟩)
        dsimp only [Pt.U, Pt.locs, Pt.cells, Pt.slots] at X_28 l_28 y_28 z_28 st_28 hQ_28
        subst l_28 y_28 z_28
        obtain ⟨rfl, N_28q, eh_28⟩ := hQ_28
        have N_28 := Fr.app N_27 N_28q
        refine hst (fun _ kt => st_28.trans kt) ?_
        show G (T_28.setTop (mkF m 74 #[.val (.int fl), .val (.int k0), .val (.int k1), .val (.int k2), .val (.int k3), .val (.ref k), .val (.ref t), .val (.ref b), .val .null, .val (.ref a), .unset, .unset] [(.ref t)]))
        refine hst (fun _ kt => XS.astore X_28.here hx rfl (hb hby at_74) rfl rfl (l' := #[.val (.int fl), .val (.int k0), .val (.int k1), .val (.int k2), .val (.int k3), .val (.ref k), .val (.ref t), .val (.ref b), .val .null, .val (.ref a), .val (.ref t), .unset]) rfl kt) ?_
        show G (T_28.setTop (mkF m 76 #[.val (.int fl), .val (.int k0), .val (.int k1), .val (.int k2), .val (.int k3), .val (.ref k), .val (.ref t), .val (.ref b), .val .null, .val (.ref a), .val (.ref t), .unset] []))
        refine hst (fun _ kt => XS.iloadN X_28.here hx rfl (hb hby at_76) rfl kt) ?_
        show G (T_28.setTop (mkF m 77 #[.val (.int fl), .val (.int k0), .val (.int k1), .val (.int k2), .val (.int k3), .val (.ref k), .val (.ref t), .val (.ref b), .val .null, .val (.ref a), .val (.ref t), .unset] [(.int fl)]))
        refine hst (fun _ kt => XS.iconst X_28.here hx rfl (hb hby at_77) kt) ?_
        show G (T_28.setTop (mkF m 78 #[.val (.int fl), .val (.int k0), .val (.int k1), .val (.int k2), .val (.int k3), .val (.ref k), .val (.ref t), .val (.ref b), .val .null, .val (.ref a), .val (.ref t), .unset] [(.int (1 : Int32)), (.int fl)]))
        refine hst (fun _ kt => XS.iand X_28.here hx rfl (hb hby at_78) rfl kt) ?_
        show G (T_28.setTop (mkF m 79 #[.val (.int fl), .val (.int k0), .val (.int k1), .val (.int k2), .val (.int k3), .val (.ref k), .val (.ref t), .val (.ref b), .val .null, .val (.ref a), .val (.ref t), .unset] [(.int (fl &&& (1 : Int32)))]))
        have hc79 : ¬ ((fl &&& (1 : Int32)) = (0 : Int32)) := hf0
        refine hst (fun _ kt => XS.ifNo X_28.here hx rfl (hb hby at_79) rfl ((if0 _ _).trans (feq hc79).1) kt) ?_
        show G (T_28.setTop (mkF m 82 #[.val (.int fl), .val (.int k0), .val (.int k1), .val (.int k2), .val (.int k3), .val (.ref k), .val (.ref t), .val (.ref b), .val .null, .val (.ref a), .val (.ref t), .unset] []))
        refine hst (fun _ kt => XS.aload X_28.here hx rfl (hb hby at_82) rfl rfl kt) ?_
        show G (T_28.setTop (mkF m 84 #[.val (.int fl), .val (.int k0), .val (.int k1), .val (.int k2), .val (.int k3), .val (.ref k), .val (.ref t), .val (.ref b), .val .null, .val (.ref a), .val (.ref t), .unset] [(.ref t)]))
        refine hst (fun _ kt => XS.astore X_28.here hx rfl (hb hby at_84) rfl rfl (l' := #[.val (.int fl), .val (.int k0), .val (.int k1), .val (.int k2), .val (.int k3), .val (.ref k), .val (.ref t), .val (.ref b), .val .null, .val (.ref a), .val (.ref t), .val (.ref t)]) rfl kt) ?_
        show G (T_28.setTop (mkF m 86 #[.val (.int fl), .val (.int k0), .val (.int k1), .val (.int k2), .val (.int k3), .val (.ref k), .val (.ref t), .val (.ref b), .val .null, .val (.ref a), .val (.ref t), .val (.ref t)] []))
        refine hst (fun _ kt => XS.goto X_28.here hx rfl (pc0 := 86) (pc' := 106) rfl (hb hby at_86) (by decide) (by decide) kt) ?_
        show G (T_28.setTop (mkF m 106 #[.val (.int fl), .val (.int k0), .val (.int k1), .val (.int k2), .val (.int k3), .val (.ref k), .val (.ref t), .val (.ref b), .val .null, .val (.ref a), .val (.ref t), .val (.ref t)] []))
        refine hst (fun _ kt => XS.aload X_28.here hx rfl (hb hby at_106) rfl rfl kt) ?_
        show G (T_28.setTop (mkF m 108 #[.val (.int fl), .val (.int k0), .val (.int k1), .val (.int k2), .val (.int k3), .val (.ref k), .val (.ref t), .val (.ref b), .val .null, .val (.ref a), .val (.ref t), .val (.ref t)] [(.ref t)]))
        refine hst (fun _ kt => XS.aload X_28.here hx rfl (hb hby at_108) rfl rfl kt) ?_
        show G (T_28.setTop (mkF m 110 #[.val (.int fl), .val (.int k0), .val (.int k1), .val (.int k2), .val (.int k3), .val (.ref k), .val (.ref t), .val (.ref b), .val .null, .val (.ref a), .val (.ref t), .val (.ref t)] [(.ref t), (.ref t)]))
        refine hst (fun _ kt => Jvm.RoadKit.acmp (g := (mkF m 110 #[.val (.int fl), .val (.int k0), .val (.int k1), .val (.int k2), .val (.int k3), .val (.ref k), .val (.ref t), .val (.ref b), .val .null, .val (.ref a), .val (.ref t), .val (.ref t)] [(.ref t), (.ref t)])) X_28 hx rfl rfl rfl (pc0 := 110) (pc' := 113) (same := true) rfl (hb hby at_110) rfl (decide_eq_true rfl) (by decide) (by decide) kt) ?_
        show G (T_28.setTop (mkF m 113 #[.val (.int fl), .val (.int k0), .val (.int k1), .val (.int k2), .val (.int k3), .val (.ref k), .val (.ref t), .val (.ref b), .val .null, .val (.ref a), .val (.ref t), .val (.ref t)] []))
        refine hst (fun _ kt => XS.iconst X_28.here hx rfl (hb hby at_113) kt) ?_
        show G (T_28.setTop (mkF m 114 #[.val (.int fl), .val (.int k0), .val (.int k1), .val (.int k2), .val (.int k3), .val (.ref k), .val (.ref t), .val (.ref b), .val .null, .val (.ref a), .val (.ref t), .val (.ref t)] [(.int (1 : Int32))]))
        refine hst (fun _ kt => XS.goto X_28.here hx rfl (pc0 := 114) (pc' := 118) rfl (hb hby at_114) (by decide) (by decide) kt) ?_
        show G (T_28.setTop (mkF m 118 #[.val (.int fl), .val (.int k0), .val (.int k1), .val (.int k2), .val (.int k3), .val (.ref k), .val (.ref t), .val (.ref b), .val .null, .val (.ref a), .val (.ref t), .val (.ref t)] [(.int (1 : Int32))]))
        exact hend (own_goRet X_28 hx Bd.returns rfl (Or.inl ⟨rfl, by simp, _, rfl⟩) (hb hby at_118) Bd.notSynchronized (by rw [eh_28]; exact ⟨rfl, N_28⟩) (by decide) (by decide))
      ·
        refine hst (fun _ kt => XS.ifNo X_25.here hx rfl (hb hby at_42) rfl ((if0 _ _).trans (feq hf2).1) kt) ?_
        show G (T_25.setTop (mkF m 45 #[.val (.int fl), .val (.int k0), .val (.int k1), .val (.int k2), .val (.int k3), .val (.ref k), .val (.ref t), .val (.ref b), .val .null, .unset, .unset, .unset] []))
        refine hst (fun _ kt => XS.iload X_25.here hx rfl (hb hby at_45) rfl kt) ?_
        show G (T_25.setTop (mkF m 47 #[.val (.int fl), .val (.int k0), .val (.int k1), .val (.int k2), .val (.int k3), .val (.ref k), .val (.ref t), .val (.ref b), .val .null, .unset, .unset, .unset] [(.int k3)]))
        obtain ⟨_, _, ⟨T_29, L_29, k_29, n_29⟩, -, X_29, ⟨Lc_29, hQ_29, l_29, y_29, z_29⟩, st_29⟩ := Jvm.LawKit.callS X_25 hx (y := (⟨x.cls, "draw", "(I)Ljava/lang/String;"⟩ : MethodName)) hown (mvT hZ (own_w0 hw)) (mvT hZ (own_w1 hw)) (mvT hZ (own_w2 hw)) (mvT hZ (own_w3 hw)) (by decide) (backOf (W := 0) (rm1 l Z a0 hw [] k3 cz T_25.heap n0 Z0 S_c hcz) hZ (own_w3 hw) (own_w2 hw) (by decide) (by decide)) (g := (mkF m 47 #[.val (.int fl), .val (.int k0), .val (.int k1), .val (.int k2), .val (.int k3), .val (.ref k), .val (.ref t), .val (.ref b), .val .null, .unset, .unset, .unset] [(.int k3)])) rfl (by rw [hml]; rfl) (argsL := [(.int k3)]) (rest := []) (lenOf pd_2 rfl) rfl (by show 2 * 0 + _ ≤ _; exact Nat.le_of_eq rfl) (hb hby at_47) (fun _ _ => ⟨rfl, rfl, (by decide : 9 + 3 ≤ _), (by decide : 24 + 8 ≤ _)⟩)
        dsimp only [Pt.U, Pt.locs, Pt.cells, Pt.slots] at X_29 l_29 y_29 z_29 st_29 hQ_29
        subst l_29 y_29 z_29
        obtain ⟨dd, rfl, N_29q, K_29⟩ := hQ_29
        have Z0 := Nat.le_trans Z0 K_29.1
        have S_c := own_Sta_keep S_c K_29 
        have N_29 := Fr.app N_25 N_29q
        refine hst (fun _ kt => st_29 _ kt) ?_
        show G (T_29.setTop (mkF m 50 #[.val (.int fl), .val (.int k0), .val (.int k1), .val (.int k2), .val (.int k3), .val (.ref k), .val (.ref t), .val (.ref b), .val .null, .unset, .unset, .unset] [(.ref dd)]))
        refine hst (fun _ kt => XS.astore X_29.here hx rfl (hb hby at_50) rfl rfl (l' := #[.val (.int fl), .val (.int k0), .val (.int k1), .val (.int k2), .val (.int k3), .val (.ref k), .val (.ref t), .val (.ref b), .val (.ref dd), .unset, .unset, .unset]) rfl kt) ?_
        show G (T_29.setTop (mkF m 52 #[.val (.int fl), .val (.int k0), .val (.int k1), .val (.int k2), .val (.int k3), .val (.ref k), .val (.ref t), .val (.ref b), .val (.ref dd), .unset, .unset, .unset] []))
        obtain ⟨T_30, h_30, X_30, e_30, E_30, A_30, D_30, -, st_30⟩ := newO X_29 hx hZ hown (own_w34 hw) (own_w35 hw) (own_w36 hw) rfl (g := (mkF m 52 #[.val (.int fl), .val (.int k0), .val (.int k1), .val (.int k2), .val (.int k3), .val (.ref k), .val (.ref t), .val (.ref b), .val (.ref dd), .unset, .unset, .unset] [])) rfl (hb hby at_52) (by decide) (by decide)
        obtain ⟨a, g_a⟩ : ∃ z, z = T_29.heap.size := ⟨_, rfl⟩
        rw [← g_a] at A_30 D_30 st_30
        have le_n0_a : n0 ≤ a := Nat.le_trans Z0 (Nat.le_of_eq g_a.symm)
        have Z0 := Nat.le_trans Z0 E_30.1
        have S_c := S_c.ext E_30
        have E_a : Exa Z h_30 a own_V := A_30
        have F_key_a : Fld Z h_30 a own_V "key" "Ljava/lang/String;" .null := D_30 (Or.inr (own_w47 hw)) (ty := (.object "java/lang/String")) (by decide)
        have F_topic_a : Fld Z h_30 a own_V "topic" "Ljava/lang/String;" .null := D_30 (Or.inr (own_w49 hw)) (ty := (.object "java/lang/String")) (by decide)
        have F_broker_a : Fld Z h_30 a own_V "broker" "Ljava/lang/String;" .null := D_30 (Or.inr (own_w51 hw)) (ty := (.object "java/lang/String")) (by decide)
        have F_defaultValue_a : Fld Z h_30 a own_V "defaultValue" "Ljava/lang/String;" .null := D_30 (Or.inr (own_w53 hw)) (ty := (.object "java/lang/String")) (by decide)
        refine hst st_30 ?_
        show G (T_30.setTop (mkF m 55 #[.val (.int fl), .val (.int k0), .val (.int k1), .val (.int k2), .val (.int k3), .val (.ref k), .val (.ref t), .val (.ref b), .val (.ref dd), .unset, .unset, .unset] [(.ref a)]))
        refine hst (fun _ kt => XS.dup X_30.here hx rfl (hb hby at_55) rfl rfl kt) ?_
        show G (T_30.setTop (mkF m 56 #[.val (.int fl), .val (.int k0), .val (.int k1), .val (.int k2), .val (.int k3), .val (.ref k), .val (.ref t), .val (.ref b), .val (.ref dd), .unset, .unset, .unset] [(.ref a), (.ref a)]))
        refine hst (fun _ kt => XS.aload X_30.here hx rfl (hb hby at_56) rfl rfl kt) ?_
        show G (T_30.setTop (mkF m 58 #[.val (.int fl), .val (.int k0), .val (.int k1), .val (.int k2), .val (.int k3), .val (.ref k), .val (.ref t), .val (.ref b), .val (.ref dd), .unset, .unset, .unset] [(.ref k), (.ref a), (.ref a)]))
        refine hst (fun _ kt => XS.aload X_30.here hx rfl (hb hby at_58) rfl rfl kt) ?_
        show G (T_30.setTop (mkF m 60 #[.val (.int fl), .val (.int k0), .val (.int k1), .val (.int k2), .val (.int k3), .val (.ref k), .val (.ref t), .val (.ref b), .val (.ref dd), .unset, .unset, .unset] [(.ref t), (.ref k), (.ref a), (.ref a)]))
        refine hst (fun _ kt => XS.aload X_30.here hx rfl (hb hby at_60) rfl rfl kt) ?_
        show G (T_30.setTop (mkF m 62 #[.val (.int fl), .val (.int k0), .val (.int k1), .val (.int k2), .val (.int k3), .val (.ref k), .val (.ref t), .val (.ref b), .val (.ref dd), .unset, .unset, .unset] [(.ref b), (.ref t), (.ref k), (.ref a), (.ref a)]))
        refine hst (fun _ kt => XS.aload X_30.here hx rfl (hb hby at_62) rfl rfl kt) ?_
        show G (T_30.setTop (mkF m 64 #[.val (.int fl), .val (.int k0), .val (.int k1), .val (.int k2), .val (.int k3), .val (.ref k), .val (.ref t), .val (.ref b), .val (.ref dd), .unset, .unset, .unset] [(.ref dd), (.ref b), (.ref t), (.ref k), (.ref a), (.ref a)]))
        obtain ⟨_, _, ⟨T_31, L_31, k_31, n_31⟩, -, X_31, ⟨Lc_31, hQ_31, l_31, y_31, z_31⟩, st_31⟩ := X_30.specialBack hx (y := (⟨own_V, "<init>", "(Ljava/lang/String;Ljava/lang/String;Ljava/lang/String;Ljava/lang/String;)V"⟩ : MethodName)) rfl hown (mvT hZ (own_w37 hw)) (mvT hZ (own_w38 hw)) (mvT hZ (own_w39 hw)) (by decide) (backOf (W := 1) (rmI111 l Z a0 hw [] a k t b dd  h_30 n0 Z0 F_key_a F_topic_a F_broker_a F_defaultValue_a E_a le_n0_a) hZ (own_w39 hw) (own_w36 hw) (by decide) (by decide)) (g := (mkF m 64 #[.val (.int fl), .val (.int k0), .val (.int k1), .val (.int k2), .val (.int k3), .val (.ref k), .val (.ref t), .val (.ref b), .val (.ref dd), .unset, .unset, .unset] [(.ref dd), (.ref b), (.ref t), (.ref k), (.ref a), (.ref a)])) rfl (by rw [hml]; rfl) (Steps.refl _) (a := a) (argsL := [(.ref k), (.ref t), (.ref b), (.ref dd)]) (rest := [(.ref a)]) (lenOf pd_3 rfl) rfl (by show 2 * 0 + _ ≤ _; exact Nat.le_of_eq rfl) (hb hby at_64) (fun _ _ => ⟨rfl, e_30, (by decide : 13 + 0 ≤ _), (by decide : 36 + 0 ≤ _)⟩)
        dsimp only [Pt.U, Pt.locs, Pt.cells, Pt.slots] at X_31 l_31 y_31 z_31 st_31 hQ_31
        subst l_31 y_31 z_31
        obtain ⟨rfl, N_31q, K_31, Ex_31, Q1, Q2, Q3⟩ := hQ_31
        have Z0 := Nat.le_trans Z0 K_31.1
        have E_a := E_a.keep K_31
        have F_topic_a := Q1
        have F_broker_a := Q2
        have F_defaultValue_a := Q3
        have N_31 := Fr.app N_29 N_31q
        refine hst (fun _ kt => st_31.trans kt) ?_
        show G (T_31.setTop (mkF m 67 #[.val (.int fl), .val (.int k0), .val (.int k1), .val (.int k2), .val (.int k3), .val (.ref k), .val (.ref t), .val (.ref b), .val (.ref dd), .unset, .unset, .unset] [(.ref a)]))
        refine hst (fun _ kt => XS.astore X_31.here hx rfl (hb hby at_67) rfl rfl (l' := #[.val (.int fl), .val (.int k0), .val (.int k1), .val (.int k2), .val (.int k3), .val (.ref k), .val (.ref t), .val (.ref b), .val (.ref dd), .val (.ref a), .unset, .unset]) rfl kt) ?_
        show G (T_31.setTop (mkF m 69 #[.val (.int fl), .val (.int k0), .val (.int k1), .val (.int k2), .val (.int k3), .val (.ref k), .val (.ref t), .val (.ref b), .val (.ref dd), .val (.ref a), .unset, .unset] []))
        refine hst (fun _ kt => XS.aload X_31.here hx rfl (hb hby at_69) rfl rfl kt) ?_
        show G (T_31.setTop (mkF m 71 #[.val (.int fl), .val (.int k0), .val (.int k1), .val (.int k2), .val (.int k3), .val (.ref k), .val (.ref t), .val (.ref b), .val (.ref dd), .val (.ref a), .unset, .unset] [(.ref a)]))
        obtain ⟨cq_32, kq_32, q_32a, q_32b, q_32c⟩ := isOf hZ rfl E_a
        obtain ⟨_, _, ⟨T_32, L_32, k_32, n_32⟩, -, X_32, ⟨Lc_32, hQ_32, l_32, y_32, z_32⟩, st_32⟩ := X_31.virtualBack hx (y := (⟨own_V, "value", "()Ljava/lang/String;"⟩ : MethodName)) (z := (⟨own_V, "value", "()Ljava/lang/String;"⟩ : MethodName)) hown (mvT hZ (own_w54 hw)) (mvT hZ (own_w55 hw)) (notFace_of_selects (args := #[]) (mvT hZ (own_w57 hw))) (mvT hZ (own_w57 hw)) (mvT hZ (own_w56 hw)) (by decide) (backOf (W := 0) (rmV111 l Z a0 hw [] a t b dd T_31.heap n0 Z0 F_topic_a F_broker_a F_defaultValue_a) hZ (own_w58 hw) (own_w36 hw) (by decide) (by decide)) q_32a q_32c (g := (mkF m 71 #[.val (.int fl), .val (.int k0), .val (.int k1), .val (.int k2), .val (.int k3), .val (.ref k), .val (.ref t), .val (.ref b), .val (.ref dd), .val (.ref a), .unset, .unset] [(.ref a)])) rfl (by rw [hml]; rfl) (Steps.refl _) (argsL := []) (rest := []) (lenOf pd_4 rfl) rfl (by show 2 * 0 + _ ≤ _; exact Nat.le_of_eq rfl) (hb hby at_71) (fun _ _ => ⟨rfl, rfl, (by decide : 13 + 0 ≤ _), (by decide : 36 + 0 ≤ _)⟩)
        dsimp only [Pt.U, Pt.locs, Pt.cells, Pt.slots] at X_32 l_32 y_32 z_32 st_32 hQ_32
        subst l_32 y_32 z_32
        obtain ⟨rfl, N_32q, eh_32⟩ := hQ_32
        have N_32 := Fr.app N_31 N_32q
        refine hst (fun _ kt => st_32.trans kt) ?_
        show G (T_32.setTop (mkF m 74 #[.val (.int fl), .val (.int k0), .val (.int k1), .val (.int k2), .val (.int k3), .val (.ref k), .val (.ref t), .val (.ref b), .val (.ref dd), .val (.ref a), .unset, .unset] [(.ref t)]))
        refine hst (fun _ kt => XS.astore X_32.here hx rfl (hb hby at_74) rfl rfl (l' := #[.val (.int fl), .val (.int k0), .val (.int k1), .val (.int k2), .val (.int k3), .val (.ref k), .val (.ref t), .val (.ref b), .val (.ref dd), .val (.ref a), .val (.ref t), .unset]) rfl kt) ?_
        show G (T_32.setTop (mkF m 76 #[.val (.int fl), .val (.int k0), .val (.int k1), .val (.int k2), .val (.int k3), .val (.ref k), .val (.ref t), .val (.ref b), .val (.ref dd), .val (.ref a), .val (.ref t), .unset] []))
        refine hst (fun _ kt => XS.iloadN X_32.here hx rfl (hb hby at_76) rfl kt) ?_
        show G (T_32.setTop (mkF m 77 #[.val (.int fl), .val (.int k0), .val (.int k1), .val (.int k2), .val (.int k3), .val (.ref k), .val (.ref t), .val (.ref b), .val (.ref dd), .val (.ref a), .val (.ref t), .unset] [(.int fl)]))
        refine hst (fun _ kt => XS.iconst X_32.here hx rfl (hb hby at_77) kt) ?_
        show G (T_32.setTop (mkF m 78 #[.val (.int fl), .val (.int k0), .val (.int k1), .val (.int k2), .val (.int k3), .val (.ref k), .val (.ref t), .val (.ref b), .val (.ref dd), .val (.ref a), .val (.ref t), .unset] [(.int (1 : Int32)), (.int fl)]))
        refine hst (fun _ kt => XS.iand X_32.here hx rfl (hb hby at_78) rfl kt) ?_
        show G (T_32.setTop (mkF m 79 #[.val (.int fl), .val (.int k0), .val (.int k1), .val (.int k2), .val (.int k3), .val (.ref k), .val (.ref t), .val (.ref b), .val (.ref dd), .val (.ref a), .val (.ref t), .unset] [(.int (fl &&& (1 : Int32)))]))
        have hc79 : ¬ ((fl &&& (1 : Int32)) = (0 : Int32)) := hf0
        refine hst (fun _ kt => XS.ifNo X_32.here hx rfl (hb hby at_79) rfl ((if0 _ _).trans (feq hc79).1) kt) ?_
        show G (T_32.setTop (mkF m 82 #[.val (.int fl), .val (.int k0), .val (.int k1), .val (.int k2), .val (.int k3), .val (.ref k), .val (.ref t), .val (.ref b), .val (.ref dd), .val (.ref a), .val (.ref t), .unset] []))
        refine hst (fun _ kt => XS.aload X_32.here hx rfl (hb hby at_82) rfl rfl kt) ?_
        show G (T_32.setTop (mkF m 84 #[.val (.int fl), .val (.int k0), .val (.int k1), .val (.int k2), .val (.int k3), .val (.ref k), .val (.ref t), .val (.ref b), .val (.ref dd), .val (.ref a), .val (.ref t), .unset] [(.ref t)]))
        refine hst (fun _ kt => XS.astore X_32.here hx rfl (hb hby at_84) rfl rfl (l' := #[.val (.int fl), .val (.int k0), .val (.int k1), .val (.int k2), .val (.int k3), .val (.ref k), .val (.ref t), .val (.ref b), .val (.ref dd), .val (.ref a), .val (.ref t), .val (.ref t)]) rfl kt) ?_
        show G (T_32.setTop (mkF m 86 #[.val (.int fl), .val (.int k0), .val (.int k1), .val (.int k2), .val (.int k3), .val (.ref k), .val (.ref t), .val (.ref b), .val (.ref dd), .val (.ref a), .val (.ref t), .val (.ref t)] []))
        refine hst (fun _ kt => XS.goto X_32.here hx rfl (pc0 := 86) (pc' := 106) rfl (hb hby at_86) (by decide) (by decide) kt) ?_
        show G (T_32.setTop (mkF m 106 #[.val (.int fl), .val (.int k0), .val (.int k1), .val (.int k2), .val (.int k3), .val (.ref k), .val (.ref t), .val (.ref b), .val (.ref dd), .val (.ref a), .val (.ref t), .val (.ref t)] []))
        refine hst (fun _ kt => XS.aload X_32.here hx rfl (hb hby at_106) rfl rfl kt) ?_
        show G (T_32.setTop (mkF m 108 #[.val (.int fl), .val (.int k0), .val (.int k1), .val (.int k2), .val (.int k3), .val (.ref k), .val (.ref t), .val (.ref b), .val (.ref dd), .val (.ref a), .val (.ref t), .val (.ref t)] [(.ref t)]))
        refine hst (fun _ kt => XS.aload X_32.here hx rfl (hb hby at_108) rfl rfl kt) ?_
        show G (T_32.setTop (mkF m 110 #[.val (.int fl), .val (.int k0), .val (.int k1), .val (.int k2), .val (.int k3), .val (.ref k), .val (.ref t), .val (.ref b), .val (.ref dd), .val (.ref a), .val (.ref t), .val (.ref t)] [(.ref t), (.ref t)]))
        refine hst (fun _ kt => Jvm.RoadKit.acmp (g := (mkF m 110 #[.val (.int fl), .val (.int k0), .val (.int k1), .val (.int k2), .val (.int k3), .val (.ref k), .val (.ref t), .val (.ref b), .val (.ref dd), .val (.ref a), .val (.ref t), .val (.ref t)] [(.ref t), (.ref t)])) X_32 hx rfl rfl rfl (pc0 := 110) (pc' := 113) (same := true) rfl (hb hby at_110) rfl (decide_eq_true rfl) (by decide) (by decide) kt) ?_
        show G (T_32.setTop (mkF m 113 #[.val (.int fl), .val (.int k0), .val (.int k1), .val (.int k2), .val (.int k3), .val (.ref k), .val (.ref t), .val (.ref b), .val (.ref dd), .val (.ref a), .val (.ref t), .val (.ref t)] []))
        refine hst (fun _ kt => XS.iconst X_32.here hx rfl (hb hby at_113) kt) ?_
        show G (T_32.setTop (mkF m 114 #[.val (.int fl), .val (.int k0), .val (.int k1), .val (.int k2), .val (.int k3), .val (.ref k), .val (.ref t), .val (.ref b), .val (.ref dd), .val (.ref a), .val (.ref t), .val (.ref t)] [(.int (1 : Int32))]))
        refine hst (fun _ kt => XS.goto X_32.here hx rfl (pc0 := 114) (pc' := 118) rfl (hb hby at_114) (by decide) (by decide) kt) ?_
        show G (T_32.setTop (mkF m 118 #[.val (.int fl), .val (.int k0), .val (.int k1), .val (.int k2), .val (.int k3), .val (.ref k), .val (.ref t), .val (.ref b), .val (.ref dd), .val (.ref a), .val (.ref t), .val (.ref t)] [(.int (1 : Int32))]))
        exact hend (own_goRet X_32 hx Bd.returns rfl (Or.inl ⟨rfl, by simp, _, rfl⟩) (hb hby at_118) Bd.notSynchronized (by rw [eh_32]; exact ⟨rfl, N_32⟩) (by decide) (by decide))
set_option maxRecDepth 65536 in
set_option maxHeartbeats 40000000 in
theorem comes_1 {Post : Tables → Env → Array Value → State → Outcome → State → Prop} (hpost : ∀ tb e args s v u, (limb_1_1.after args s (.returned v) u = true ∧ limb_1_2.after args s (.returned v) u = true ∧ True) → FrameEnd s (.returned v) u (Jvm.fieldLocs frame_1_writes args s ++ Jvm.arrayLocs frame_1_arrays args s ++ Jvm.staticLocs frame_1_statics s) 40 192 → Post tb e args s (.returned v) u) :
    ArmFor flags0 classFile x code maxLocals ret World_1 tables_1 room_1 Calls_1 rest_1 Pre_1 Post := by
  intro l hfl _ _ p e ha hc hk s m args below hf hA hF happ hP
  obtain ⟨hcalls, hrest, hpre⟩ := hP
  obtain ⟨-, -, -, hnamed, -, -, -, hat⟩ := (Spec.applies_iff hf).mp happ
  obtain ⟨hg, hn⟩ := and_e (Cond.before_iff.mp (show (Jvm.Cond.and given_1 narrow_1).before args s = true from hpre))
  obtain ⟨gc, g0⟩ := and_e hg
  obtain ⟨ga0, g1⟩ := and_e g0
  obtain ⟨ga1, g2⟩ := and_e g1
  obtain ⟨ga2, g3⟩ := and_e g2
  obtain ⟨ga3, g4⟩ := and_e g3
  obtain ⟨w0, w1, w2, w3, w4, rfl⟩ : ∃ w0 w1 w2 w3 w4 : Value, args = #[w0, w1, w2, w3, w4] := by
    have hs : args.size = 5 := by simpa [Cond.value, given_1] using gc
    obtain ⟨L⟩ := args
    match L, hs with
    | [w0, w1, w2, w3, w4], _ => exact ⟨w0, w1, w2, w3, w4, rfl⟩
  have hw := fun d (hd : d ∈ tables_1) => atoms_spec (ws := Jvm.Cond.code x code maxLocals ret :: tables_1) hat d (List.mem_cons_of_mem _ hd)
  have hfit : Fit s := fun {y c} hc i hi => by
    obtain ⟨ha, rfl⟩ := Array.getElem?_eq_some_iff.mp hc
    have q := List.all_eq_true.mp ((Array.all_eq_true_iff_forall_mem.mp hF) _ (Array.getElem_mem ha)) i (List.mem_range.mpr hi)
    simpa [Array.getElem?_eq_getElem hi] using q
  obtain ⟨hsets, hown0⟩ := atoms_of _ (rest_1_c_eq ▸ (show rest_1_c.before _ s = true from hrest))
  have hr0 := Cond.before_iff.mp hown0
  obtain ⟨i0, ei0⟩ := is_v ga0
  obtain rfl : w0 = (.int i0) := Option.some.inj ei0
  obtain ⟨i1, ei1⟩ := is_v ga1
  obtain rfl : w1 = (.int i1) := Option.some.inj ei1
  obtain ⟨i2, ei2⟩ := is_v ga2
  obtain rfl : w2 = (.int i2) := Option.some.inj ei2
  obtain ⟨i3, ei3⟩ := is_v ga3
  obtain rfl : w3 = (.int i3) := Option.some.inj ei3
  obtain ⟨i4, ei4⟩ := is_v g4
  obtain rfl : w4 = (.int i4) := Option.some.inj ei4
  have hs1 := Cond.before_iff.mp (hsets _ (List.mem_of_getElem? (i := 1) rfl))
  have hs2 := Cond.before_iff.mp (hsets _ (List.mem_of_getElem? (i := 2) rfl))
  obtain ⟨cz, evc⟩ := is_v hs1
  have hcz : ¬ cz = 0 := fun q => by
    subst q
    have := not_v hs2
    simp [Cond.value, evc, Term.int_eval] at this
  have S_c := Sta.start evc (Or.inl (hsets _ (List.mem_of_getElem? (i := 0) rfl)))
  obtain ⟨n, o, h1, h2, h3, _, L, rfl, ⟨rfl, N⟩, hq⟩ := rm0 l s _ hw tables_1 i0 i1 i2 i3 i4 cz s.heap s.heap.size (Nat.le_refl _) S_c hcz p e ha hc hk s m _ below hf ((Spec.applies_iff_loose hf).mp happ).1 ⟨rfl, State.Warmed39.refl s, rfl⟩ trivial
  refine ⟨n, _, h1, h2, h3, hpost _ _ _ _ _ _ ⟨Cond.after_iff.mpr rfl, Cond.after_iff.mpr (eq_i res_at (Term.int_eval (1)) rfl), trivial⟩ ⟨hq.1, hq.2.1, (hq.2.2.sift fun y hy => Or.inr (N y hy)).mono (by decide) (by decide)⟩⟩
theorem main_1_1 : Claimed_1_1 := comes_1 fun _ _ _ _ _ _ h hF => ⟨h.1, hF⟩
theorem main_1_2 : Claimed_1_2 := comes_1 fun _ _ _ _ _ _ h hF => ⟨h.2.1, hF⟩
end Jvm.Pilot.@@N@@
namespace Jvm.Pilot.@@N@@
open Jvm Jvm.ClassFile Sem Op Lib Jvm.Free Jvm.Stand Jvm.Pilot.@@N@@.Jvm.D
/-! MADE BY PROGRAM (witnessworld.py) out of the Statement's table words and the real class files: 21 classes; the members and pool entries that the words name. The judged class is class 1, her method 2. -/
namespace start1
open Jvm.ClassFile
def u (s : String) : CpInfo := .utf8 (stringToUtf16 s)
/-- a pool by its gaps: so many unusable entries, then the entry; so many at the end -/
def gap : Nat → List CpInfo → List CpInfo
  | 0, r => r
  | n + 1, r => .unusable :: gap n r
def poolList (es : List (Nat × CpInfo)) (last : Nat) : List CpInfo := es.foldr (fun e r => gap e.1 (e.2 :: r)) (gap last [])
def pool (es : List (Nat × CpInfo)) (last : Nat) : Array CpInfo := ⟨poolList es last⟩
def fileOf (pool : Array CpInfo) (this : Nat) (attrs : Array Attribute := #[]) (ms : Array MethodInfo := #[]) (fl : Nat := 33) (sup : Nat := 0) (ifs : Array Nat := #[]) (fds : Array FieldInfo := #[]) : ClassFile where
  minorVersion := 0
  majorVersion := 65
  constantPool := pool
  accessFlags := fl
  thisClass := this
  superClass := sup
  interfaces := ifs
  fields := fds
  methods := ms
  attributes := attrs
def plain (name : String) (sup : Option ClassId) : Class where
  name := name
  kind := .ordinary
  loader := none
  accessFlags := 33
  super := sup
  interfaces := #[]
  cf := none
  fields := #[]
  methods := #[]
  instanceTypes := #[]
  staticTypes := #[]
  resolved := #[]
  callSites := []
  init := .initialized
  statics := none
  mirror := none

def pool0 : Array CpInfo := pool [(5, u "<init>"), (0, u "()V"), (1, .class_ 10), (1, u "java/lang/Object")] 113

def k0c0 : Code := { maxStack := 0, maxLocals := 1, code := object_method_1_code, exceptionTable := #[], attributes := #[] }
def k0m0 : Method := { name := "<init>", desc := "()V", sig := { parameters := [], returnType := none }, accessFlags := 1, code := some k0c0 }
/-- java/lang/Object -/
def k0 : Class := { plain "java/lang/Object" none with
  accessFlags := 33
  interfaces := #[]
  cf := some (fileOf pool0 8 #[] #[{ accessFlags := 1, nameIndex := 5, descriptorIndex := 6, attributes := #[] }] 33 0 #[] #[])
  fields := #[]
  methods := #[k0m0]
  instanceTypes := #[]
  staticTypes := #[]
  resolved := Array.replicate 124 none
  statics := none }

def pool1 : Array CpInfo := pool [(2, .class_ 4), (1, u "java/lang/Object"), (0, u "<init>"), (0, u "()V"), (0, .class_ 8), (0, u "java/lang/String"), (0, .methodref 7 10), (0, .nameAndType 5 11), (0, u "([C)V"), (0, .methodref 13 14), (0, .class_ 15), (0, .nameAndType 16 17), (0, u "com/example/cairnstream/cairnstream/config/SettingValueValuePinLaw"), (0, u "draw"), (0, u "(I)Ljava/lang/String;"), (0, .class_ 19), (0, u "com/example/cairnstream/cairnstream/config/SettingValue"), (0, .methodref 18 21), (0, .nameAndType 5 22), (0, u "(Ljava/lang/String;Ljava/lang/String;Ljava/lang/String;Ljava/lang/String;)V"), (0, .methodref 18 24), (0, .nameAndType 25 26), (0, u "value"), (0, u "()Ljava/lang/String;"), (2, u "law"), (0, u "(IIIII)Z")] 3

def k1m0 : Method := { name := "<init>", desc := "()V", sig := { parameters := [], returnType := none }, accessFlags := 1, code := none }
def k1c1 : Code := { maxStack := 4, maxLocals := 2, code := method_2_code, exceptionTable := #[], attributes := #[] }
def k1m1 : Method := { name := "draw", desc := "(I)Ljava/lang/String;", sig := { parameters := [.int], returnType := some (.object "java/lang/String") }, accessFlags := 10, code := some k1c1 }
def k1c2 : Code := { maxStack := 6, maxLocals := 12, code := code, exceptionTable := #[], attributes := #[] }
def k1m2 : Method := { name := "law", desc := "(IIIII)Z", sig := { parameters := [.int, .int, .int, .int, .int], returnType := some .boolean }, accessFlags := 9, code := some k1c2 }
/-- com/example/cairnstream/cairnstream/config/SettingValueValuePinLaw -/
def k1 : Class := { plain "com/example/cairnstream/cairnstream/config/SettingValueValuePinLaw" (some 0) with
  accessFlags := 49
  interfaces := #[]
  cf := some (fileOf pool1 13 #[] #[{ accessFlags := 1, nameIndex := 5, descriptorIndex := 6, attributes := #[] }, { accessFlags := 10, nameIndex := 16, descriptorIndex := 17, attributes := #[] }, { accessFlags := 9, nameIndex := 29, descriptorIndex := 30, attributes := #[] }] 49 2 #[] #[])
  fields := #[]
  methods := #[k1m0, k1m1, k1m2]
  instanceTypes := #[]
  staticTypes := #[]
  resolved := Array.replicate 34 none
  statics := none }

def pool2 : Array CpInfo := pool [(1, .class_ 2), (0, u "java/io/Serializable"), (0, .class_ 4), (0, u "java/lang/Object")] 2

/-- java/io/Serializable -/
def k2 : Class := { plain "java/io/Serializable" (some 0) with
  accessFlags := 1537
  interfaces := #[]
  cf := some (fileOf pool2 1 #[] #[] 1537 3 #[] #[])
  fields := #[]
  methods := #[]
  instanceTypes := #[]
  staticTypes := #[]
  resolved := Array.replicate 7 none
  statics := none }

def pool3 : Array CpInfo := pool [(1, .class_ 2), (0, u "java/lang/Comparable"), (0, .class_ 4), (0, u "java/lang/Object")] 7

/-- java/lang/Comparable -/
def k3 : Class := { plain "java/lang/Comparable" (some 0) with
  accessFlags := 1537
  interfaces := #[]
  cf := some (fileOf pool3 1 #[] #[] 1537 3 #[] #[])
  fields := #[]
  methods := #[]
  instanceTypes := #[]
  staticTypes := #[]
  resolved := Array.replicate 12 none
  statics := none }

def pool4 : Array CpInfo := pool [(2, .class_ 4), (1, u "java/lang/CharSequence"), (42, .class_ 48), (0, u "java/lang/CharSequence$1CodePointIterator"), (10, .class_ 60), (0, u "java/lang/CharSequence$1CharIterator"), (5, .class_ 67), (0, u "java/lang/Object")] 63

/-- java/lang/CharSequence -/
def k4 : Class := { plain "java/lang/CharSequence" (some 0) with
  accessFlags := 1537
  interfaces := #[]
  cf := some (fileOf pool4 2 #[.nestMembers #[47, 59]] #[] 1537 66 #[] #[])
  fields := #[]
  methods := #[]
  instanceTypes := #[]
  staticTypes := #[]
  resolved := Array.replicate 131 none
  statics := none }

def pool5 : Array CpInfo := pool [(1, .class_ 2), (0, u "java/lang/constant/Constable"), (0, .class_ 4), (0, u "java/lang/Object")] 6

/-- java/lang/constant/Constable -/
def k5 : Class := { plain "java/lang/constant/Constable" (some 0) with
  accessFlags := 1537
  interfaces := #[]
  cf := some (fileOf pool5 1 #[] #[] 1537 3 #[] #[])
  fields := #[]
  methods := #[]
  instanceTypes := #[]
  staticTypes := #[]
  resolved := Array.replicate 11 none
  statics := none }

def pool6 : Array CpInfo := pool [(1, .class_ 2), (0, u "java/lang/constant/ConstantDesc"), (0, .class_ 4), (0, u "java/lang/Object")] 32

/-- java/lang/constant/ConstantDesc -/
def k6 : Class := { plain "java/lang/constant/ConstantDesc" (some 0) with
  accessFlags := 1537
  interfaces := #[]
  cf := some (fileOf pool6 1 #[] #[] 1537 3 #[] #[])
  fields := #[]
  methods := #[]
  instanceTypes := #[]
  staticTypes := #[]
  resolved := Array.replicate 37 none
  statics := none }

def pool7 : Array CpInfo := pool [(1, .methodref 2 3), (0, .class_ 4), (0, .nameAndType 5 6), (0, u "java/lang/Object"), (0, u "<init>"), (0, u "()V"), (2, .fieldref 10 11), (0, .class_ 12), (0, .nameAndType 13 14), (0, u "java/lang/String"), (0, u "value"), (0, u "[B"), (0, .fieldref 10 16), (0, .nameAndType 17 18), (0, u "coder"), (0, u "B"), (2, u "hash"), (0, u "I"), (2, u "hashIsZero"), (0, u "Z"), (0, .methodref 10 28), (0, .nameAndType 5 29), (0, u "([CIILjava/lang/Void;)V"), (8, .fieldref 10 39), (0, .nameAndType 40 26), (0, u "COMPACT_STRINGS"), (1, .class_ 44), (1, u "java/lang/StringUTF16"), (0, u "compress"), (1, .methodref 42 48), (0, .nameAndType 49 50), (0, u "coderFromArrayLen"), (0, u "([BI)B"), (126, .methodref 42 178), (0, .nameAndType 45 179), (0, u "([CII)[B"), (395, .class_ 576), (0, u "java/lang/CharSequence"), (22, u "CASE_INSENSITIVE_ORDER"), (0, u "Ljava/util/Comparator;"), (409, u "([C)V"), (90, u "serialPersistentFields"), (0, u "[Ljava/io/ObjectStreamField;"), (0, .class_ 1104), (0, u "java/lang/String$CaseInsensitiveComparator"), (1, .class_ 1107), (0, u "java/io/Serializable"), (0, .class_ 1109), (0, u "java/lang/Comparable"), (0, .class_ 1111), (0, u "java/lang/constant/Constable"), (0, .class_ 1113), (0, u "java/lang/constant/ConstantDesc"), (2, u "serialVersionUID"), (0, u "J"), (3, u "REPL"), (0, u "C"), (2, u "LATIN1"), (1, u "UTF16")] 323

def k7m0 : Method := { name := "<init>", desc := "()V", sig := { parameters := [], returnType := none }, accessFlags := 1, code := none }
def k7c1 : Code := { maxStack := 5, maxLocals := 2, code := jdk_42_method_3_code, exceptionTable := #[], attributes := #[] }
def k7m1 : Method := { name := "<init>", desc := "([C)V", sig := { parameters := [(.array .char)], returnType := none }, accessFlags := 1, code := some k7c1 }
def k7c2 : Code := { maxStack := 4, maxLocals := 6, code := jdk_42_method_149_code, exceptionTable := #[], attributes := #[] }
def k7m2 : Method := { name := "<init>", desc := "([CIILjava/lang/Void;)V", sig := { parameters := [(.array .char), .int, .int, (.object "java/lang/Void")], returnType := none }, accessFlags := 2, code := some k7c2 }
/-- java/lang/String -/
def k7 : Class := { plain "java/lang/String" (some 0) with
  accessFlags := 49
  interfaces := #[2, 3, 4, 5, 6]
  cf := some (fileOf pool7 10 #[.nestMembers #[1103]] #[{ accessFlags := 1, nameIndex := 5, descriptorIndex := 6, attributes := #[] }, { accessFlags := 1, nameIndex := 5, descriptorIndex := 1010, attributes := #[] }, { accessFlags := 2, nameIndex := 5, descriptorIndex := 29, attributes := #[] }] 49 2 #[1106, 1108, 575, 1110, 1112] #[{ accessFlags := 18, nameIndex := 13, descriptorIndex := 14, attributes := #[] }, { accessFlags := 18, nameIndex := 17, descriptorIndex := 18, attributes := #[] }, { accessFlags := 2, nameIndex := 21, descriptorIndex := 22, attributes := #[] }, { accessFlags := 2, nameIndex := 25, descriptorIndex := 26, attributes := #[] }, { accessFlags := 26, nameIndex := 1116, descriptorIndex := 1117, attributes := #[] }, { accessFlags := 24, nameIndex := 40, descriptorIndex := 26, attributes := #[] }, { accessFlags := 26, nameIndex := 1101, descriptorIndex := 1102, attributes := #[] }, { accessFlags := 26, nameIndex := 1121, descriptorIndex := 1122, attributes := #[] }, { accessFlags := 25, nameIndex := 599, descriptorIndex := 600, attributes := #[] }, { accessFlags := 24, nameIndex := 1125, descriptorIndex := 18, attributes := #[] }, { accessFlags := 24, nameIndex := 1127, descriptorIndex := 18, attributes := #[] }])
  fields := #[{ name := "value", type := (.array .byte), accessFlags := 18, slot := 0, constantValue := 0 }, { name := "coder", type := .byte, accessFlags := 18, slot := 1, constantValue := 0 }, { name := "hash", type := .int, accessFlags := 2, slot := 2, constantValue := 0 }, { name := "hashIsZero", type := .boolean, accessFlags := 2, slot := 3, constantValue := 0 }, { name := "serialVersionUID", type := .long, accessFlags := 26, slot := 0, constantValue := 0 }, { name := "COMPACT_STRINGS", type := .boolean, accessFlags := 24, slot := 1, constantValue := 0 }, { name := "serialPersistentFields", type := (.array (.object "java/io/ObjectStreamField")), accessFlags := 26, slot := 2, constantValue := 0 }, { name := "REPL", type := .char, accessFlags := 26, slot := 3, constantValue := 0 }, { name := "CASE_INSENSITIVE_ORDER", type := (.object "java/util/Comparator"), accessFlags := 25, slot := 4, constantValue := 0 }, { name := "LATIN1", type := .byte, accessFlags := 24, slot := 5, constantValue := 0 }, { name := "UTF16", type := .byte, accessFlags := 24, slot := 6, constantValue := 0 }]
  methods := #[k7m0, k7m1, k7m2]
  instanceTypes := #[(.array .byte), .byte, .int, .boolean]
  staticTypes := #[.long, .boolean, (.array (.object "java/io/ObjectStreamField")), .char, (.object "java/util/Comparator"), .byte, .byte]
  resolved := Array.replicate 1451 none
  statics := some 0 }

def pool8 : Array CpInfo := pool [(6, .class_ 8), (1, u "java/lang/Object"), (0, u "<init>"), (0, u "()V"), (1, .class_ 14), (1, u "java/lang/StringUTF16"), (31, u "$assertionsDisabled"), (0, u "Z"), (13, u "HI_BYTE_SHIFT"), (0, u "I"), (2, u "LO_BYTE_SHIFT"), (49, .methodref 12 116), (0, .nameAndType 117 118), (0, u "compress"), (0, u "([CI[BII)I"), (3, u "([CII)[B"), (138, u "coderFromArrayLen"), (0, u "([BI)B"), (106, .class_ 371), (1, u "java/lang/StringUTF16$LinesSpliterator"), (58, u "MAX_LENGTH"), (196, .class_ 628), (0, u "java/lang/StringUTF16$CodePointsSpliterator"), (0, .class_ 630), (0, u "java/lang/StringUTF16$CharsSpliterator")] 4

def k8m0 : Method := { name := "<init>", desc := "()V", sig := { parameters := [], returnType := none }, accessFlags := 0, code := none }
def k8c1 : Code := { maxStack := 2, maxLocals := 2, code := jdk_52_method_15_code, exceptionTable := #[], attributes := #[] }
def k8m1 : Method := { name := "coderFromArrayLen", desc := "([BI)B", sig := { parameters := [(.array .byte), .int], returnType := some .byte }, accessFlags := 8, code := some k8c1 }
def k8c2 : Code := { maxStack := 5, maxLocals := 6, code := jdk_52_method_16_code, exceptionTable := #[], attributes := #[] }
def k8m2 : Method := { name := "compress", desc := "([CII)[B", sig := { parameters := [(.array .char), .int, .int], returnType := some (.array .byte) }, accessFlags := 9, code := some k8c2 }
def k8c3 : Code := { maxStack := 3, maxLocals := 7, code := jdk_52_method_21_code, exceptionTable := #[], attributes := #[] }
def k8m3 : Method := { name := "compress", desc := "([CI[BII)I", sig := { parameters := [(.array .char), .int, (.array .byte), .int, .int], returnType := some .int }, accessFlags := 9, code := some k8c3 }
/-- java/lang/StringUTF16 -/
def k8 : Class := { plain "java/lang/StringUTF16" (some 0) with
  accessFlags := 48
  interfaces := #[]
  cf := some (fileOf pool8 12 #[.nestMembers #[627, 629, 369]] #[{ accessFlags := 0, nameIndex := 9, descriptorIndex := 10, attributes := #[] }, { accessFlags := 8, nameIndex := 261, descriptorIndex := 262, attributes := #[] }, { accessFlags := 9, nameIndex := 117, descriptorIndex := 122, attributes := #[] }, { accessFlags := 9, nameIndex := 117, descriptorIndex := 118, attributes := #[] }] 48 6 #[] #[{ accessFlags := 26, nameIndex := 61, descriptorIndex := 62, attributes := #[] }, { accessFlags := 26, nameIndex := 65, descriptorIndex := 62, attributes := #[] }, { accessFlags := 24, nameIndex := 430, descriptorIndex := 62, attributes := #[] }, { accessFlags := 4120, nameIndex := 46, descriptorIndex := 47, attributes := #[] }])
  fields := #[{ name := "HI_BYTE_SHIFT", type := .int, accessFlags := 26, slot := 0, constantValue := 0 }, { name := "LO_BYTE_SHIFT", type := .int, accessFlags := 26, slot := 1, constantValue := 0 }, { name := "MAX_LENGTH", type := .int, accessFlags := 24, slot := 2, constantValue := 0 }, { name := "$assertionsDisabled", type := .boolean, accessFlags := 4120, slot := 3, constantValue := 0 }]
  methods := #[k8m0, k8m1, k8m2, k8m3]
  instanceTypes := #[]
  staticTypes := #[.int, .int, .int, .boolean]
  resolved := Array.replicate 635 none
  statics := none }

def pool9 : Array CpInfo := pool [(1, .methodref 2 3), (0, .class_ 4), (0, .nameAndType 5 6), (0, u "java/lang/Object"), (0, u "<init>"), (0, u "()V"), (0, .class_ 8), (0, u "java/lang/Record")] 13

def k9c0 : Code := { maxStack := 1, maxLocals := 1, code := jdk_30_method_1_code, exceptionTable := #[], attributes := #[] }
def k9m0 : Method := { name := "<init>", desc := "()V", sig := { parameters := [], returnType := none }, accessFlags := 4, code := some k9c0 }
/-- java/lang/Record -/
def k9 : Class := { plain "java/lang/Record" (some 0) with
  accessFlags := 1057
  interfaces := #[]
  cf := some (fileOf pool9 7 #[] #[{ accessFlags := 4, nameIndex := 5, descriptorIndex := 6, attributes := #[] }] 1057 2 #[] #[])
  fields := #[]
  methods := #[k9m0]
  instanceTypes := #[]
  staticTypes := #[]
  resolved := Array.replicate 22 none
  statics := none }

def pool10 : Array CpInfo := pool [(1, .methodref 2 3), (0, .class_ 4), (0, .nameAndType 5 6), (0, u "java/lang/Record"), (0, u "<init>"), (0, u "()V"), (0, .fieldref 8 9), (0, .class_ 10), (0, .nameAndType 11 12), (0, u "com/example/cairnstream/cairnstream/config/SettingValue"), (0, u "key"), (0, u "Ljava/lang/String;"), (0, .fieldref 8 14), (0, .nameAndType 15 12), (0, u "topic"), (0, .fieldref 8 17), (0, .nameAndType 18 12), (0, u "broker"), (0, .fieldref 8 20), (0, .nameAndType 21 12), (0, u "defaultValue"), (12, u "(Ljava/lang/String;Ljava/lang/String;Ljava/lang/String;Ljava/lang/String;)V"), (3, u "value"), (0, u "()Ljava/lang/String;")] 28

def k10c0 : Code := { maxStack := 2, maxLocals := 5, code := prog_49_method_1_code, exceptionTable := #[], attributes := #[] }
def k10m0 : Method := { name := "<init>", desc := "(Ljava/lang/String;Ljava/lang/String;Ljava/lang/String;Ljava/lang/String;)V", sig := { parameters := [(.object "java/lang/String"), (.object "java/lang/String"), (.object "java/lang/String"), (.object "java/lang/String")], returnType := none }, accessFlags := 1, code := some k10c0 }
def k10c1 : Code := { maxStack := 1, maxLocals := 2, code := prog_49_method_2_code, exceptionTable := #[], attributes := #[] }
def k10m1 : Method := { name := "value", desc := "()Ljava/lang/String;", sig := { parameters := [], returnType := some (.object "java/lang/String") }, accessFlags := 1, code := some k10c1 }
/-- com/example/cairnstream/cairnstream/config/SettingValue -/
def k10 : Class := { plain "com/example/cairnstream/cairnstream/config/SettingValue" (some 9) with
  accessFlags := 49
  interfaces := #[]
  cf := some (fileOf pool10 8 #[] #[{ accessFlags := 1, nameIndex := 5, descriptorIndex := 34, attributes := #[] }, { accessFlags := 1, nameIndex := 38, descriptorIndex := 39, attributes := #[] }] 49 2 #[] #[{ accessFlags := 18, nameIndex := 11, descriptorIndex := 12, attributes := #[] }, { accessFlags := 18, nameIndex := 15, descriptorIndex := 12, attributes := #[] }, { accessFlags := 18, nameIndex := 18, descriptorIndex := 12, attributes := #[] }, { accessFlags := 18, nameIndex := 21, descriptorIndex := 12, attributes := #[] }])
  fields := #[{ name := "key", type := (.object "java/lang/String"), accessFlags := 18, slot := 0, constantValue := 0 }, { name := "topic", type := (.object "java/lang/String"), accessFlags := 18, slot := 1, constantValue := 0 }, { name := "broker", type := (.object "java/lang/String"), accessFlags := 18, slot := 2, constantValue := 0 }, { name := "defaultValue", type := (.object "java/lang/String"), accessFlags := 18, slot := 3, constantValue := 0 }]
  methods := #[k10m0, k10m1]
  instanceTypes := #[(.object "java/lang/String"), (.object "java/lang/String"), (.object "java/lang/String"), (.object "java/lang/String")]
  staticTypes := #[]
  resolved := Array.replicate 68 none
  statics := none }

def pool11 : Array CpInfo := pool [(4, .class_ 6), (1, u "java/lang/Object"), (0, u "<init>"), (0, u "()V"), (5, .class_ 16), (1, u "java/lang/StringLatin1"), (104, u "$assertionsDisabled"), (0, u "Z"), (98, .class_ 223), (1, u "java/lang/StringLatin1$LinesSpliterator"), (166, .class_ 391), (0, u "java/lang/StringLatin1$CharsSpliterator")] 3

def k11m0 : Method := { name := "<init>", desc := "()V", sig := { parameters := [], returnType := none }, accessFlags := 0, code := none }
/-- java/lang/StringLatin1 -/
def k11 : Class := { plain "java/lang/StringLatin1" (some 0) with
  accessFlags := 48
  interfaces := #[]
  cf := some (fileOf pool11 14 #[.nestMembers #[390, 221]] #[{ accessFlags := 0, nameIndex := 7, descriptorIndex := 8, attributes := #[] }] 48 4 #[] #[{ accessFlags := 4120, nameIndex := 121, descriptorIndex := 122, attributes := #[] }])
  fields := #[{ name := "$assertionsDisabled", type := .boolean, accessFlags := 4120, slot := 0, constantValue := 0 }]
  methods := #[k11m0]
  instanceTypes := #[]
  staticTypes := #[.boolean]
  resolved := Array.replicate 395 none
  statics := none }

def pool12 : Array CpInfo := pool [(2, .class_ 4), (1, u "java/lang/Object"), (0, u "<init>"), (0, u "()V"), (17, .class_ 26), (1, u "jdk/internal/util/Preconditions"), (28, .class_ 56), (0, u "jdk/internal/util/Preconditions$4"), (57, .class_ 115), (0, u "jdk/internal/util/Preconditions$1"), (7, u "SIOOBE_FORMATTER"), (0, u "Ljava/util/function/BiFunction;"), (0, .class_ 126), (0, u "jdk/internal/util/Preconditions$2"), (3, u "AIOOBE_FORMATTER"), (0, .class_ 132), (0, u "jdk/internal/util/Preconditions$3"), (3, u "IOOBE_FORMATTER")] 57

def k12m0 : Method := { name := "<init>", desc := "()V", sig := { parameters := [], returnType := none }, accessFlags := 1, code := none }
/-- jdk/internal/util/Preconditions -/
def k12 : Class := { plain "jdk/internal/util/Preconditions" (some 0) with
  accessFlags := 33
  interfaces := #[]
  cf := some (fileOf pool12 24 #[.nestMembers #[55, 131, 125, 114]] #[{ accessFlags := 1, nameIndex := 5, descriptorIndex := 6, attributes := #[] }] 33 2 #[] #[{ accessFlags := 25, nameIndex := 123, descriptorIndex := 124, attributes := #[] }, { accessFlags := 25, nameIndex := 130, descriptorIndex := 124, attributes := #[] }, { accessFlags := 25, nameIndex := 136, descriptorIndex := 124, attributes := #[] }])
  fields := #[{ name := "SIOOBE_FORMATTER", type := (.object "java/util/function/BiFunction"), accessFlags := 25, slot := 0, constantValue := 0 }, { name := "AIOOBE_FORMATTER", type := (.object "java/util/function/BiFunction"), accessFlags := 25, slot := 1, constantValue := 0 }, { name := "IOOBE_FORMATTER", type := (.object "java/util/function/BiFunction"), accessFlags := 25, slot := 2, constantValue := 0 }]
  methods := #[k12m0]
  instanceTypes := #[]
  staticTypes := #[(.object "java/util/function/BiFunction"), (.object "java/util/function/BiFunction"), (.object "java/util/function/BiFunction")]
  resolved := Array.replicate 194 none
  statics := some 1 }

def pool13 : Array CpInfo := pool [(9, u "<init>"), (6, .class_ 18), (1, u "java/lang/Object"), (0, u "()V"), (1, .class_ 23), (1, u "jdk/internal/util/ArraysSupport"), (0, u "LOG2_ARRAY_LONG_INDEX_SCALE"), (0, u "I"), (2, u "U"), (0, u "Ljdk/internal/misc/Unsafe;"), (8, u "BIG_ENDIAN"), (0, u "Z"), (8, u "LOG2_BYTE_BIT_SIZE"), (4, u "LOG2_ARRAY_INT_INDEX_SCALE"), (54, u "JLA"), (0, u "Ljdk/internal/access/JavaLangAccess;"), (11, u "LOG2_ARRAY_BOOLEAN_INDEX_SCALE"), (9, u "LOG2_ARRAY_BYTE_INDEX_SCALE"), (5, u "LOG2_ARRAY_CHAR_INDEX_SCALE"), (5, u "LOG2_ARRAY_SHORT_INDEX_SCALE"), (18, u "LOG2_ARRAY_FLOAT_INDEX_SCALE"), (24, u "LOG2_ARRAY_DOUBLE_INDEX_SCALE"), (89, u "T_BOOLEAN"), (2, u "T_CHAR"), (1, u "T_FLOAT"), (1, u "T_DOUBLE"), (1, u "T_BYTE"), (1, u "T_SHORT"), (1, u "T_INT"), (1, u "T_LONG"), (1, u "SOFT_MAX_ARRAY_LENGTH")] 83

def k13m0 : Method := { name := "<init>", desc := "()V", sig := { parameters := [], returnType := none }, accessFlags := 2, code := none }
/-- jdk/internal/util/ArraysSupport -/
def k13 : Class := { plain "jdk/internal/util/ArraysSupport" (some 0) with
  accessFlags := 33
  interfaces := #[]
  cf := some (fileOf pool13 21 #[] #[{ accessFlags := 2, nameIndex := 9, descriptorIndex := 19, attributes := #[] }] 33 16 #[] #[{ accessFlags := 24, nameIndex := 28, descriptorIndex := 29, attributes := #[] }, { accessFlags := 26, nameIndex := 38, descriptorIndex := 39, attributes := #[] }, { accessFlags := 25, nameIndex := 121, descriptorIndex := 25, attributes := #[] }, { accessFlags := 25, nameIndex := 131, descriptorIndex := 25, attributes := #[] }, { accessFlags := 25, nameIndex := 137, descriptorIndex := 25, attributes := #[] }, { accessFlags := 25, nameIndex := 143, descriptorIndex := 25, attributes := #[] }, { accessFlags := 25, nameIndex := 53, descriptorIndex := 25, attributes := #[] }, { accessFlags := 25, nameIndex := 24, descriptorIndex := 25, attributes := #[] }, { accessFlags := 25, nameIndex := 162, descriptorIndex := 25, attributes := #[] }, { accessFlags := 25, nameIndex := 187, descriptorIndex := 25, attributes := #[] }, { accessFlags := 26, nameIndex := 48, descriptorIndex := 25, attributes := #[] }, { accessFlags := 25, nameIndex := 277, descriptorIndex := 25, attributes := #[] }, { accessFlags := 25, nameIndex := 280, descriptorIndex := 25, attributes := #[] }, { accessFlags := 25, nameIndex := 282, descriptorIndex := 25, attributes := #[] }, { accessFlags := 25, nameIndex := 284, descriptorIndex := 25, attributes := #[] }, { accessFlags := 25, nameIndex := 286, descriptorIndex := 25, attributes := #[] }, { accessFlags := 25, nameIndex := 288, descriptorIndex := 25, attributes := #[] }, { accessFlags := 25, nameIndex := 290, descriptorIndex := 25, attributes := #[] }, { accessFlags := 25, nameIndex := 292, descriptorIndex := 25, attributes := #[] }, { accessFlags := 26, nameIndex := 108, descriptorIndex := 109, attributes := #[] }, { accessFlags := 25, nameIndex := 294, descriptorIndex := 25, attributes := #[] }])
  fields := #[{ name := "U", type := (.object "jdk/internal/misc/Unsafe"), accessFlags := 24, slot := 0, constantValue := 0 }, { name := "BIG_ENDIAN", type := .boolean, accessFlags := 26, slot := 1, constantValue := 0 }, { name := "LOG2_ARRAY_BOOLEAN_INDEX_SCALE", type := .int, accessFlags := 25, slot := 2, constantValue := 0 }, { name := "LOG2_ARRAY_BYTE_INDEX_SCALE", type := .int, accessFlags := 25, slot := 3, constantValue := 0 }, { name := "LOG2_ARRAY_CHAR_INDEX_SCALE", type := .int, accessFlags := 25, slot := 4, constantValue := 0 }, { name := "LOG2_ARRAY_SHORT_INDEX_SCALE", type := .int, accessFlags := 25, slot := 5, constantValue := 0 }, { name := "LOG2_ARRAY_INT_INDEX_SCALE", type := .int, accessFlags := 25, slot := 6, constantValue := 0 }, { name := "LOG2_ARRAY_LONG_INDEX_SCALE", type := .int, accessFlags := 25, slot := 7, constantValue := 0 }, { name := "LOG2_ARRAY_FLOAT_INDEX_SCALE", type := .int, accessFlags := 25, slot := 8, constantValue := 0 }, { name := "LOG2_ARRAY_DOUBLE_INDEX_SCALE", type := .int, accessFlags := 25, slot := 9, constantValue := 0 }, { name := "LOG2_BYTE_BIT_SIZE", type := .int, accessFlags := 26, slot := 10, constantValue := 0 }, { name := "T_BOOLEAN", type := .int, accessFlags := 25, slot := 11, constantValue := 0 }, { name := "T_CHAR", type := .int, accessFlags := 25, slot := 12, constantValue := 0 }, { name := "T_FLOAT", type := .int, accessFlags := 25, slot := 13, constantValue := 0 }, { name := "T_DOUBLE", type := .int, accessFlags := 25, slot := 14, constantValue := 0 }, { name := "T_BYTE", type := .int, accessFlags := 25, slot := 15, constantValue := 0 }, { name := "T_SHORT", type := .int, accessFlags := 25, slot := 16, constantValue := 0 }, { name := "T_INT", type := .int, accessFlags := 25, slot := 17, constantValue := 0 }, { name := "T_LONG", type := .int, accessFlags := 25, slot := 18, constantValue := 0 }, { name := "JLA", type := (.object "jdk/internal/access/JavaLangAccess"), accessFlags := 26, slot := 19, constantValue := 0 }, { name := "SOFT_MAX_ARRAY_LENGTH", type := .int, accessFlags := 25, slot := 20, constantValue := 0 }]
  methods := #[k13m0]
  instanceTypes := #[]
  staticTypes := #[(.object "jdk/internal/misc/Unsafe"), .boolean, .int, .int, .int, .int, .int, .int, .int, .int, .int, .int, .int, .int, .int, .int, .int, .int, .int, (.object "jdk/internal/access/JavaLangAccess"), .int]
  resolved := Array.replicate 378 none
  statics := none }

def pool14 : Array CpInfo := pool [(1, u "java/lang/Cloneable"), (0, .class_ 1), (0, u "java/lang/Object"), (0, .class_ 3)] 3

/-- java/lang/Cloneable -/
def k14 : Class := { plain "java/lang/Cloneable" (some 0) with
  accessFlags := 1537
  interfaces := #[]
  cf := some (fileOf pool14 2 #[] #[] 1537 4 #[] #[])
  fields := #[]
  methods := #[]
  instanceTypes := #[]
  staticTypes := #[]
  resolved := Array.replicate 8 none
  statics := none }

/-- the primitive byte -/
def k15 : Class := { plain "byte" none with kind := .primitive 'B', accessFlags := 0x411 }
/-- [B -/
def k16 : Class := { plain "[B" (some 0) with kind := .array 15 .byte, interfaces := #[14, 2], accessFlags := 1041 }

/-- the primitive char -/
def k17 : Class := { plain "char" none with kind := .primitive 'C', accessFlags := 0x411 }
/-- [C -/
def k18 : Class := { plain "[C" (some 0) with kind := .array 17 .char, interfaces := #[14, 2], accessFlags := 1041 }

/-- the primitive int -/
def k19 : Class := { plain "int" none with kind := .primitive 'I', accessFlags := 0x411 }
/-- [I -/
def k20 : Class := { plain "[I" (some 0) with kind := .array 19 .int, interfaces := #[14, 2], accessFlags := 1041 }

def heap : Heap := #[{ cls := 7, slots := #[.long 0, .int 1, .null, .int 0, .null, .int 0, .int 0], vm := .statics 7 },
  { cls := 12, slots := #[.null, .null, .null], vm := .statics 12 }]
def classes : Array Class := #[k0, k1, k2, k3, k4, k5, k6, k7, k8, k9, k10, k11, k12, k13, k14, k15, k16, k17, k18, k19, k20]
def interned : List (Array UInt16 × Addr) := []
def slotsUsed : Nat := 10
def theMethod : MethodId := ⟨1, 2⟩
def args0 : Array Value := #[.int 5, .int 7, .int 4, .int 3, .int 9]
def aboutOver (below : List Frame) : State where
  vm := { classes := classes, interned := interned.toArray }
  heap := heap
  slotsUsed := slotsUsed
  threads := #[{ frames := .invoking theMethod args0 :: below }]
def below0 : List Frame := [.native { method := ⟨0, 0⟩, args := #[] }]
def about1 : State := aboutOver below0
def p0 : Program := .bare "" "" ""
def e0 : Env := launch0.env 0 0 0
theorem w_frames : about1.frames = Frame.invoking theMethod args0 :: below0 := rfl
set_option maxRecDepth 65536 in
theorem w_args : argsFit about1.vm theMethod args0 = true := by decide +kernel
set_option maxRecDepth 65536 in
theorem w_heap : heapFits about1 = true := by decide +kernel
set_option maxRecDepth 65536 in
theorem w_runnable : about1.curStatus? = some .runnable := by decide +kernel
set_option maxRecDepth 65536 in
theorem w_alone : about1.alone = true := by decide +kernel
set_option maxRecDepth 65536 in
theorem w_named : about1.methodNamed? x = some theMethod := by decide +kernel
set_option maxRecDepth 65536 in
theorem w_hears : about1.hears theMethod below0 = true := by decide +kernel
set_option maxRecDepth 65536 in
theorem w_ripe : about1.ripe theMethod args0 below0 = true := by decide +kernel
theorem w_running : about1.status = .running := rfl
set_option maxRecDepth 65536 in
theorem w_room : about1.hasRoom e0.platform room_1 = true :=
  launch0.hasRoom_least _ room_1 (by decide +kernel) (by decide +kernel) (by decide +kernel) (by decide +kernel) (by decide +kernel) (by decide +kernel)
theorem allAtoms_all (ts : List Jvm.Cond) (a : Array Jvm.Value) (st : Jvm.State) : (allAtoms ts).before a st = ts.all (fun c => c.before a st) := by
  induction ts with
  | nil => rfl
  | cons c t ih =>
    show (Jvm.Cond.and c (allAtoms t)).before a st = _
    rw [Jvm.Cond.before_and, ih, List.all_cons]
def words1 : List Jvm.Cond := Jvm.Cond.code x code maxLocals ret :: tables_1
/-- a 'code' word, met by the world's own term for the bytes: nothing is compared byte by byte -/
theorem code_word {y : MethodName} {bytes : ByteArray} {mx : Nat} {rt : Option FieldType} {a : Array Value} {s : State} {m : MethodId} {meth : Method} {c : Code} (h1 : s.methodNamed? y = some m) (h2 : s.vm.method? m = some meth) (h3 : meth.code = some c) (h4 : c.code = bytes)
    (h5 : (c.maxLocals == mx && c.exceptionTable.isEmpty && decide (c.maxStack ≤ mostOperands) && decide (meth.sig.returnType = rt) && !meth.locks && decide (parseMethodDescriptor y.desc = some meth.sig)) = true) : (Jvm.Cond.code y bytes mx rt).before a s = true := by
  simp only [Bool.and_eq_true, beq_iff_eq, Bool.not_eq_true', decide_eq_true_eq] at h5
  obtain ⟨⟨⟨⟨⟨g1, g2⟩, g3⟩, g4⟩, g5⟩, g6⟩ := h5
  simp [Cond.before, Cond.holds, Cond.value, h1, h2, h3, h4, g1, g2, g3, g4, g5, g6]
def isCode : Jvm.Cond → Bool
  | .code _ _ _ _ => true
  | _ => false
theorem all_split {L : List Jvm.Cond} {P : Jvm.Cond → Bool} (h1 : L.all (fun c => isCode c || P c) = true) (h2 : ∀ c ∈ L.filter isCode, P c = true) : L.all P = true := by
  refine List.all_eq_true.mpr fun c hc => ?_
  have h := List.all_eq_true.mp h1 c hc
  rcases Bool.eq_false_or_eq_true (isCode c) with hi | hi
  · exact h2 c (List.mem_filter.mpr ⟨hc, hi⟩)
  · simpa [hi] using h
set_option maxRecDepth 65536 in
theorem w_c0 : (Jvm.Cond.code x code maxLocals ret).before args0 about1 = true := code_word (m := ⟨1, 2⟩) (meth := k1m2) (c := k1c2) (by decide +kernel) rfl rfl rfl (by decide +kernel)
set_option maxRecDepth 65536 in
theorem w_c1 : (Jvm.Cond.code ({ cls := "com/example/cairnstream/cairnstream/config/SettingValueValuePinLaw", name := "draw", desc := "(I)Ljava/lang/String;" } : Jvm.MethodName) method_2_code (2 : Nat) (Option.some (Jvm.ClassFile.FieldType.object "java/lang/String"))).before args0 about1 = true := code_word (m := ⟨1, 1⟩) (meth := k1m1) (c := k1c1) (by decide +kernel) rfl rfl rfl (by decide +kernel)
set_option maxRecDepth 65536 in
theorem w_c2 : (Jvm.Cond.code ({ cls := "java/lang/String", name := "<init>", desc := "([C)V" } : Jvm.MethodName) jdk_42_method_3_code (2 : Nat) (Option.none : Option Jvm.ClassFile.FieldType)).before args0 about1 = true := code_word (m := ⟨7, 1⟩) (meth := k7m1) (c := k7c1) (by decide +kernel) rfl rfl rfl (by decide +kernel)
set_option maxRecDepth 65536 in
theorem w_c3 : (Jvm.Cond.code ({ cls := "java/lang/String", name := "<init>", desc := "([CIILjava/lang/Void;)V" } : Jvm.MethodName) jdk_42_method_149_code (6 : Nat) (Option.none : Option Jvm.ClassFile.FieldType)).before args0 about1 = true := code_word (m := ⟨7, 2⟩) (meth := k7m2) (c := k7c2) (by decide +kernel) rfl rfl rfl (by decide +kernel)
set_option maxRecDepth 65536 in
theorem w_c4 : (Jvm.Cond.code ({ cls := "java/lang/Object", name := "<init>", desc := "()V" } : Jvm.MethodName) object_method_1_code (1 : Nat) (Option.none : Option Jvm.ClassFile.FieldType)).before args0 about1 = true := code_word (m := ⟨0, 0⟩) (meth := k0m0) (c := k0c0) (by decide +kernel) rfl rfl rfl (by decide +kernel)
set_option maxRecDepth 65536 in
theorem w_c5 : (Jvm.Cond.code ({ cls := "java/lang/StringUTF16", name := "compress", desc := "([CII)[B" } : Jvm.MethodName) jdk_52_method_16_code (6 : Nat) (Option.some (Jvm.ClassFile.FieldType.array Jvm.ClassFile.FieldType.byte))).before args0 about1 = true := code_word (m := ⟨8, 2⟩) (meth := k8m2) (c := k8c2) (by decide +kernel) rfl rfl rfl (by decide +kernel)
set_option maxRecDepth 65536 in
theorem w_c6 : (Jvm.Cond.code ({ cls := "java/lang/StringUTF16", name := "compress", desc := "([CI[BII)I" } : Jvm.MethodName) jdk_52_method_21_code (7 : Nat) (Option.some Jvm.ClassFile.FieldType.int)).before args0 about1 = true := code_word (m := ⟨8, 3⟩) (meth := k8m3) (c := k8c3) (by decide +kernel) rfl rfl rfl (by decide +kernel)
set_option maxRecDepth 65536 in
theorem w_c7 : (Jvm.Cond.code ({ cls := "java/lang/StringUTF16", name := "coderFromArrayLen", desc := "([BI)B" } : Jvm.MethodName) jdk_52_method_15_code (2 : Nat) (Option.some Jvm.ClassFile.FieldType.byte)).before args0 about1 = true := code_word (m := ⟨8, 1⟩) (meth := k8m1) (c := k8c1) (by decide +kernel) rfl rfl rfl (by decide +kernel)
set_option maxRecDepth 65536 in
theorem w_c8 : (Jvm.Cond.code ({ cls := "com/example/cairnstream/cairnstream/config/SettingValue", name := "<init>", desc := "(Ljava/lang/String;Ljava/lang/String;Ljava/lang/String;Ljava/lang/String;)V" } : Jvm.MethodName) prog_49_method_1_code (5 : Nat) (Option.none : Option Jvm.ClassFile.FieldType)).before args0 about1 = true := code_word (m := ⟨10, 0⟩) (meth := k10m0) (c := k10c0) (by decide +kernel) rfl rfl rfl (by decide +kernel)
set_option maxRecDepth 65536 in
theorem w_c9 : (Jvm.Cond.code ({ cls := "java/lang/Record", name := "<init>", desc := "()V" } : Jvm.MethodName) jdk_30_method_1_code (1 : Nat) (Option.none : Option Jvm.ClassFile.FieldType)).before args0 about1 = true := code_word (m := ⟨9, 0⟩) (meth := k9m0) (c := k9c0) (by decide +kernel) rfl rfl rfl (by decide +kernel)
set_option maxRecDepth 65536 in
theorem w_c10 : (Jvm.Cond.code ({ cls := "com/example/cairnstream/cairnstream/config/SettingValue", name := "value", desc := "()Ljava/lang/String;" } : Jvm.MethodName) prog_49_method_2_code (2 : Nat) (Option.some (Jvm.ClassFile.FieldType.object "java/lang/String"))).before args0 about1 = true := code_word (m := ⟨10, 1⟩) (meth := k10m1) (c := k10c1) (by decide +kernel) rfl rfl rfl (by decide +kernel)
def codes1 : List Jvm.Cond := [Jvm.Cond.code x code maxLocals ret, Jvm.Cond.code ({ cls := "com/example/cairnstream/cairnstream/config/SettingValueValuePinLaw", name := "draw", desc := "(I)Ljava/lang/String;" } : Jvm.MethodName) method_2_code (2 : Nat) (Option.some (Jvm.ClassFile.FieldType.object "java/lang/String")), Jvm.Cond.code ({ cls := "java/lang/String", name := "<init>", desc := "([C)V" } : Jvm.MethodName) jdk_42_method_3_code (2 : Nat) (Option.none : Option Jvm.ClassFile.FieldType), Jvm.Cond.code ({ cls := "java/lang/String", name := "<init>", desc := "([CIILjava/lang/Void;)V" } : Jvm.MethodName) jdk_42_method_149_code (6 : Nat) (Option.none : Option Jvm.ClassFile.FieldType), Jvm.Cond.code ({ cls := "java/lang/Object", name := "<init>", desc := "()V" } : Jvm.MethodName) object_method_1_code (1 : Nat) (Option.none : Option Jvm.ClassFile.FieldType), Jvm.Cond.code ({ cls := "java/lang/StringUTF16", name := "compress", desc := "([CII)[B" } : Jvm.MethodName) jdk_52_method_16_code (6 : Nat) (Option.some (Jvm.ClassFile.FieldType.array Jvm.ClassFile.FieldType.byte)), Jvm.Cond.code ({ cls := "java/lang/StringUTF16", name := "compress", desc := "([CI[BII)I" } : Jvm.MethodName) jdk_52_method_21_code (7 : Nat) (Option.some Jvm.ClassFile.FieldType.int), Jvm.Cond.code ({ cls := "java/lang/StringUTF16", name := "coderFromArrayLen", desc := "([BI)B" } : Jvm.MethodName) jdk_52_method_15_code (2 : Nat) (Option.some Jvm.ClassFile.FieldType.byte), Jvm.Cond.code ({ cls := "com/example/cairnstream/cairnstream/config/SettingValue", name := "<init>", desc := "(Ljava/lang/String;Ljava/lang/String;Ljava/lang/String;Ljava/lang/String;)V" } : Jvm.MethodName) prog_49_method_1_code (5 : Nat) (Option.none : Option Jvm.ClassFile.FieldType), Jvm.Cond.code ({ cls := "java/lang/Record", name := "<init>", desc := "()V" } : Jvm.MethodName) jdk_30_method_1_code (1 : Nat) (Option.none : Option Jvm.ClassFile.FieldType), Jvm.Cond.code ({ cls := "com/example/cairnstream/cairnstream/config/SettingValue", name := "value", desc := "()Ljava/lang/String;" } : Jvm.MethodName) prog_49_method_2_code (2 : Nat) (Option.some (Jvm.ClassFile.FieldType.object "java/lang/String"))]
set_option maxRecDepth 65536 in
theorem codes_eq : words1.filter isCode = codes1 := rfl
theorem w_codes : ∀ c ∈ words1.filter isCode, c.before args0 about1 = true := by
  rw [codes_eq]
  intro c hc
  simp only [codes1, List.mem_cons, List.not_mem_nil, or_false] at hc
  rcases hc with rfl | rfl | rfl | rfl | rfl | rfl | rfl | rfl | rfl | rfl | rfl
  · exact w_c0
  · exact w_c1
  · exact w_c2
  · exact w_c3
  · exact w_c4
  · exact w_c5
  · exact w_c6
  · exact w_c7
  · exact w_c8
  · exact w_c9
  · exact w_c10
set_option maxRecDepth 65536 in
theorem w_t1 : (words1.take 24).all (fun c => isCode c || c.before args0 about1) = true := by decide +kernel
set_option maxRecDepth 65536 in
theorem w_t2 : ((words1.drop 24).take 24).all (fun c => isCode c || c.before args0 about1) = true := by decide +kernel
set_option maxRecDepth 65536 in
theorem w_t3 : ((words1.drop 24).drop 24).all (fun c => isCode c || c.before args0 about1) = true := by decide +kernel
theorem w_tables : (allAtoms (Jvm.Cond.code x code maxLocals ret :: tables_1)).before args0 about1 = true := by
  rw [allAtoms_all]
  show words1.all (fun c => c.before args0 about1) = true
  refine all_split ?_ w_codes
  rw [← List.take_append_drop 24 words1, List.all_append, w_t1, ← List.take_append_drop 24 (words1.drop 24), List.all_append, w_t2, w_t3]
  rfl
set_option maxRecDepth 65536 in
theorem w_rest : rest_1_c.before args0 about1 = true := by decide +kernel
set_option maxRecDepth 65536 in
theorem w_case : (Jvm.Cond.and given_1 narrow_1).before args0 about1 = true := by decide +kernel
theorem w_applies : (headSpec (Jvm.Cond.code x code maxLocals ret :: tables_1) room_1).applies x e0.platform about1 = true :=
  (Spec.applies_iff w_frames).mpr ⟨w_running, w_runnable, w_alone, w_named, w_hears, w_ripe, w_room, w_tables⟩
theorem atStart : AtStart classFile x code maxLocals ret World_1 tables_1 room_1 Calls_1 rest_1 Pre_1 launch0 p0 e0 about1 theMethod args0 below0 :=
  ⟨lists_1, trivial, launch0.admits_env _ _ _, launch0.least_env, fairChoices_fair.cas, fairChoices_fair.clock, w_frames, w_args, w_heap, w_applies, trivial, w_rest, w_case⟩
end start1
theorem witness_1 : WitnessClaimed_1 := ⟨start1.p0, start1.e0, start1.about1, start1.theMethod, start1.args0, start1.below0, start1.atStart⟩
end Jvm.Pilot.@@N@@
