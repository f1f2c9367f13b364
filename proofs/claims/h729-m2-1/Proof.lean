import JvmDerived
import JvmDerived.Pilot.@@N@@Statement
import JvmDerived.Pilot.@@N@@Code
set_option linter.unusedVariables false
set_option linter.unusedSimpArgs false
/- laws to paste: Road.backV (cut by pick.py; bodies as the Statement names them) -/
namespace Jvm.Pilot.@@N@@
namespace StrChars
open Jvm Sem ClassFile Op Lib Jvm.Stand Jvm.Free.XT Jvm.Free.ALB Jvm.Free.JM Jvm.Free
open Jvm.Lib.Cold (StaticIs)
/-- a char array whose places are chars -/
def Ch (a : Addr) (A : Cell) (U : State) : Prop := Arr .char a A U ∧ Typed .char A
theorem Ch.mv {a : Addr} {A : Cell} {U U' : State} (h : Ch a A U) (hal : U.vm.Alike U'.vm) (hh : U'.heap = U.heap) : Ch a A U' := ⟨h.1.mv hal hh, h.2⟩
theorem Ch.keep {a : Addr} {A : Cell} {U U' : State} (h : Ch a A U) (hal : U.vm.Alike U'.vm) (hk : U'.heap[a]? = some A) : Ch a A U' := ⟨h.1.keep hal hk, h.2⟩
/-- what place i of a char[]'s cell holds -/
def cv (A : Cell) (i : Nat) : Int32 := match A.slots[i]? with | some (.int x) => x | _ => 0
theorem Ch.get {a : Addr} {A : Cell} {U : State} (h : Ch a A U) {i : Nat} (hi : i < A.slots.size) : A.slots[i]? = some (.int (cv A i)) := by
  have e := Array.getElem?_eq_getElem hi
  have f := h.2 i _ e
  unfold cv; rw [e]
  generalize A.slots[i] = v at f
  cases v <;> simp [fits] at f ⊢
/-- the byte that i2b leaves of a char -/
def lo8 (x : Int32) : Int32 := x.toInt8.toInt32
theorem fits_lo8 (y : Int32) : fits .byte (.int (lo8 y)) = true := by
  have h1 := y.toInt8.le_toInt
  have h2 := y.toInt8.toInt_lt
  simp only [lo8, fits, Bool.and_eq_true, decide_eq_true_eq, Int32.le_iff_toInt_le, Int8.toInt_toInt32, show (-128 : Int32).toInt = -128 from by decide, show (127 : Int32).toInt = 127 from by decide]
  omega
/-- A' is A but that each place j of lo .. hi - 1 holds f j -/
def Laid (A A' : Cell) (lo hi : Nat) (f : Nat → Value) : Prop := A'.cls = A.cls ∧ A'.vm = A.vm ∧ A'.slots.size = A.slots.size ∧ ∀ i, A'.slots[i]? = if lo ≤ i ∧ i < hi then some (f i) else A.slots[i]?
theorem Laid.zero (A : Cell) (lo : Nat) (f : Nat → Value) : Laid A A lo (lo + 0) f := ⟨rfl, rfl, rfl, fun i => by rw [if_neg (by omega)]⟩
theorem Laid.step {A Ak : Cell} {lo k : Nat} {f : Nat → Value} {v : Value} (h : Laid A Ak lo k f) (hlo : lo ≤ k) (hk : k < Ak.slots.size) (hv : v = f k) : Laid A (Ak.setSlot k v) lo (k + 1) f := by
  refine ⟨h.1, h.2.1, by simpa [Cell.setSlot] using h.2.2.1, fun i => ?_⟩
  by_cases e : k = i
  · subst e; rw [Cell.slots_setSlot_self v hk, if_pos (by omega), hv]
  · rw [Cell.slots_setSlot_ne v e, h.2.2.2 i]
    by_cases q : lo ≤ i ∧ i < k
    · rw [if_pos q, if_pos (by omega)]
    · rw [if_neg q, if_neg (by omega)]
def U16 : String := "java/lang/StringUTF16"
namespace Cmp5
def yN : MethodName := ⟨"java/lang/StringUTF16", "compress", "([CI[BII)I"⟩
abbrev yB : ByteArray := jdk_52_method_21_code
theorem d0 : decode yB 0 = .ok (.iconst 0, 1) := by decide +kernel
theorem d1 : decode yB 1 = .ok (.istore 5, 2) := by decide +kernel
theorem d3 : decode yB 3 = .ok (.iload 5, 2) := by decide +kernel
theorem d5 : decode yB 5 = .ok (.iload 4, 2) := by decide +kernel
theorem d7 : decode yB 7 = .ok (.if_icmp (.ge) 37, 3) := by decide +kernel
theorem d10 : decode yB 10 = .ok (.aload_n 0, 1) := by decide +kernel
theorem d11 : decode yB 11 = .ok (.iload_n 1, 1) := by decide +kernel
theorem d12 : decode yB 12 = .ok (.caload, 1) := by decide +kernel
theorem d13 : decode yB 13 = .ok (.istore 6, 2) := by decide +kernel
theorem d15 : decode yB 15 = .ok (.iload 6, 2) := by decide +kernel
theorem d17 : decode yB 17 = .ok (.sipush 255, 3) := by decide +kernel
theorem d20 : decode yB 20 = .ok (.if_icmp (.le) 6, 3) := by decide +kernel
theorem d26 : decode yB 26 = .ok (.aload_n 2, 1) := by decide +kernel
theorem d27 : decode yB 27 = .ok (.iload_n 3, 1) := by decide +kernel
theorem d28 : decode yB 28 = .ok (.iload 6, 2) := by decide +kernel
theorem d30 : decode yB 30 = .ok (.i2b, 1) := by decide +kernel
theorem d31 : decode yB 31 = .ok (.bastore, 1) := by decide +kernel
theorem d32 : decode yB 32 = .ok (.iinc 1 1, 3) := by decide +kernel
theorem d35 : decode yB 35 = .ok (.iinc 3 1, 3) := by decide +kernel
theorem d38 : decode yB 38 = .ok (.iinc 5 1, 3) := by decide +kernel
theorem d41 : decode yB 41 = .ok (.goto (-38), 3) := by decide +kernel
theorem d44 : decode yB 44 = .ok (.iload 4, 2) := by decide +kernel
theorem d46 : decode yB 46 = .ok (.ireturn, 1) := by decide +kernel
def site : List Cond := []
def tab : Cond := tabOf yN yB 7 (some .int) site
def P (b : Addr) (A : Cell) (d : Addr) (B : Cell) (o q len : Nat) (args : Array Value) (s : State) : Prop := args = #[.ref b, .int (Int32.ofNat o), .ref d, .int (Int32.ofNat q), .int (Int32.ofNat len)] ∧ Ch b A s ∧ Arr .byte d B s ∧ b ≠ d ∧ o + len ≤ A.slots.size ∧ q + len ≤ B.slots.size ∧ ∀ i, i < len → ¬ 255 < cv A (o + i)
def E (b : Addr) (A : Cell) (d : Addr) (B : Cell) (o q len : Nat) (r : Option Value) (s u : State) : Prop := r = some (.int (Int32.ofNat len)) ∧ ∃ B', Put d B' s u ∧ Laid B B' q (q + len) (fun j => Value.int (lo8 (cv A (o + (j - q)))))
/-- no char of the range above 255: len; the places written hold each char's low byte -/
theorem law (l : Launch) (b : Addr) (A : Cell) (d : Addr) (B : Cell) (o q len : Nat) : Law l yN 5 5 0 0 yB 7 (some .int) site (P b A d B o q len) (E b A d B o q len) (copyLocs d q len) 0 0 := by
  refine Law.of_walk (plainFor_of_name (by decide +kernel)) (by decide +kernel) (by decide +kernel) (by decide) (fun _ _ h => by rw [h.1]; rfl) (fun _ U U' hal hh h => ⟨h.1, h.2.1.mv hal hh, h.2.2.1.mv hal hh, h.2.2.2⟩) (fun r U U' V V' h1 hal h2 h => ⟨h.1, h.2.elim fun B' q => ⟨B', q.1.mv h1 h2, q.2⟩⟩) ?_
  intro p e s m args below meth c s₁ X0 hexec hbytes hml hret hlk hnm hown hh0 W hP
  obtain ⟨rfl, hA, hB, hne, l1, l2, hp⟩ := hP
  have c1 : Steps p.tables e below (s₁.setTop (entryFrame m #[.ref b, .int (Int32.ofNat o), .ref d, .int (Int32.ofNat q), .int (Int32.ofNat len)] 7)) (s₁.setTop (mkF m 0 #[.val (.ref b), .val (.int (Int32.ofNat o)), .val (.ref d), .val (.int (Int32.ofNat q)), .val (.int (Int32.ofNat len)), .unset, .unset] [])) := entry rfl
  have hA0 := hA.1.mv X0.warmed.alike hh0
  have hB0 := hB.mv X0.warmed.alike hh0
  have a31 := hA.1.2.2.2
  have c2 : Steps p.tables e below (s₁.setTop (entryFrame m #[.ref b, .int (Int32.ofNat o), .ref d, .int (Int32.ofNat q), .int (Int32.ofNat len)] 7)) (s₁.setTop (mkF m 3 #[.val (.ref b), .val (.int (Int32.ofNat o)), .val (.ref d), .val (.int (Int32.ofNat q)), .val (.int (Int32.ofNat len)), .val (.int 0), .unset] [])) := c1.trans (by
    refine iconstV X0.here hexec rfl 0 (hb hbytes d0) (by decide) ?_
    refine XS.istore X0.here hexec rfl (hb hbytes d1) rfl rfl ?_
    exact Steps.refl _)
  have loop : ∀ (r i : Nat), i + r = len → ∀ (z : Slot), (z = .unset ∨ ∃ w, z = .val w ∧ w.category = 1) → ∀ (Tl : State) (Bk : Cell), Stand p l e { frames := 0, locals := 0, cells := 0, slots := 0 } s m #[.ref b, .int (Int32.ofNat o), .ref d, .int (Int32.ofNat q), .int (Int32.ofNat len)] below meth c Tl ([] ++ copyLocs d q i) 0 0 → Put d Bk s₁ Tl → Laid B Bk q (q + i) (fun j => Value.int (lo8 (cv A (o + (j - q))))) →
      Steps p.tables e below (s₁.setTop (entryFrame m #[.ref b, .int (Int32.ofNat o), .ref d, .int (Int32.ofNat q), .int (Int32.ofNat len)] 7)) (Tl.setTop (mkF m 3 #[.val (.ref b), .val (.int (Int32.ofNat (o + i))), .val (.ref d), .val (.int (Int32.ofNat (q + i))), .val (.int (Int32.ofNat len)), .val (.int (Int32.ofNat i)), z] [])) → ∃ (T' : State) (B' : Cell) (z' : Slot), Stand p l e { frames := 0, locals := 0, cells := 0, slots := 0 } s m #[.ref b, .int (Int32.ofNat o), .ref d, .int (Int32.ofNat q), .int (Int32.ofNat len)] below meth c T' ([] ++ copyLocs d q len) 0 0 ∧ Put d B' s₁ T' ∧ Laid B B' q (q + len) (fun j => Value.int (lo8 (cv A (o + (j - q))))) ∧
      Steps p.tables e below (s₁.setTop (entryFrame m #[.ref b, .int (Int32.ofNat o), .ref d, .int (Int32.ofNat q), .int (Int32.ofNat len)] 7)) (T'.setTop (mkF m 3 #[.val (.ref b), .val (.int (Int32.ofNat (o + len))), .val (.ref d), .val (.int (Int32.ofNat (q + len))), .val (.int (Int32.ofNat len)), .val (.int (Int32.ofNat len)), z'] [])) := by
    intro r
    induction r with
    | zero =>
      intro i hi z hz Tl Bk Xl pl fl cl
      have hil : i = len := by omega
      rw [hil] at Xl fl cl
      exact ⟨Tl, Bk, z, Xl, pl, fl, cl⟩
    | succ r ih =>
      intro i hi z hz Tl Bk Xl pl fl cl
      have all := X0.warmed.alike.symm.trans Xl.warmed.alike
      have hAl := hA0.keep all (pl.other hne hA0.1)
      have hBk := hB0.like all pl.1 fl.1 fl.2.1 fl.2.2.1
      have hlt : q + i < Bk.slots.size := by rw [fl.2.2.1]; omega
      have c3 : Steps p.tables e below (s₁.setTop (entryFrame m #[.ref b, .int (Int32.ofNat o), .ref d, .int (Int32.ofNat q), .int (Int32.ofNat len)] 7)) (Tl.setTop (mkF m 12 #[.val (.ref b), .val (.int (Int32.ofNat (o + i))), .val (.ref d), .val (.int (Int32.ofNat (q + i))), .val (.int (Int32.ofNat len)), .val (.int (Int32.ofNat i)), z] [.int (Int32.ofNat (o + i)), .ref b])) := cl.trans (by
        refine XS.iload Xl.here hexec rfl (hb hbytes d3) rfl ?_
        refine XS.iload Xl.here hexec rfl (hb hbytes d5) rfl ?_
        refine XS.icmpNo Xl.here hexec rfl (hb hbytes d7) rfl (ii_ge_f (lt32 (by omega) (by omega))) ?_
        refine XS.aloadN Xl.here hexec rfl (hb hbytes d10) rfl rfl ?_
        refine XS.iloadN Xl.here hexec rfl (hb hbytes d11) rfl ?_
        exact Steps.refl _)
      have c4 : Steps p.tables e below (s₁.setTop (entryFrame m #[.ref b, .int (Int32.ofNat o), .ref d, .int (Int32.ofNat q), .int (Int32.ofNat len)] 7)) (Tl.setTop (mkF m 13 #[.val (.ref b), .val (.int (Int32.ofNat (o + i))), .val (.ref d), .val (.int (Int32.ofNat (q + i))), .val (.int (Int32.ofNat len)), .val (.int (Int32.ofNat i)), z] [.int (cv A (o + i))])) := c3.trans (by
        refine Xl.aget hexec hAl rfl (hA.get (i := o + i) (by omega)) rfl rfl (hb hbytes d12) ?_
        exact Steps.refl _)
      have c5 : Steps p.tables e below (s₁.setTop (entryFrame m #[.ref b, .int (Int32.ofNat o), .ref d, .int (Int32.ofNat q), .int (Int32.ofNat len)] 7)) (Tl.setTop (mkF m 15 #[.val (.ref b), .val (.int (Int32.ofNat (o + i))), .val (.ref d), .val (.int (Int32.ofNat (q + i))), .val (.int (Int32.ofNat len)), .val (.int (Int32.ofNat i)), .val (.int (cv A (o + i)))] [])) := c4.trans (by
        refine XS.istoreS Xl.here hexec rfl (hb hbytes d13) rfl rfl hz ?_
        exact Steps.refl _)
      have c6 : Steps p.tables e below (s₁.setTop (entryFrame m #[.ref b, .int (Int32.ofNat o), .ref d, .int (Int32.ofNat q), .int (Int32.ofNat len)] 7)) (Tl.setTop (mkF m 31 #[.val (.ref b), .val (.int (Int32.ofNat (o + i))), .val (.ref d), .val (.int (Int32.ofNat (q + i))), .val (.int (Int32.ofNat len)), .val (.int (Int32.ofNat i)), .val (.int (cv A (o + i)))] [.int (lo8 (cv A (o + i))), .int (Int32.ofNat (q + i)), .ref d])) := c5.trans (by
        refine XS.iload Xl.here hexec rfl (hb hbytes d15) rfl ?_
        refine sipushV Xl.here hexec rfl 255 (hb hbytes d17) (by decide) ?_
        refine XS.icmpYes Xl.here hexec rfl (pc0 := 20) rfl (hb hbytes d20) rfl (ii_le_t (hp i (by omega))) (by decide) rfl ?_
        refine XS.aloadN Xl.here hexec rfl (hb hbytes d26) rfl rfl ?_
        refine XS.iloadN Xl.here hexec rfl (hb hbytes d27) rfl ?_
        refine XS.iload Xl.here hexec rfl (hb hbytes d28) rfl ?_
        refine i2b Xl.here hexec rfl (hb hbytes d30) rfl ?_
        exact Steps.refl _)
      obtain ⟨T7, X7, p7, st7⟩ := Xl.aput hexec hBk rfl hlt rfl (fits_lo8 (cv A (o + i))) (g := (mkF m 31 #[.val (.ref b), .val (.int (Int32.ofNat (o + i))), .val (.ref d), .val (.int (Int32.ofNat (q + i))), .val (.int (Int32.ofNat len)), .val (.int (Int32.ofNat i)), .val (.int (cv A (o + i)))] [.int (lo8 (cv A (o + i))), .int (Int32.ofNat (q + i)), .ref d])) rfl (rest := []) rfl (hb hbytes d31)
      have c8 : Steps p.tables e below (s₁.setTop (entryFrame m #[.ref b, .int (Int32.ofNat o), .ref d, .int (Int32.ofNat q), .int (Int32.ofNat len)] 7)) (T7.setTop (mkF m 32 #[.val (.ref b), .val (.int (Int32.ofNat (o + i))), .val (.ref d), .val (.int (Int32.ofNat (q + i))), .val (.int (Int32.ofNat len)), .val (.int (Int32.ofNat i)), .val (.int (cv A (o + i)))] [])) := c6.trans (st7 _ (Steps.refl _))
      have c9 : Steps p.tables e below (s₁.setTop (entryFrame m #[.ref b, .int (Int32.ofNat o), .ref d, .int (Int32.ofNat q), .int (Int32.ofNat len)] 7)) (T7.setTop (mkF m 3 #[.val (.ref b), .val (.int (Int32.ofNat (o + i) + 1)), .val (.ref d), .val (.int (Int32.ofNat (q + i) + 1)), .val (.int (Int32.ofNat len)), .val (.int (Int32.ofNat i + 1)), .val (.int (cv A (o + i)))] [])) := c8.trans (by
        refine iincV X7.here hexec rfl 1 (hb hbytes d32) (by decide) rfl rfl ?_
        refine iincV X7.here hexec rfl 1 (hb hbytes d35) (by decide) rfl rfl ?_
        refine iincV X7.here hexec rfl 1 (hb hbytes d38) (by decide) rfl rfl ?_
        refine XS.goto X7.here hexec rfl (pc0 := 41) rfl (hb hbytes d41) (by decide) rfl ?_
        exact Steps.refl _)
      have c10 : Steps p.tables e below (s₁.setTop (entryFrame m #[.ref b, .int (Int32.ofNat o), .ref d, .int (Int32.ofNat q), .int (Int32.ofNat len)] 7)) (T7.setTop (mkF m 3 #[.val (.ref b), .val (.int (Int32.ofNat (o + (i + 1)))), .val (.ref d), .val (.int (Int32.ofNat (q + (i + 1)))), .val (.int (Int32.ofNat len)), .val (.int (Int32.ofNat (i + 1))), .val (.int (cv A (o + i)))] [])) := by
        have := c9
        rw [succ32, succ32, succ32] at this
        exact this
      exact ih (i + 1) (by omega) _ (Or.inr ⟨_, rfl, rfl⟩) T7 _ (by rw [copyLocs_step, ← List.append_assoc]; exact X7) (pl.trans p7) (fl.step (by omega) hlt (by simp)) c10
  obtain ⟨T9, B9, z9, X9, p9, f9, g9⟩ := loop len 0 (by omega) .unset (Or.inl rfl) s₁ B (by simpa [copyLocs] using X0) ⟨hB0.1, fun _ _ => rfl, rfl⟩ (Laid.zero _ _ _) c2
  have c11 : Steps p.tables e below (s₁.setTop (entryFrame m #[.ref b, .int (Int32.ofNat o), .ref d, .int (Int32.ofNat q), .int (Int32.ofNat len)] 7)) (T9.setTop (mkF m 46 #[.val (.ref b), .val (.int (Int32.ofNat (o + len))), .val (.ref d), .val (.int (Int32.ofNat (q + len))), .val (.int (Int32.ofNat len)), .val (.int (Int32.ofNat len)), z9] [.int (Int32.ofNat len)])) := g9.trans (by
    refine XS.iload X9.here hexec rfl (hb hbytes d3) rfl ?_
    refine XS.iload X9.here hexec rfl (hb hbytes d5) rfl ?_
    refine XS.icmpYes X9.here hexec rfl (pc0 := 7) rfl (hb hbytes d7) rfl (ii_ge_t (nlt32 (by omega) (Nat.le_refl _))) (by decide) rfl ?_
    refine XS.iload X9.here hexec rfl (hb hbytes d44) rfl ?_
    exact Steps.refl _)
  exact ⟨T9, some (.int (Int32.ofNat len)), _, _, _, X9, by simp, rfl, rfl, (fun h => by cases h), ⟨rfl, B9, p9.from hh0, f9⟩, fun fs hl => c11.trans (X9.ireturnOut hexec hret rfl (Or.inl rfl) (hb hbytes d46) hl)⟩
end Cmp5
namespace Cmp3
def yN : MethodName := ⟨"java/lang/StringUTF16", "compress", "([CII)[B"⟩
abbrev yB : ByteArray := jdk_52_method_16_code
theorem d0 : decode yB 0 = .ok (.iload_n 2, 1) := by decide +kernel
theorem d1 : decode yB 1 = .ok (.newarray .byte, 2) := by decide +kernel
theorem d3 : decode yB 3 = .ok (.astore_n 3, 1) := by decide +kernel
theorem d4 : decode yB 4 = .ok (.aload_n 0, 1) := by decide +kernel
theorem d5 : decode yB 5 = .ok (.iload_n 1, 1) := by decide +kernel
theorem d6 : decode yB 6 = .ok (.aload_n 3, 1) := by decide +kernel
theorem d7 : decode yB 7 = .ok (.iconst 0, 1) := by decide +kernel
theorem d8 : decode yB 8 = .ok (.iload_n 2, 1) := by decide +kernel
theorem d9 : decode yB 9 = .ok (.invokestatic 115, 3) := by decide +kernel
theorem d12 : decode yB 12 = .ok (.istore 4, 2) := by decide +kernel
theorem d14 : decode yB 14 = .ok (.iload 4, 2) := by decide +kernel
theorem d16 : decode yB 16 = .ok (.iload_n 2, 1) := by decide +kernel
theorem d17 : decode yB 17 = .ok (.if_icmp (.eq) 40, 3) := by decide +kernel
theorem d57 : decode yB 57 = .ok (.aload_n 3, 1) := by decide +kernel
theorem d58 : decode yB 58 = .ok (.areturn, 1) := by decide +kernel
def site : List Cond := [.arrayClass .byte, Cmp5.tab] ++ staticW U16 115 Cmp5.yN
def tab : Cond := tabOf yN yB 6 (some (.array .byte)) site
def P (b : Addr) (A : Cell) (o len : Nat) (args : Array Value) (s : State) : Prop := args = #[.ref b, .int (Int32.ofNat o), .int (Int32.ofNat len)] ∧ Ch b A s ∧ o + len ≤ A.slots.size ∧ len ≤ 536870912 ∧ ∀ i, i < len → ¬ 255 < cv A (o + i)
def E (b : Addr) (A : Cell) (o len : Nat) (r : Option Value) (s u : State) : Prop := NewArr .byte "[B" len (fun j => .int (lo8 (cv A (o + j)))) r s u ∧ u.heap.size = s.heap.size + 1
/-- no char of the range above 255: a new byte[] of their low bytes -/
theorem law (l : Launch) (b : Addr) (A : Cell) (o len : Nat) : Law l yN 3 3 1 18 yB 6 (some (.array .byte)) site (P b A o len) (E b A o len) [] 1 len := by
  refine Law.of_walk (plainFor_of_name (by decide +kernel)) (by decide +kernel) (by decide +kernel) (by decide) (fun _ _ h => by rw [h.1]; rfl) (fun _ U U' hal hh h => ⟨h.1, h.2.1.mv hal hh, h.2.2⟩) (fun r U U' V V' h1 hal h2 h => ⟨NewArr.mv r U U' V V' h1 hal h2 h.1, by rw [h1, h2]; exact h.2⟩) ?_
  intro p e s m args below meth c s₁ X0 hexec hbytes hml hret hlk hnm hown hh0 W hP
  obtain ⟨rfl, hA, l1, l2, hp⟩ := hP
  have a31 := hA.1.2.2.2
  have c1 : Steps p.tables e below (s₁.setTop (entryFrame m #[.ref b, .int (Int32.ofNat o), .int (Int32.ofNat len)] 6)) (s₁.setTop (mkF m 0 #[.val (.ref b), .val (.int (Int32.ofNat o)), .val (.int (Int32.ofNat len)), .unset, .unset, .unset] [])) := entry rfl
  have c2 : Steps p.tables e below (s₁.setTop (entryFrame m #[.ref b, .int (Int32.ofNat o), .int (Int32.ofNat len)] 6)) (s₁.setTop (mkF m 1 #[.val (.ref b), .val (.int (Int32.ofNat o)), .val (.int (Int32.ofNat len)), .unset, .unset, .unset] [.int (Int32.ofNat len)])) := c1.trans (by
    refine XS.iloadN X0.here hexec rfl (hb hbytes d0) rfl ?_
    exact Steps.refl _)
  obtain ⟨T3, B3, X3, ba3, bs3, bv3, bh3, bf3, st3⟩ := X0.anew hexec (atype := .byte) (wk W (.arrayClass .byte)) rfl (by show len * 1 ≤ _; omega) (by omega) (g := (mkF m 1 #[.val (.ref b), .val (.int (Int32.ofNat o)), .val (.int (Int32.ofNat len)), .unset, .unset, .unset] [.int (Int32.ofNat len)])) rfl (hb hbytes d1) (rest := []) rfl (Nat.le_refl _) (by show 0 + len ≤ len; omega)
  rw [hh0] at ba3 st3
  have kp3 : XT.Kept s T3 := (XT.Kept.of_eq hh0).push bh3
  have hA3 := hA.keep X3.warmed.alike (kp3 _ _ hA.1.1)
  have hne : b ≠ s.heap.size := hA.1.ne
  have c4 : Steps p.tables e below (s₁.setTop (entryFrame m #[.ref b, .int (Int32.ofNat o), .int (Int32.ofNat len)] 6)) (T3.setTop (mkF m 3 #[.val (.ref b), .val (.int (Int32.ofNat o)), .val (.int (Int32.ofNat len)), .unset, .unset, .unset] [.ref s.heap.size])) := c2.trans (st3 _ (Steps.refl _))
  have c5 : Steps p.tables e below (s₁.setTop (entryFrame m #[.ref b, .int (Int32.ofNat o), .int (Int32.ofNat len)] 6)) (T3.setTop (mkF m 9 #[.val (.ref b), .val (.int (Int32.ofNat o)), .val (.int (Int32.ofNat len)), .val (.ref s.heap.size), .unset, .unset] [.int (Int32.ofNat len), .int 0, .ref s.heap.size, .int (Int32.ofNat o), .ref b])) := c4.trans (by
    refine XS.astoreN X3.here hexec rfl (hb hbytes d3) rfl rfl rfl ?_
    refine XS.aloadN X3.here hexec rfl (hb hbytes d4) rfl rfl ?_
    refine XS.iloadN X3.here hexec rfl (hb hbytes d5) rfl ?_
    refine XS.aloadN X3.here hexec rfl (hb hbytes d6) rfl rfl ?_
    refine iconstV X3.here hexec rfl 0 (hb hbytes d7) (by decide) ?_
    refine XS.iloadN X3.here hexec rfl (hb hbytes d8) rfl ?_
    exact Steps.refl _)
  obtain ⟨v6, T6, X6, E6, g6⟩ := X3.callS hexec (Cmp5.law l b A s.heap.size B3 o 0 len) hown (wks W (staticW U16 115 Cmp5.yN)) (wk W Cmp5.tab) (W := 0) (Nat.le_of_ble_eq_true rfl) (Nat.le_of_ble_eq_true rfl) (Nat.le_refl _) (by show 0 + len + 0 ≤ len; omega) (g := (mkF m 9 #[.val (.ref b), .val (.int (Int32.ofNat o)), .val (.int (Int32.ofNat len)), .val (.ref s.heap.size), .unset, .unset] [.int (Int32.ofNat len), .int (Int32.ofNat 0), .ref s.heap.size, .int (Int32.ofNat o), .ref b])) rfl (by rw [hml]; rfl) c5 (argsL := [.ref b, .int (Int32.ofNat o), .ref s.heap.size, .int (Int32.ofNat 0), .int (Int32.ofNat len)]) (rest := []) rfl rfl (by show 2 * 0 + 0 ≤ _; decide) (hb hbytes d9) (⟨rfl, hA3, ba3, hne, l1, by rw [bs3]; simp, hp⟩)
  obtain ⟨rfl, B6, p6, f6⟩ := E6
  have c7 : Steps p.tables e below (s₁.setTop (entryFrame m #[.ref b, .int (Int32.ofNat o), .int (Int32.ofNat len)] 6)) (T6.setTop (mkF m 12 #[.val (.ref b), .val (.int (Int32.ofNat o)), .val (.int (Int32.ofNat len)), .val (.ref s.heap.size), .unset, .unset] [.int (Int32.ofNat len)])) := g6
  have c8 : Steps p.tables e below (s₁.setTop (entryFrame m #[.ref b, .int (Int32.ofNat o), .int (Int32.ofNat len)] 6)) (T6.setTop (mkF m 58 #[.val (.ref b), .val (.int (Int32.ofNat o)), .val (.int (Int32.ofNat len)), .val (.ref s.heap.size), .val (.int (Int32.ofNat len)), .unset] [.ref s.heap.size])) := c7.trans (by
    refine XS.istore X6.here hexec rfl (hb hbytes d12) rfl rfl ?_
    refine XS.iload X6.here hexec rfl (hb hbytes d14) rfl ?_
    refine XS.iloadN X6.here hexec rfl (hb hbytes d16) rfl ?_
    refine XS.icmpYes X6.here hexec rfl (pc0 := 17) rfl (hb hbytes d17) rfl (ii_eq_t rfl) (by decide) rfl ?_
    refine XS.aloadN X6.here hexec rfl (hb hbytes d57) rfl rfl ?_
    exact Steps.refl _)
  have X8 := X6.wide (L' := []) (cells' := 1) (slots' := len) (fun x hx hlt => by
    simp only [List.nil_append, copyLocs, List.mem_map, List.mem_range] at hx
    obtain ⟨i, -, rfl⟩ := hx
    exact absurd hlt (Nat.lt_irrefl _)) (Nat.le_refl _) (by omega)
  exact ⟨T6, some (.ref s.heap.size), _, _, _, X8, rfl, rfl, rfl, (fun h => by cases h), ⟨⟨rfl, B6, ba3.like (X3.warmed.alike.symm.trans X6.warmed.alike) p6.1 f6.1 f6.2.1 f6.2.2.1, f6.2.1.trans bv3, by rw [X6.warmed.alike.findClass, f6.1]; exact bf3, by rw [f6.2.2.1, bs3]; simp, fun j hj => by rw [f6.2.2.2 j, if_pos (by omega)]; rfl, kp3.put p6 (Nat.le_refl _)⟩, by rw [p6.2.2, bh3, hh0]; simp⟩, fun fs hl => c8.trans (X8.areturnOut hexec rfl hret rfl (hb hbytes d58) hl)⟩
end Cmp3
namespace CodL
def yN : MethodName := ⟨"java/lang/StringUTF16", "coderFromArrayLen", "([BI)B"⟩
abbrev yB : ByteArray := jdk_52_method_15_code
theorem d0 : decode yB 0 = .ok (.iload_n 1, 1) := by decide +kernel
theorem d1 : decode yB 1 = .ok (.aload_n 0, 1) := by decide +kernel
theorem d2 : decode yB 2 = .ok (.arraylength, 1) := by decide +kernel
theorem d3 : decode yB 3 = .ok (.isub, 1) := by decide +kernel
theorem d4 : decode yB 4 = .ok (.bipush 31, 2) := by decide +kernel
theorem d6 : decode yB 6 = .ok (.iushr, 1) := by decide +kernel
theorem d7 : decode yB 7 = .ok (.i2b, 1) := by decide +kernel
theorem d8 : decode yB 8 = .ok (.ireturn, 1) := by decide +kernel
def site : List Cond := []
def tab : Cond := tabOf yN yB 2 (some .byte) site
def P (d : Addr) (B : Cell) (args : Array Value) (s : State) : Prop := args = #[.ref d, .int (Int32.ofNat B.slots.size)] ∧ Arr .byte d B s
def E (r : Option Value) (s u : State) : Prop := XT.PureE (some (.int 0)) r s u
/-- an array as long as the number of chars: LATIN1 -/
theorem law (l : Launch) (d : Addr) (B : Cell) : Law l yN 2 2 0 0 yB 2 (some .byte) site (P d B) E [] 0 0 := by
  refine Law.of_walk (plainFor_of_name (by decide +kernel)) (by decide +kernel) (by decide +kernel) (by decide) (fun _ _ h => by rw [h.1]; rfl) (fun _ U U' hal hh h => ⟨h.1, h.2.mv hal hh⟩) (fun r U U' V V' h1 hal h2 h => XT.PureE.mv r U U' V V' h1 hal h2 h) ?_
  intro p e s m args below meth c s₁ X0 hexec hbytes hml hret hlk hnm hown hh0 W hP
  obtain ⟨rfl, hB⟩ := hP
  have hB0 := hB.mv X0.warmed.alike hh0
  have c1 : Steps p.tables e below (s₁.setTop (entryFrame m #[.ref d, .int (Int32.ofNat B.slots.size)] 2)) (s₁.setTop (mkF m 0 #[.val (.ref d), .val (.int (Int32.ofNat B.slots.size))] [])) := entry rfl
  have c2 : Steps p.tables e below (s₁.setTop (entryFrame m #[.ref d, .int (Int32.ofNat B.slots.size)] 2)) (s₁.setTop (mkF m 2 #[.val (.ref d), .val (.int (Int32.ofNat B.slots.size))] [.ref d, .int (Int32.ofNat B.slots.size)])) := c1.trans (by
    refine XS.iloadN X0.here hexec rfl (hb hbytes d0) rfl ?_
    refine XS.aloadN X0.here hexec rfl (hb hbytes d1) rfl rfl ?_
    exact Steps.refl _)
  have c3 : Steps p.tables e below (s₁.setTop (entryFrame m #[.ref d, .int (Int32.ofNat B.slots.size)] 2)) (s₁.setTop (mkF m 8 #[.val (.ref d), .val (.int (Int32.ofNat B.slots.size))] [.int (lo8 (ushr (Int32.ofNat B.slots.size - Int32.ofNat B.slots.size) 31))])) := c2.trans (by
    refine X0.alen hexec hB0 rfl rfl (hb hbytes d2) ?_
    refine XS.isub X0.here hexec rfl (hb hbytes d3) rfl ?_
    refine bipushV X0.here hexec rfl 31 (hb hbytes d4) (by decide) ?_
    refine iushr X0.here hexec rfl (hb hbytes d6) rfl ?_
    refine i2b X0.here hexec rfl (hb hbytes d7) rfl ?_
    exact Steps.refl _)
  have e0 : lo8 (ushr (Int32.ofNat B.slots.size - Int32.ofNat B.slots.size) 31) = 0 := by rw [Int32.sub_self]; decide
  rw [e0] at c3
  exact ⟨s₁, some (.int 0), _, _, _, X0, rfl, rfl, rfl, (fun h => by cases h), ⟨rfl, hh0⟩, fun fs hl => c3.trans (X0.ireturnOut hexec hret rfl (Or.inr (Or.inr (Or.inl rfl))) (hb hbytes d8) hl)⟩
end CodL
/-- the String at a is Latin-1 over a new byte[] (the heap's one new cell): the low bytes of the len chars of A from o on; every cell but a is kept -/
def Got (a : Addr) (D : Cell) (fV fC : Field) (A : Cell) (o len : Nat) (r : Option Value) (s u : State) : Prop := r = none ∧ ∃ D' V : Cell, Blank "java/lang/String" a D' u ∧ Same D D' [fV.slot, fC.slot] ∧ D'.slots[fV.slot]? = some (.ref s.heap.size) ∧ D'.slots[fC.slot]? = some (.int 0) ∧ Arr .byte s.heap.size V u ∧ V.vm = .none ∧ u.vm.findClass "[B" = some V.cls ∧ V.slots.size = len ∧ (∀ j, j < len → V.slots[j]? = some (.int (lo8 (cv A (o + j))))) ∧ (∀ (y : Addr) (c : Cell), y ≠ a → s.heap[y]? = some c → u.heap[y]? = some c) ∧ u.heap.size = s.heap.size + 1
theorem Got.mv {a : Addr} {D A : Cell} {fV fC : Field} {o len : Nat} : ∀ r (U U' V V' : State), U'.heap = U.heap → V.vm.Alike V'.vm → V'.heap = V.heap → Got a D fV fC A o len r U V → Got a D fV fC A o len r U' V' :=
  fun r U U' V V' h1 hal h2 ⟨e0, D', X, a1, a2, a3, a4, a5, a6, a7, a8, a9, a10, a11⟩ => ⟨e0, D', X, a1.mv hal h2, a2, by rw [h1]; exact a3, a4, by rw [h1]; exact a5.mv hal h2, a6, by rw [hal.findClass]; exact a7, a8, a9, by rw [h1, h2]; exact a10, by rw [h1, h2]; exact a11⟩
namespace New4
def yN : MethodName := ⟨"java/lang/String", "<init>", "([CIILjava/lang/Void;)V"⟩
abbrev yB : ByteArray := jdk_42_method_149_code
theorem d0 : decode yB 0 = .ok (.aload_n 0, 1) := by decide +kernel
theorem d1 : decode yB 1 = .ok (.invokespecial 1, 3) := by decide +kernel
theorem d4 : decode yB 4 = .ok (.iload_n 3, 1) := by decide +kernel
theorem d5 : decode yB 5 = .ok (.ifCond (.ne) 22, 3) := by decide +kernel
theorem d27 : decode yB 27 = .ok (.getstatic 38, 3) := by decide +kernel
theorem d30 : decode yB 30 = .ok (.ifCond (.eq) 28, 3) := by decide +kernel
theorem d33 : decode yB 33 = .ok (.aload_n 1, 1) := by decide +kernel
theorem d34 : decode yB 34 = .ok (.iload_n 2, 1) := by decide +kernel
theorem d35 : decode yB 35 = .ok (.iload_n 3, 1) := by decide +kernel
theorem d36 : decode yB 36 = .ok (.invokestatic 177, 3) := by decide +kernel
theorem d39 : decode yB 39 = .ok (.astore 5, 2) := by decide +kernel
theorem d41 : decode yB 41 = .ok (.aload_n 0, 1) := by decide +kernel
theorem d42 : decode yB 42 = .ok (.aload 5, 2) := by decide +kernel
theorem d44 : decode yB 44 = .ok (.iload_n 3, 1) := by decide +kernel
theorem d45 : decode yB 45 = .ok (.invokestatic 47, 3) := by decide +kernel
theorem d48 : decode yB 48 = .ok (.putfield 15, 3) := by decide +kernel
theorem d51 : decode yB 51 = .ok (.aload_n 0, 1) := by decide +kernel
theorem d52 : decode yB 52 = .ok (.aload 5, 2) := by decide +kernel
theorem d54 : decode yB 54 = .ok (.putfield 9, 3) := by decide +kernel
theorem d57 : decode yB 57 = .ok (.return_, 1) := by decide +kernel
def site : List Cond := [.fieldLink "java/lang/String" 38 "java/lang/String" "COMPACT_STRINGS" "Z", Cmp3.tab, CodL.tab, .laysFinal "java/lang/String" "java/lang/String" "value" "[B", .fieldLink "java/lang/String" 9 "java/lang/String" "value" "[B", .laysFinal "java/lang/String" "java/lang/String" "coder" "B", .fieldLink "java/lang/String" 15 "java/lang/String" "coder" "B"] ++ objW "java/lang/String" 1 ++ staticW "java/lang/String" 177 Cmp3.yN ++ staticW "java/lang/String" 47 CodL.yN
def tab : Cond := tabOf yN yB 6 none site
def P (a : Addr) (D : Cell) (fV fC : Field) (b : Addr) (A : Cell) (z : Int32) (o len : Nat) (args : Array Value) (s : State) : Prop := args = #[.ref a, .ref b, .int (Int32.ofNat o), .int (Int32.ofNat len), .null] ∧ Blank "java/lang/String" a D s ∧ Found "java/lang/String" "value" "[B" fV s ∧ Found "java/lang/String" "coder" "B" fC s ∧ Ch b A s ∧ StaticIs s "java/lang/String" "COMPACT_STRINGS" "Z" (.int z) ∧ ¬ z = 0 ∧ 0 < len ∧ o + len ≤ A.slots.size ∧ len ≤ 536870912 ∧ ∀ i, i < len → ¬ 255 < cv A (o + i)
def E (a : Addr) (D : Cell) (fV fC : Field) (A : Cell) (o len : Nat) (r : Option Value) (s u : State) : Prop := Got a D fV fC A o len r s u
/-- len > 0, no char of the range above 255: a Latin-1 String of their low bytes -/
theorem law (l : Launch) (a : Addr) (D : Cell) (fV fC : Field) (b : Addr) (A : Cell) (z : Int32) (o len : Nat) : Law l yN 5 4 2 35 yB 6 none site (P a D fV fC b A z o len) (E a D fV fC A o len) [⟨a, fC.slot⟩, ⟨a, fV.slot⟩] 1 len := by
  refine Law.of_walk (plainFor_of_name (by decide +kernel)) (by decide +kernel) (by decide +kernel) (by decide) (fun _ _ h => by rw [h.1]; rfl) (fun _ U U' hal hh h => ⟨h.1, h.2.1.mv hal hh, h.2.2.1.al hal, h.2.2.2.1.al hal, h.2.2.2.2.1.mv hal hh, h.2.2.2.2.2.1.there hal hh, h.2.2.2.2.2.2⟩) (fun r U U' V V' h1 hal h2 h => Got.mv r U U' V V' h1 hal h2 h) ?_
  intro p e s m args below meth c s₁ X0 hexec hbytes hml hret hlk hnm hown hh0 W hP
  obtain ⟨rfl, hB, f1, f2, hA, s1, hz, l0, l1, l2, hp⟩ := hP
  have a31 := hA.1.2.2.2
  have c1 : Steps p.tables e below (s₁.setTop (entryFrame m #[.ref a, .ref b, .int (Int32.ofNat o), .int (Int32.ofNat len), .null] 6)) (s₁.setTop (mkF m 0 #[.val (.ref a), .val (.ref b), .val (.int (Int32.ofNat o)), .val (.int (Int32.ofNat len)), .val .null, .unset] [])) := entry rfl
  have c2 : Steps p.tables e below (s₁.setTop (entryFrame m #[.ref a, .ref b, .int (Int32.ofNat o), .int (Int32.ofNat len), .null] 6)) (s₁.setTop (mkF m 1 #[.val (.ref a), .val (.ref b), .val (.int (Int32.ofNat o)), .val (.int (Int32.ofNat len)), .val .null, .unset] [.ref a])) := c1.trans (by
    refine XS.aloadN X0.here hexec rfl (hb hbytes d0) rfl rfl ?_
    exact Steps.refl _)
  obtain ⟨T3, X3, q3, st3⟩ := X0.oinit hexec hown (wks W (objW "java/lang/String" 1)) (g := (mkF m 1 #[.val (.ref a), .val (.ref b), .val (.int (Int32.ofNat o)), .val (.int (Int32.ofNat len)), .val .null, .unset] [.ref a])) rfl (by rw [hml]; rfl) (rest := []) rfl (hb hbytes d1) (W := 0) (by show 2 * 0 + 0 ≤ _; decide) (Nat.le_of_ble_eq_true rfl) (Nat.le_of_ble_eq_true rfl)
  have hh3 := q3.trans hh0
  have c4 : Steps p.tables e below (s₁.setTop (entryFrame m #[.ref a, .ref b, .int (Int32.ofNat o), .int (Int32.ofNat len), .null] 6)) (T3.setTop (mkF m 27 #[.val (.ref a), .val (.ref b), .val (.int (Int32.ofNat o)), .val (.int (Int32.ofNat len)), .val .null, .unset] [])) := (c2.trans (st3 _ (Steps.refl _))).trans (by
    refine XS.iloadN X3.here hexec rfl (hb hbytes d4) rfl ?_
    refine XS.ifYes X3.here hexec rfl (pc0 := 5) rfl (hb hbytes d5) rfl (i0_ne_t (nz32 (by omega) l0)) (by decide) rfl ?_
    exact Steps.refl _)
  obtain ⟨T5, X5, q5, st5⟩ := X3.sget hexec hown (wk W (.fieldLink "java/lang/String" 38 "java/lang/String" "COMPACT_STRINGS" "Z")) s1 (fun _ _ h => by rw [hh3]; exact h) (g := (mkF m 27 #[.val (.ref a), .val (.ref b), .val (.int (Int32.ofNat o)), .val (.int (Int32.ofNat len)), .val .null, .unset] [])) rfl (hb hbytes d27)
  have hh5 := q5.trans hh3
  have c6 : Steps p.tables e below (s₁.setTop (entryFrame m #[.ref a, .ref b, .int (Int32.ofNat o), .int (Int32.ofNat len), .null] 6)) (T5.setTop (mkF m 30 #[.val (.ref a), .val (.ref b), .val (.int (Int32.ofNat o)), .val (.int (Int32.ofNat len)), .val .null, .unset] [.int z])) := c4.trans (st5 _ (Steps.refl _))
  have c7 : Steps p.tables e below (s₁.setTop (entryFrame m #[.ref a, .ref b, .int (Int32.ofNat o), .int (Int32.ofNat len), .null] 6)) (T5.setTop (mkF m 36 #[.val (.ref a), .val (.ref b), .val (.int (Int32.ofNat o)), .val (.int (Int32.ofNat len)), .val .null, .unset] [.int (Int32.ofNat len), .int (Int32.ofNat o), .ref b])) := c6.trans (by
    refine XS.ifNo X5.here hexec rfl (hb hbytes d30) rfl (i0_eq_f hz) ?_
    refine XS.aloadN X5.here hexec rfl (hb hbytes d33) rfl rfl ?_
    refine XS.iloadN X5.here hexec rfl (hb hbytes d34) rfl ?_
    refine XS.iloadN X5.here hexec rfl (hb hbytes d35) rfl ?_
    exact Steps.refl _)
  obtain ⟨v8, T8, X8, E8, g8⟩ := X5.callS hexec (Cmp3.law l b A o len) hown (wks W (staticW "java/lang/String" 177 Cmp3.yN)) (wk W Cmp3.tab) (W := 0) (Nat.le_of_ble_eq_true rfl) (Nat.le_of_ble_eq_true rfl) (Nat.le_refl _) (by show 0 + len ≤ len; omega) (g := (mkF m 36 #[.val (.ref a), .val (.ref b), .val (.int (Int32.ofNat o)), .val (.int (Int32.ofNat len)), .val .null, .unset] [.int (Int32.ofNat len), .int (Int32.ofNat o), .ref b])) rfl (by rw [hml]; rfl) c7 (argsL := [.ref b, .int (Int32.ofNat o), .int (Int32.ofNat len)]) (rest := []) rfl rfl (by show 2 * 0 + 0 ≤ _; decide) (hb hbytes d36) (⟨rfl, hA.mv X5.warmed.alike hh5, l1, l2, hp⟩)
  obtain ⟨e8, z8⟩ := E8
  obtain ⟨rfl, N, n1, n2, n3, n4, n5, n6⟩ := NewArr.mv _ T5 s _ _ hh5.symm (Vm.Alike.refl _) rfl e8
  rw [hh5] at z8
  have hB1 := hB.keep X8.warmed.alike (n6 _ _ hB.1)
  have hne : s.heap.size ≠ a := (Nat.ne_of_lt (Array.getElem?_eq_some_iff.mp hB.1).1).symm
  have c9 : Steps p.tables e below (s₁.setTop (entryFrame m #[.ref a, .ref b, .int (Int32.ofNat o), .int (Int32.ofNat len), .null] 6)) (T8.setTop (mkF m 39 #[.val (.ref a), .val (.ref b), .val (.int (Int32.ofNat o)), .val (.int (Int32.ofNat len)), .val .null, .unset] [.ref s.heap.size])) := g8
  have c10 : Steps p.tables e below (s₁.setTop (entryFrame m #[.ref a, .ref b, .int (Int32.ofNat o), .int (Int32.ofNat len), .null] 6)) (T8.setTop (mkF m 45 #[.val (.ref a), .val (.ref b), .val (.int (Int32.ofNat o)), .val (.int (Int32.ofNat len)), .val .null, .val (.ref s.heap.size)] [.int (Int32.ofNat N.slots.size), .ref s.heap.size, .ref a])) := by
    have hc : Steps p.tables e below (s₁.setTop (entryFrame m #[.ref a, .ref b, .int (Int32.ofNat o), .int (Int32.ofNat len), .null] 6)) (T8.setTop (mkF m 45 #[.val (.ref a), .val (.ref b), .val (.int (Int32.ofNat o)), .val (.int (Int32.ofNat len)), .val .null, .val (.ref s.heap.size)] [.int (Int32.ofNat len), .ref s.heap.size, .ref a])) := c9.trans (by
      refine XS.astore X8.here hexec rfl (hb hbytes d39) rfl rfl rfl ?_
      refine XS.aloadN X8.here hexec rfl (hb hbytes d41) rfl rfl ?_
      refine XS.aload X8.here hexec rfl (hb hbytes d42) rfl rfl ?_
      refine XS.iloadN X8.here hexec rfl (hb hbytes d44) rfl ?_
      exact Steps.refl _)
    rw [n4]; exact hc
  obtain ⟨v11, T11, X11, E11, g11⟩ := X8.callS hexec (CodL.law l s.heap.size N) hown (wks W (staticW "java/lang/String" 47 CodL.yN)) (wk W CodL.tab) (W := 1) (Nat.le_of_ble_eq_true rfl) (Nat.le_of_ble_eq_true rfl) (Nat.le_refl _) (by show 0 + len + 0 ≤ len; omega) (g := (mkF m 45 #[.val (.ref a), .val (.ref b), .val (.int (Int32.ofNat o)), .val (.int (Int32.ofNat len)), .val .null, .val (.ref s.heap.size)] [.int (Int32.ofNat N.slots.size), .ref s.heap.size, .ref a])) rfl (by rw [hml]; rfl) c10 (argsL := [.ref s.heap.size, .int (Int32.ofNat N.slots.size)]) (rest := [.ref a]) rfl rfl (by show 2 * 0 + (1 + 0) ≤ _; decide) (hb hbytes d45) (⟨rfl, n1⟩)
  obtain ⟨rfl, q11⟩ := E11
  have hB11 := hB1.mv (X8.warmed.alike.symm.trans X11.warmed.alike) q11
  have c12 : Steps p.tables e below (s₁.setTop (entryFrame m #[.ref a, .ref b, .int (Int32.ofNat o), .int (Int32.ofNat len), .null] 6)) (T11.setTop (mkF m 48 #[.val (.ref a), .val (.ref b), .val (.int (Int32.ofNat o)), .val (.int (Int32.ofNat len)), .val .null, .val (.ref s.heap.size)] [.int 0, .ref a])) := g11
  obtain ⟨T13, X13, p13, bl13, sl13, st13⟩ := X11.finit hexec hown (wk W (.fieldLink "java/lang/String" 15 "java/lang/String" "coder" "B")) (Or.inr ⟨_, (wk W (.laysFinal "java/lang/String" "java/lang/String" "coder" "B"))⟩) (Or.inl ⟨rfl, hnm⟩) f2 (Or.inl rfl) hB11 (t := .byte) (by decide +kernel) rfl (g := (mkF m 48 #[.val (.ref a), .val (.ref b), .val (.int (Int32.ofNat o)), .val (.int (Int32.ofNat len)), .val .null, .val (.ref s.heap.size)] [.int 0, .ref a])) rfl (rest := []) rfl (hb hbytes d48)
  have c14 : Steps p.tables e below (s₁.setTop (entryFrame m #[.ref a, .ref b, .int (Int32.ofNat o), .int (Int32.ofNat len), .null] 6)) (T13.setTop (mkF m 54 #[.val (.ref a), .val (.ref b), .val (.int (Int32.ofNat o)), .val (.int (Int32.ofNat len)), .val .null, .val (.ref s.heap.size)] [.ref s.heap.size, .ref a])) := (c12.trans (st13 _ (Steps.refl _))).trans (by
    refine XS.aloadN X13.here hexec rfl (hb hbytes d51) rfl rfl ?_
    refine XS.aload X13.here hexec rfl (hb hbytes d52) rfl rfl ?_
    exact Steps.refl _)
  obtain ⟨T15, X15, p15, bl15, sl15, st15⟩ := X13.finit hexec hown (wk W (.fieldLink "java/lang/String" 9 "java/lang/String" "value" "[B")) (Or.inr ⟨_, (wk W (.laysFinal "java/lang/String" "java/lang/String" "value" "[B"))⟩) (Or.inl ⟨rfl, hnm⟩) f1 (Or.inl rfl) bl13 (t := (.array .byte)) (by decide +kernel) rfl (g := (mkF m 54 #[.val (.ref a), .val (.ref b), .val (.int (Int32.ofNat o)), .val (.int (Int32.ofNat len)), .val .null, .val (.ref s.heap.size)] [.ref s.heap.size, .ref a])) rfl (rest := []) rfl (hb hbytes d54)
  have c16 : Steps p.tables e below (s₁.setTop (entryFrame m #[.ref a, .ref b, .int (Int32.ofNat o), .int (Int32.ofNat len), .null] 6)) (T15.setTop (mkF m 57 #[.val (.ref a), .val (.ref b), .val (.int (Int32.ofNat o)), .val (.int (Int32.ofNat len)), .val .null, .val (.ref s.heap.size)] [])) := c14.trans (st15 _ (Steps.refl _))
  have ap := apart (Or.inr ⟨_, (wk W (.laysFinal "java/lang/String" "java/lang/String" "value" "[B"))⟩) (Or.inr ⟨_, (wk W (.laysFinal "java/lang/String" "java/lang/String" "coder" "B"))⟩) f1 f2 (t₁ := .array .byte) (t₂ := .byte) (by decide +kernel) (by decide +kernel) (by decide)
  have al := X8.warmed.alike.symm.trans X15.warmed.alike
  have n7 : T11.heap[s.heap.size]? = some N := by rw [q11]; exact n1.1
  exact ⟨T15, none, _, _, _, X15, by simp, rfl, by omega, (fun _ => rfl), ⟨rfl, _, N, bl15, ((Same.refl D _).set _ (by simp)).set _ (by simp), sl15, (Cell.slots_setSlot_ne _ ap).trans sl13, n1.keep al (p15.other hne (p13.other hne n7)), n2, by rw [al.findClass]; exact n3, n4, n5, fun y c h1 h2 => p15.other h1 (p13.other h1 (by rw [q11]; exact n6 y c h2)), by rw [p15.2.2, p13.2.2, q11]; exact z8⟩, fun fs hl => c16.trans (X15.returnOut hexec hret (hb hbytes d57) hl)⟩
end New4
namespace New1
def yN : MethodName := ⟨"java/lang/String", "<init>", "([C)V"⟩
abbrev yB : ByteArray := jdk_42_method_3_code
theorem d0 : decode yB 0 = .ok (.aload_n 0, 1) := by decide +kernel
theorem d1 : decode yB 1 = .ok (.aload_n 1, 1) := by decide +kernel
theorem d2 : decode yB 2 = .ok (.iconst 0, 1) := by decide +kernel
theorem d3 : decode yB 3 = .ok (.aload_n 1, 1) := by decide +kernel
theorem d4 : decode yB 4 = .ok (.arraylength, 1) := by decide +kernel
theorem d5 : decode yB 5 = .ok (.aconst_null, 1) := by decide +kernel
theorem d6 : decode yB 6 = .ok (.invokespecial 27, 3) := by decide +kernel
theorem d9 : decode yB 9 = .ok (.return_, 1) := by decide +kernel
def site : List Cond := [New4.tab] ++ initW "java/lang/String" 27 New4.yN
def tab : Cond := tabOf yN yB 2 none site
def P (a : Addr) (D : Cell) (fV fC : Field) (b : Addr) (A : Cell) (z : Int32) (args : Array Value) (s : State) : Prop := args = #[.ref a, .ref b] ∧ Blank "java/lang/String" a D s ∧ Found "java/lang/String" "value" "[B" fV s ∧ Found "java/lang/String" "coder" "B" fC s ∧ Ch b A s ∧ StaticIs s "java/lang/String" "COMPACT_STRINGS" "Z" (.int z) ∧ ¬ z = 0 ∧ 0 < A.slots.size ∧ A.slots.size ≤ 536870912 ∧ ∀ i, i < A.slots.size → ¬ 255 < cv A i
def E (a : Addr) (D : Cell) (fV fC : Field) (A : Cell) (r : Option Value) (s u : State) : Prop := Got a D fV fC A 0 A.slots.size r s u
/-- new String(chars), not empty, no char above 255: a Latin-1 String of their low bytes -/
theorem law (l : Launch) (a : Addr) (D : Cell) (fV fC : Field) (b : Addr) (A : Cell) (z : Int32) : Law l yN 2 1 3 52 yB 2 none site (P a D fV fC b A z) (E a D fV fC A) [⟨a, fC.slot⟩, ⟨a, fV.slot⟩] 1 A.slots.size := by
  refine Law.of_walk (plainFor_of_name (by decide +kernel)) (by decide +kernel) (by decide +kernel) (by decide) (fun _ _ h => by rw [h.1]; rfl) (fun _ U U' hal hh h => ⟨h.1, h.2.1.mv hal hh, h.2.2.1.al hal, h.2.2.2.1.al hal, h.2.2.2.2.1.mv hal hh, h.2.2.2.2.2.1.there hal hh, h.2.2.2.2.2.2⟩) (fun r U U' V V' h1 hal h2 h => Got.mv r U U' V V' h1 hal h2 h) ?_
  intro p e s m args below meth c s₁ X0 hexec hbytes hml hret hlk hnm hown hh0 W hP
  obtain ⟨rfl, hB, f1, f2, hA, s1, hz, l0, l2, hp⟩ := hP
  have c1 : Steps p.tables e below (s₁.setTop (entryFrame m #[.ref a, .ref b] 2)) (s₁.setTop (mkF m 0 #[.val (.ref a), .val (.ref b)] [])) := entry rfl
  have c2 : Steps p.tables e below (s₁.setTop (entryFrame m #[.ref a, .ref b] 2)) (s₁.setTop (mkF m 6 #[.val (.ref a), .val (.ref b)] [.null, .int (Int32.ofNat A.slots.size), .int 0, .ref b, .ref a])) := c1.trans (by
    refine XS.aloadN X0.here hexec rfl (hb hbytes d0) rfl rfl ?_
    refine XS.aloadN X0.here hexec rfl (hb hbytes d1) rfl rfl ?_
    refine iconstV X0.here hexec rfl 0 (hb hbytes d2) (by decide) ?_
    refine XS.aloadN X0.here hexec rfl (hb hbytes d3) rfl rfl ?_
    refine X0.alen hexec (hA.1.mv X0.warmed.alike hh0) rfl rfl (hb hbytes d4) ?_
    refine XS.aconstNull X0.here hexec rfl (hb hbytes d5) ?_
    exact Steps.refl _)
  obtain ⟨v3, T3, X3, E3, g3⟩ := X0.callN hexec (New4.law l a D fV fC b A z 0 A.slots.size) rfl hown (wks W (initW "java/lang/String" 27 New4.yN)) (W New4.tab (by simp only [site, List.mem_cons, List.mem_append, true_or, or_true])) (W := 0) (Nat.le_of_ble_eq_true rfl) (Nat.le_of_ble_eq_true rfl) (Nat.le_refl _) (by show 0 + A.slots.size ≤ A.slots.size; omega) (g := (mkF m 6 #[.val (.ref a), .val (.ref b)] [.null, .int (Int32.ofNat A.slots.size), .int (Int32.ofNat 0), .ref b, .ref a])) rfl (by rw [hml]; rfl) c2 (argsL := [.ref b, .int (Int32.ofNat 0), .int (Int32.ofNat A.slots.size), .null]) (rest := []) rfl rfl (by show 2 * 0 + 0 ≤ _; decide) (hb hbytes d6) (⟨rfl, hB.mv X0.warmed.alike hh0, f1.al X0.warmed.alike, f2.al X0.warmed.alike, hA.mv X0.warmed.alike hh0, s1.there X0.warmed.alike hh0, hz, l0, by omega, l2, fun i hi => by rw [Nat.zero_add]; exact hp i hi⟩)
  have e0 := Got.mv _ s₁ s _ _ hh0.symm (Vm.Alike.refl _) rfl E3
  obtain rfl := e0.1
  have c4 : Steps p.tables e below (s₁.setTop (entryFrame m #[.ref a, .ref b] 2)) (T3.setTop (mkF m 9 #[.val (.ref a), .val (.ref b)] [])) := g3
  exact ⟨T3, none, _, _, _, X3, by simp, rfl, by omega, (fun _ => rfl), e0, fun fs hl => c4.trans (X3.returnOut hexec hret (hb hbytes d9) hl)⟩
theorem pays {l : Launch} {R : Room} {p : Program} {e : Env} {below : List Frame} {s : State} {sargs : Array Value} {len W : Nat} (a : Addr) (D : Cell) (fV fC : Field) (b : Addr) (A : Cell) (z : Int32) (htab : tab.before sargs s = true) (hfr : 4 ≤ R.frames) (hlo : W + 65 ≤ R.locals) :
    Back l R p e below s sargs yN len W (fun A₁ a₁ => A₁.cells + 1 ≤ R.cells ∧ A₁.slots + A.slots.size ≤ R.slots ∧ P a D fV fC b A z a₁ A₁.U) (fun A₁ _ v₁ B₁ => E a D fV fC A v₁ A₁.U B₁.U ∧ B₁.locs = A₁.locs ++ [⟨a, fC.slot⟩, ⟨a, fV.slot⟩] ∧ B₁.cells = A₁.cells + 1 ∧ B₁.slots = A₁.slots + A.slots.size) :=
  (law l a D fV fC b A z).pays htab hfr (by omega)
end New1
end StrChars
namespace StrChars.Road
open Jvm Sem ClassFile Op Lib Jvm.Stand Jvm.Free Jvm.Free.XT
open Jvm.Lib.Cold (StaticIs)
abbrev ST : String := "java/lang/String"
/-- every table word that New1's law asks, flat -/
abbrev words : List Jvm.Cond := [.code New1.yN New1.yB 2 none, .initialized ST, .methodLink ST 27 New4.yN, .instanceMethod New4.yN,
  .code New4.yN New4.yB 6 none, .fieldLink ST 38 ST "COMPACT_STRINGS" "Z", .laysFinal ST ST "value" "[B", .fieldLink ST 9 ST "value" "[B", .laysFinal ST ST "coder" "B", .fieldLink ST 15 ST "coder" "B",
  .methodLink ST 1 Lib.objectInit, .instanceMethod Lib.objectInit, .code Lib.objectInit ⟨#[0xb1]⟩ 1 none, .methodLink ST 177 Cmp3.yN, .static Cmp3.yN, .methodLink ST 47 CodL.yN, .static CodL.yN,
  .code Cmp3.yN Cmp3.yB 6 (some (.array .byte)), .initialized U16, .arrayClass .byte, .methodLink U16 115 Cmp5.yN, .static Cmp5.yN, .code Cmp5.yN Cmp5.yB 7 (some .int), .code CodL.yN CodL.yB 2 (some .byte)]
theorem tab_of {a : Array Value} {s : State} (h : ∀ w ∈ words, w.before a s = true) : New1.tab.before a s = true := by
  have h5 : Cmp5.tab.before a s = true := unparts (wk h (.code Cmp5.yN Cmp5.yB 7 (some .int))) (wks h (.initialized Cmp5.yN.cls :: Cmp5.site))
  have hc : CodL.tab.before a s = true := unparts (wk h (.code CodL.yN CodL.yB 2 (some .byte))) (wks h (.initialized CodL.yN.cls :: CodL.site))
  have q5 : ∀ w ∈ Cmp5.tab :: words, w.before a s = true := fun w hw => (List.mem_cons.mp hw).elim (fun e => e ▸ h5) (h w)
  have h3 : Cmp3.tab.before a s = true := unparts (wk q5 (.code Cmp3.yN Cmp3.yB 6 (some (.array .byte)))) (wks q5 (.initialized Cmp3.yN.cls :: Cmp3.site))
  have q3 : ∀ w ∈ Cmp3.tab :: CodL.tab :: words, w.before a s = true := fun w hw => (List.mem_cons.mp hw).elim (fun e => e ▸ h3) fun hw => (List.mem_cons.mp hw).elim (fun e => e ▸ hc) (h w)
  have h4 : New4.tab.before a s = true := unparts (wk q3 (.code New4.yN New4.yB 6 none)) (wks q3 (.initialized New4.yN.cls :: New4.site))
  have q4 : ∀ w ∈ New4.tab :: words, w.before a s = true := fun w hw => (List.mem_cons.mp hw).elim (fun e => e ▸ h4) (h w)
  exact unparts (wk q4 (.code New1.yN New1.yB 2 none)) (wks q4 (.initialized New1.yN.cls :: New1.site))
/-- the words ride from the start Z to the walk's own state -/
theorem moved {Z s : State} {a0 args : Array Value} (hZ : Z.Warmed39 s.vm) (hw : ∀ d ∈ words, d.before a0 Z = true) : ∀ d ∈ words, d.before args s = true := fun d hd => by
  have q := hw d hd
  have t : ∀ d ∈ words, d = .arrayClass .byte ∨ (d.onTables && d.keepsFace) = true := by decide +kernel
  rcases t d hd with rfl | t
  · exact RoadKit.mvA hZ q
  · exact RoadKit.mv hZ q t
/-- WHAT COMES BACK, over the tables of the start Z: h the heap at the call, h' behind it -/
def Q (Z : State) (x : Addr) (A : Cell) (h : Heap) (v : Option Value) (h' : Heap) (L : List Loc) : Prop := v = none ∧ (∀ y ∈ L, y.base = x) ∧ RoadKit.Keep h h' [x] ∧ h'.size = h.size + 1 ∧ RoadKit.Exa Z h' x ST ∧ RoadKit.Fld Z h' x ST "value" "[B" (.ref h.size) ∧ RoadKit.Fld Z h' x ST "coder" "B" (.int 0) ∧
  (∃ V : Cell, RoadKit.Arr Z h' h.size V .byte ∧ V.vm = .none ∧ Z.vm.findClass "[B" = some V.cls ∧ V.slots.size = A.slots.size ∧ ∀ j, j < A.slots.size → V.slots[j]? = some (.int (lo8 (cv A j)))) ∧
  ∀ (O n d : String) (w : Value), RoadKit.Fld Z h x O n d w → RoadKit.slotOf Z O n d ≠ RoadKit.slotOf Z ST "value" "[B" → RoadKit.slotOf Z O n d ≠ RoadKit.slotOf Z ST "coder" "B" → RoadKit.Fld Z h' x O n d w
/-- **new String(chars) AT A CALL, IN THE ROAD'S FORM**: for specialBack behind newO: x the fresh String, b the char[] with the cell A -/
theorem back {p : Program} {l : Launch} {e : Env} {R : Room} {s : State} {args : Array Value} {below : List Frame} {len W : Nat} {Z : State} {a0 : Array Value} {h : Heap} (hZ : Z.Warmed39 s.vm) (hw : ∀ d ∈ words, d.before a0 Z = true) {kI : Nat} (wi : (Jvm.Cond.instantiable ST kI).before a0 Z = true)
    {x b : Addr} {A : Cell} {z : Int32} {v0 c0 : Value} (E : RoadKit.Exa Z h x ST) (V : RoadKit.Fld Z h x ST "value" "[B" v0) (C : RoadKit.Fld Z h x ST "coder" "B" c0) (K : RoadKit.Arr Z h b A .char) (hty : Typed .char A) (S : RoadKit.Sta Z h ST "COMPACT_STRINGS" "Z" (.int z)) (hz : ¬ z = 0)
    (l0 : 0 < A.slots.size) (l2 : A.slots.size ≤ 536870912) (hp : ∀ i, i < A.slots.size → ¬ 255 < cv A i) (hfr : 4 ≤ R.frames) (hlo : W + 65 ≤ R.locals) :
    Back l R p e below s args New1.yN len W (fun P a => a = #[.ref x, .ref b] ∧ P.U.heap = h ∧ P.cells + 1 ≤ R.cells ∧ P.slots + A.slots.size ≤ R.slots)
      (fun P _ v B => ∃ L, Q Z x A h v B.U.heap L ∧ B.locs = P.locs ++ L ∧ B.cells = P.cells + 1 ∧ B.slots = P.slots + A.slots.size) := by
  intro m meth c P g ig mk a X hg hsize hdg hW hn hp'
  obtain ⟨rfl, rfl, r1, r2⟩ := hp'
  have al : Z.vm.Alike P.U.vm := hZ.alike.trans X.warmed.alike
  obtain ⟨D, cfV, kV, iV, fV, hD, gV, stV, knV, obV, asV, slV⟩ := id V
  obtain ⟨D', cfC, kC, iC, fC, hD', gC, stC, -, -, asC, slC⟩ := id C
  cases hD.symm.trans hD'
  obtain ⟨D2, kD, e1, e2, e3, e4, e5⟩ := id E
  cases hD.symm.trans e1
  obtain ⟨c2, k2, i1, i2, i3, -⟩ := Cond.instantiable_spec wi
  cases e2.symm.trans i1
  cases e3.symm.trans i2
  obtain ⟨kU, u1, u2⟩ := al.2.2 _ _ e3
  have hB : Blank ST x D P.U := ⟨hD, ⟨knV, fun q hq => by rw [hq] at obV; cases obV⟩, by rw [al.findClass]; exact e2, kU, u1, by rw [u2]; exact i3, by rw [u2]; exact e5 i3⟩
  have F1 : Found ST "value" "[B" fV P.U := ⟨SBG.found_only al ⟨cfV, kV, iV, gV⟩, stV⟩
  have F2 : Found ST "coder" "B" fC P.U := ⟨SBG.found_only al ⟨cfC, kC, iC, gC⟩, stC⟩
  have hA : Ch b A P.U := ⟨⟨K.1, State.isArrayOf_alike al K.2.1, K.2.2, by omega⟩, hty⟩
  have hS : StaticIs P.U ST "COMPACT_STRINGS" "Z" (.int z) := by
    obtain ⟨cfS, iS, kS, fS, st, cS, t1, t2, t3, t4, t5, t6, t7⟩ := S
    exact StaticIs.there (s := { Z with heap := P.U.heap }) ⟨cfS, iS, kS, fS, st, cS, t1, t2, t3, t4, t5, (fun q => by rw [q] at t6; cases t6), t7⟩ al rfl
  obtain ⟨v, B, X', ⟨⟨hv, E', V', q1, q2, q3, q4, q5, q6, q7, q8, q9, q10, q11⟩, hl, hc, hs⟩, st⟩ := New1.pays x D fV fC b A z (tab_of (moved hZ hw)) hfr hlo m meth c P g ig mk _ X hg hsize hdg hW hn ⟨r1, r2, rfl, hB, F1, F2, hA, hS, hz, l0, l2, hp⟩
  have al' : Z.vm.Alike B.U.vm := hZ.alike.trans X'.warmed.alike
  have hsz : E'.slots.size = D.slots.size := by
    obtain ⟨-, -, -, kB, w1, w2, w3⟩ := q1
    obtain ⟨kB', y1, y2⟩ := al'.2.2 _ _ e3
    rw [q2.2.1] at w1
    cases w1.symm.trans y1
    rw [w3, e5 i3, y2]
  refine ⟨v, B, X', ⟨_, ⟨hv, ?_, ⟨by omega, fun y cy hy hn' => q10 y cy (by simpa using hn') hy, fun y cy hy => ?_⟩, q11, ⟨E', _, q1.1, by rw [q2.2.1]; exact e2, by rw [q2.2.1]; exact e3, by rw [q2.1]; exact obV, fun _ => by rw [hsz]; exact e5 i3⟩,
    ⟨E', cfV, kV, iV, fV, q1.1, gV, stV, by rw [q2.1]; exact knV, by rw [q2.1]; exact obV, by rw [q2.2.1]; exact asV, q3⟩, ⟨E', cfC, kC, iC, fC, q1.1, gC, stC, by rw [q2.1]; exact knV, by rw [q2.1]; exact obV, by rw [q2.2.1]; exact asC, q4⟩,
    ⟨V', ⟨q5.1, State.isArrayOf_alike al'.symm q5.2.1, q5.2.2.1⟩, q6, by rw [← al'.findClass]; exact q7, q8, fun j hj => by have := q9 j hj; rwa [Nat.zero_add] at this⟩, fun O n d w F n1 n2 => ?_⟩, hl, hc, hs⟩, st⟩
  · intro y hy
    simp only [List.mem_cons, List.not_mem_nil, or_false] at hy
    rcases hy with rfl | rfl <;> rfl
  · by_cases q : y = x
    · subst q
      cases hD.symm.trans hy
      exact ⟨E', q1.1, q2.2.1, q2.1, hsz⟩
    · exact ⟨cy, q10 y cy q hy, rfl, rfl, rfl⟩
  · obtain ⟨D3, cf, k, i, f, g1, g2, g3, g4, g5, g6, g7⟩ := F
    cases hD.symm.trans g1
    simp only [RoadKit.slotOf, g2, gV, gC, Option.map_some, Option.getD_some] at n1 n2
    exact ⟨E', cf, k, i, f, q1.1, g2, g3, by rw [q2.1]; exact g4, by rw [q2.1]; exact g5, by rw [q2.2.1]; exact g6, by rw [q2.2.2 f.slot (by simp [n1, n2])]; exact g7⟩
end StrChars.Road
namespace StrChars.Road
open Jvm Sem ClassFile Op Lib Jvm.Stand Jvm.Free Jvm.Free.XT
/-- WHAT COMES BACK, the byte[] as a list of values -/
def QA (Z : State) (x : Addr) (zn : Int32) (cs : List Int32) (h : Heap) (v : Option Value) (h' : Heap) (L : List Loc) : Prop := v = none ∧ (∀ y ∈ L, y.base = x) ∧ RoadKit.Keep h h' [x] ∧ h'.size = h.size + 1 ∧ RoadKit.Exa Z h' x ST ∧ RoadKit.Fld Z h' x ST "value" "[B" (.ref h.size) ∧ RoadKit.Fld Z h' x ST "coder" "B" (.int 0) ∧
  (∃ kb, Z.vm.findClass "[B" = some kb ∧ RoadKit.Arv Z h' h.size kb .byte zn (cs.map fun c => .int (lo8 c)) (.int 0)) ∧
  ∀ (O n d : String) (w : Value), RoadKit.Fld Z h x O n d w → RoadKit.slotOf Z O n d ≠ RoadKit.slotOf Z ST "value" "[B" → RoadKit.slotOf Z O n d ≠ RoadKit.slotOf Z ST "coder" "B" → RoadKit.Fld Z h' x O n d w
/-- **new String(chars) AT A CALL, THE ARRAYS AS LISTS**: the char[] at b holds cs, not empty, no char above 255 -/
theorem backArv {p : Program} {l : Launch} {e : Env} {R : Room} {s : State} {args : Array Value} {below : List Frame} {len W : Nat} {Z : State} {a0 : Array Value} {h : Heap} (hZ : Z.Warmed39 s.vm) (hw : ∀ d ∈ words, d.before a0 Z = true) {kI : Nat} (wi : (Jvm.Cond.instantiable ST kI).before a0 Z = true)
    {x b : Addr} {k : ClassId} {zn z : Int32} {cs : List Int32} {dv v0 c0 : Value} (E : RoadKit.Exa Z h x ST) (V : RoadKit.Fld Z h x ST "value" "[B" v0) (C : RoadKit.Fld Z h x ST "coder" "B" c0) (K : RoadKit.Arv Z h b k .char zn (cs.map Value.int) dv) (S : RoadKit.Sta Z h ST "COMPACT_STRINGS" "Z" (.int z)) (hz : ¬ z = 0)
    (hlen : zn.toNatClampNeg = cs.length) (h0 : 0 < cs.length) (hbig : cs.length ≤ 536870912) (hall : ∀ c ∈ cs, ¬ 255 < c) (hfr : 4 ≤ R.frames) (hlo : W + 65 ≤ R.locals) :
    Back l R p e below s args New1.yN len W (fun P a => a = #[.ref x, .ref b] ∧ P.U.heap = h ∧ P.cells + 1 ≤ R.cells ∧ P.slots + cs.length ≤ R.slots)
      (fun P _ v B => ∃ L, QA Z x zn cs h v B.U.heap L ∧ B.locs = P.locs ++ L ∧ B.cells = P.cells + 1 ∧ B.slots = P.slots + cs.length) := by
  obtain ⟨A, K1, K2, K3, K4, K5, K6⟩ := K
  have e : A.slots.size = cs.length := K3.trans hlen
  have hat : ∀ (i : Nat) (hi : i < cs.length), A.slots[i]? = some (.int cs[i]) := fun i hi => by rw [K5 i (by omega)]; simp [List.getD_eq_getElem?_getD, hi]
  have hcv : ∀ (i : Nat) (hi : i < cs.length), cv A i = cs[i] := fun i hi => by unfold cv; rw [hat i hi]
  have hty : Typed .char A := fun i v hv => by
    have hi : i < A.slots.size := (Array.getElem?_eq_some_iff.mp hv).1
    have q := K5 i hi
    rw [hv] at q
    rw [Option.some.inj q]
    exact K6 i hi
  refine Back.mono (back hZ hw wi E V C K1 hty S hz (by omega) (by omega) (fun i hi => by rw [hcv i (by omega)]; exact hall _ (List.getElem_mem _)) hfr hlo) (fun P a hp => ⟨hp.1, hp.2.1, hp.2.2.1, by rw [e]; exact hp.2.2.2⟩) (fun P a v B hp hq => ?_)
  obtain ⟨L, ⟨q1, q2, q3, q4, q5, q6, q7, ⟨V', v1, v2, v3, v4, v5⟩, q9⟩, hl, hc, hs⟩ := hq
  refine ⟨L, ⟨q1, q2, q3, q4, q5, q6, q7, ⟨V'.cls, v3, V', v1, rfl, by rw [v4, e, hlen], K4, fun i hi => ?_, fun i hi => ?_⟩, q9⟩, hl, hc, by rw [hs, e]⟩
  · have hi' : i < cs.length := by omega
    rw [v5 i (by omega), hcv i hi']; simp [List.getD_eq_getElem?_getD, hi']
  · have hi' : i < cs.length := by omega
    simp only [List.getD_eq_getElem?_getD, List.getElem?_map, List.getElem?_eq_getElem hi', Option.map_some, Option.getD_some]
    exact fits_lo8 _
end StrChars.Road
namespace StrChars.Road
open Jvm Sem ClassFile Op Lib Jvm.Stand Jvm.Free Jvm.Free.XT
/-- WHAT COMES BACK, in the writer's own shape -/
def QV (Z : State) (x : Addr) (N : Int32) (bs : List Int32) (h : Heap) (n0 : Nat) (v : Option Value) (h' : Heap) (L : List Loc) : Prop := v = none ∧ RoadKit.Fr n0 L ∧ RoadKit.Keep h h' [x] ∧ RoadKit.Exa Z h' x ST ∧ RoadKit.Fld Z h' x ST "coder" "B" (.int 0) ∧
  ∃ (t : Addr) (kb : ClassId), n0 ≤ t ∧ h.size ≤ t ∧ ¬ t = x ∧ RoadKit.Fld Z h' x ST "value" "[B" (.ref t) ∧ RoadKit.Arv Z h' t kb .byte N (bs.map Value.int) (.int 0)
/-- **new String(chars) AT A CALL, FOR THE WRITER**: a char[] of n known ints, each 0 to 255 -/
theorem backV {p : Program} {l : Launch} {e : Env} {R : Room} {s : State} {args : Array Value} {below : List Frame} {len W : Nat} {Z : State} {a0 : Array Value} {h : Heap} (hZ : Z.Warmed39 s.vm) (hw : ∀ d ∈ words, d.before a0 Z = true) {kI : Nat} (wi : (Jvm.Cond.instantiable ST kI).before a0 Z = true)
    {x b : Addr} {kC : ClassId} {cs bs : List Int32} {d v0 c0 : Value} {z N : Int32} {n n0 : Nat} (hx0 : n0 ≤ x) (hh0 : n0 ≤ h.size) (E : RoadKit.Exa Z h x ST) (V : RoadKit.Fld Z h x ST "value" "[B" v0) (C : RoadKit.Fld Z h x ST "coder" "B" c0) (K : RoadKit.Arv Z h b kC .char N (cs.map Value.int) d) (S : RoadKit.Sta Z h ST "COMPACT_STRINGS" "Z" (.int z)) (hz : ¬ z = 0)
    (hn : cs.length = n) (hN : N = Int32.ofNat n) (l0 : 0 < n) (l2 : n ≤ 4000) (hp : ∀ c ∈ cs, ¬ c < 0 ∧ ¬ (255 : Int32) < c) (hb : bs = cs.map (fun c => c.toInt8.toInt32)) (hfr : 4 ≤ R.frames) (hlo : W + 65 ≤ R.locals) :
    Back l R p e below s args (⟨"java/lang/String", "<init>", "([C)V"⟩ : MethodName) len W (fun P a => a = #[.ref x, .ref b] ∧ P.U.heap = h ∧ P.cells + 1 ≤ R.cells ∧ P.slots + n ≤ R.slots)
      (fun P _ v B => ∃ L, QV Z x N bs h n0 v B.U.heap L ∧ B.locs = P.locs ++ L ∧ B.cells = P.cells + 1 ∧ B.slots = P.slots + n) := by
  subst hn hN hb
  refine Back.mono (backArv hZ hw wi E V C K S hz (n32 (by omega)) l0 (by omega) (fun c hc => (hp c hc).2) hfr hlo) (fun P a hp => hp) (fun P a v B hp hq => ?_)
  obtain ⟨L, ⟨q1, q2, q3, q4, q5, q6, q7, ⟨kb, v1, v2⟩, q9⟩, hl, hc, hs⟩ := hq
  exact ⟨L, ⟨q1, fun y hy => by rw [q2 y hy]; exact hx0, q3, q5, q7, h.size, kb, hh0, Nat.le_refl _, Nat.ne_of_gt E.lt, q6, by rw [List.map_map]; exact v2⟩, hl, hc, hs⟩
end StrChars.Road
end Jvm.Pilot.@@N@@
namespace Jvm.Pilot.@@N@@
open Jvm Jvm.ClassFile Sem Op Lib Jvm.Free Jvm.Stand Jvm.LawKit Jvm.RoadKit Bundle Jvm.Pilot.@@N@@.Jvm.D
/-- from S on the run ends as Q says -/
def own_Go (p : Program) (e : Env) (below : List Frame) (s : State) (Q : Option Value → Heap → List Loc → Prop) (k n : Nat) (S : State) : Prop :=
  ∃ s₂ o, Steps p.tables e below S s₂ ∧ s₂.status = .running ∧ Ended s₂ below o ∧ ∃ v L, o = .returned v ∧ Q v s₂.heap L ∧ FrameEnd s o s₂ L k n
/-- the goal, as a predicate that is closed under steps -/
theorem own_abs (p : Program) (e : Env) (below : List Frame) (s : State) (Q : Option Value → Heap → List Loc → Prop) (k n : Nat) :
    ∃ G : State → Prop, (∀ {S : State}, G S → own_Go p e below s Q k n S) ∧ (∀ {S S' : State}, (∀ t, Steps p.tables e below S' t → Steps p.tables e below S t) → G S' → G S) ∧ (∀ {S : State}, own_Go p e below s Q k n S → G S) :=
  ⟨own_Go p e below s Q k n, fun h => h, fun h g => by obtain ⟨s2, o, h1, r⟩ := g; exact ⟨s2, o, h _ h1, r⟩, fun h => h⟩
section OwnEnd
variable {p : Program} {l : Launch} {e : Env} {R : Room} {s : State} {m : MethodId} {args : Array Value} {below : List Frame} {meth : Method} {c : Code} {T : State} {locs : List Loc} {cells slots : Nat} {Q : Option Value → Heap → List Loc → Prop} {k n : Nat}
theorem own_goRet (X : Stand p l e R s m args below meth c T locs cells slots) (hx : p.tables.exec = Jvm.exec) {pc : Nat} {Ls : Array Slot} {w : Value} {t : FieldType} {i : Instr} {rest : List Value} (hret : meth.sig.returnType = some t) (hn : narrow t w = w)
    (hi : (i = .ireturn ∧ (t = .int ∨ t = .boolean ∨ t = .byte ∨ t = .char ∨ t = .short) ∧ ∃ z, w = .int z) ∨ (i = .lreturn ∧ t = .long ∧ ∃ z, w = .long z) ∨ (i = .dreturn ∧ t = .double ∧ ∃ z, w = .double z) ∨ (i = .freturn ∧ t = .float ∧ ∃ z, w = .float z) ∨ (i = .areturn ∧ t.isReference = true ∧ w.isRef = true))
    (hd : decode c.code pc = .ok (i, 1)) (hlk : meth.locks = false) (hQ : Q (some w) T.heap locs) (hk : cells ≤ k) (hn' : slots ≤ n) : own_Go p e below s Q k n (T.setTop (mkF m pc Ls (w :: rest))) := by
  obtain ⟨fs, hr, hrun, hended, hW, hsame⟩ := X.leave (v := some w) (fun h => by rw [hret] at h; cases h) hlk
  exact ⟨_, _, retOut X hx hret hn hi hd hr, hrun, hended, _, _, rfl, hQ, ⟨_, rfl⟩, hW, hsame.mono hk hn'⟩
theorem own_goVoid (X : Stand p l e R s m args below meth c T locs cells slots) (hx : p.tables.exec = Jvm.exec) {pc : Nat} {Ls : Array Slot} (hret : meth.sig.returnType = none)
    (hd : decode c.code pc = .ok (.return_, 1)) (hlk : meth.locks = false) (hQ : Q none T.heap locs) (hk : cells ≤ k) (hn' : slots ≤ n) : own_Go p e below s Q k n (T.setTop (mkF m pc Ls [])) := by
  obtain ⟨fs, hr, hrun, hended, hW, hsame⟩ := X.leave (v := none) (fun _ => rfl) hlk
  exact ⟨_, _, X.returnOut hx hret hd hr, hrun, hended, _, _, rfl, hQ, ⟨_, rfl⟩, hW, hsame.mono hk hn'⟩
end OwnEnd
section OwnStep
variable {p : Program} {e : Env} {below : List Frame} {G : State → Prop} {T : State} {m : MethodId} {c : Code} {pc pc' : Nat} {Ls Lt : Array Slot} {st : List Value}
/-- G is closed under steps -/
abbrev OwnCl (p : Program) (e : Env) (below : List Frame) (G : State → Prop) : Prop := ∀ {S S' : State}, (∀ t, Steps p.tables e below S' t → Steps p.tables e below S t) → G S' → G S
theorem o_iloadN (hst : OwnCl p e below G) (h : At T m c below) (hx : p.tables.exec = Jvm.exec) {n : Fin 4} {v : Int32} (hd : decode c.code pc = .ok (.iload_n n, 1)) (hp : pc + 1 = pc') (hl : Ls[n.val]? = some (.val (.int v))) (k : G (T.setTop (mkF m pc' Ls (.int v :: st)))) : G (T.setTop (mkF m pc Ls (st))) := by
  subst hp; exact hst (fun _ kt => XS.iloadN h hx rfl hd hl kt) k
theorem o_iload (hst : OwnCl p e below G) (h : At T m c below) (hx : p.tables.exec = Jvm.exec) {n : Nat} {v : Int32} (hd : decode c.code pc = .ok (.iload n, 2)) (hp : pc + 2 = pc') (hl : Ls[n]? = some (.val (.int v))) (k : G (T.setTop (mkF m pc' Ls (.int v :: st)))) : G (T.setTop (mkF m pc Ls (st))) := by
  subst hp; exact hst (fun _ kt => XS.iload h hx rfl hd hl kt) k
theorem o_lloadN (hst : OwnCl p e below G) (h : At T m c below) (hx : p.tables.exec = Jvm.exec) {n : Fin 4} {v : Int64} (hd : decode c.code pc = .ok (.lload_n n, 1)) (hp : pc + 1 = pc') (hl : Ls[n.val]? = some (.val (.long v))) (k : G (T.setTop (mkF m pc' Ls (.long v :: st)))) : G (T.setTop (mkF m pc Ls (st))) := by
  subst hp; exact hst (fun _ kt => XS.lloadN h hx rfl hd hl kt) k
theorem o_lload (hst : OwnCl p e below G) (h : At T m c below) (hx : p.tables.exec = Jvm.exec) {n : Nat} {v : Int64} (hd : decode c.code pc = .ok (.lload n, 2)) (hp : pc + 2 = pc') (hl : Ls[n]? = some (.val (.long v))) (k : G (T.setTop (mkF m pc' Ls (.long v :: st)))) : G (T.setTop (mkF m pc Ls (st))) := by
  subst hp; exact hst (fun _ kt => XS.lload h hx rfl hd hl kt) k
theorem o_floadN (hst : OwnCl p e below G) (h : At T m c below) (hx : p.tables.exec = Jvm.exec) {n : Fin 4} {v : UInt32} (hd : decode c.code pc = .ok (.fload_n n, 1)) (hp : pc + 1 = pc') (hl : Ls[n.val]? = some (.val (.float v))) (k : G (T.setTop (mkF m pc' Ls (.float v :: st)))) : G (T.setTop (mkF m pc Ls (st))) := by
  subst hp; exact hst (fun _ kt => XS.floadN h hx rfl hd hl kt) k
theorem o_fload (hst : OwnCl p e below G) (h : At T m c below) (hx : p.tables.exec = Jvm.exec) {n : Nat} {v : UInt32} (hd : decode c.code pc = .ok (.fload n, 2)) (hp : pc + 2 = pc') (hl : Ls[n]? = some (.val (.float v))) (k : G (T.setTop (mkF m pc' Ls (.float v :: st)))) : G (T.setTop (mkF m pc Ls (st))) := by
  subst hp; exact hst (fun _ kt => XS.fload h hx rfl hd hl kt) k
theorem o_aloadN (hst : OwnCl p e below G) (h : At T m c below) (hx : p.tables.exec = Jvm.exec) {n : Fin 4} {v : Value} (hd : decode c.code pc = .ok (.aload_n n, 1)) (hp : pc + 1 = pc') (hl : Ls[n.val]? = some (.val v)) (hv : v.isRef = true) (k : G (T.setTop (mkF m pc' Ls (v :: st)))) : G (T.setTop (mkF m pc Ls (st))) := by
  subst hp; exact hst (fun _ kt => XS.aloadN h hx rfl hd hl hv kt) k
theorem o_aload (hst : OwnCl p e below G) (h : At T m c below) (hx : p.tables.exec = Jvm.exec) {n : Nat} {v : Value} (hd : decode c.code pc = .ok (.aload n, 2)) (hp : pc + 2 = pc') (hl : Ls[n]? = some (.val v)) (hv : v.isRef = true) (k : G (T.setTop (mkF m pc' Ls (v :: st)))) : G (T.setTop (mkF m pc Ls (st))) := by
  subst hp; exact hst (fun _ kt => XS.aload h hx rfl hd hl hv kt) k
theorem o_istoreN (hst : OwnCl p e below G) (h : At T m c below) (hx : p.tables.exec = Jvm.exec) {n : Fin 4} {v : Int32} (hd : decode c.code pc = .ok (.istore_n n, 1)) (hp : pc + 1 = pc') (hl : storeLocals Ls n.val (.int v) = some Lt) (k : G (T.setTop (mkF m pc' Lt (st)))) : G (T.setTop (mkF m pc Ls (.int v :: st))) := by
  subst hp; exact hst (fun _ kt => XS.istoreN h hx rfl hd rfl hl kt) k
theorem o_istore (hst : OwnCl p e below G) (h : At T m c below) (hx : p.tables.exec = Jvm.exec) {n : Nat} {v : Int32} (hd : decode c.code pc = .ok (.istore n, 2)) (hp : pc + 2 = pc') (hl : storeLocals Ls n (.int v) = some Lt) (k : G (T.setTop (mkF m pc' Lt (st)))) : G (T.setTop (mkF m pc Ls (.int v :: st))) := by
  subst hp; exact hst (fun _ kt => XS.istore h hx rfl hd rfl hl kt) k
theorem o_lstoreN (hst : OwnCl p e below G) (h : At T m c below) (hx : p.tables.exec = Jvm.exec) {n : Fin 4} {v : Int64} (hd : decode c.code pc = .ok (.lstore_n n, 1)) (hp : pc + 1 = pc') (hl : storeLocals Ls n.val (.long v) = some Lt) (k : G (T.setTop (mkF m pc' Lt (st)))) : G (T.setTop (mkF m pc Ls (.long v :: st))) := by
  subst hp; exact hst (fun _ kt => XS.lstoreN h hx rfl hd rfl hl kt) k
theorem o_lstore (hst : OwnCl p e below G) (h : At T m c below) (hx : p.tables.exec = Jvm.exec) {n : Nat} {v : Int64} (hd : decode c.code pc = .ok (.lstore n, 2)) (hp : pc + 2 = pc') (hl : storeLocals Ls n (.long v) = some Lt) (k : G (T.setTop (mkF m pc' Lt (st)))) : G (T.setTop (mkF m pc Ls (.long v :: st))) := by
  subst hp; exact hst (fun _ kt => XS.lstore h hx rfl hd rfl hl kt) k
theorem o_astoreN (hst : OwnCl p e below G) (h : At T m c below) (hx : p.tables.exec = Jvm.exec) {n : Fin 4} {v : Value} (hd : decode c.code pc = .ok (.astore_n n, 1)) (hp : pc + 1 = pc') (hv : v.isRef = true) (hl : storeLocals Ls n.val v = some Lt) (k : G (T.setTop (mkF m pc' Lt (st)))) : G (T.setTop (mkF m pc Ls (v :: st))) := by
  subst hp; exact hst (fun _ kt => XS.astoreN h hx rfl hd rfl hv hl kt) k
theorem o_astore (hst : OwnCl p e below G) (h : At T m c below) (hx : p.tables.exec = Jvm.exec) {n : Nat} {v : Value} (hd : decode c.code pc = .ok (.astore n, 2)) (hp : pc + 2 = pc') (hv : v.isRef = true) (hl : storeLocals Ls n v = some Lt) (k : G (T.setTop (mkF m pc' Lt (st)))) : G (T.setTop (mkF m pc Ls (v :: st))) := by
  subst hp; exact hst (fun _ kt => XS.astore h hx rfl hd rfl hv hl kt) k
theorem o_iconst (hst : OwnCl p e below G) (h : At T m c below) (hx : p.tables.exec = Jvm.exec) {i : Int} {z : Int32} (hd : decode c.code pc = .ok (.iconst i, 1)) (hp : pc + 1 = pc') (hz : Int32.ofInt i = z) (k : G (T.setTop (mkF m pc' Ls (.int z :: st)))) : G (T.setTop (mkF m pc Ls (st))) := by
  subst hp hz; exact hst (fun _ kt => XS.iconst h hx rfl hd kt) k
theorem o_bipush (hst : OwnCl p e below G) (h : At T m c below) (hx : p.tables.exec = Jvm.exec) {i : Int} {z : Int32} (hd : decode c.code pc = .ok (.bipush i, 2)) (hp : pc + 2 = pc') (hz : (Int8.ofInt i).toInt32 = z) (k : G (T.setTop (mkF m pc' Ls (.int z :: st)))) : G (T.setTop (mkF m pc Ls (st))) := by
  subst hp hz; exact hst (fun _ kt => XS.bipush h hx rfl hd kt) k
theorem o_sipush (hst : OwnCl p e below G) (h : At T m c below) (hx : p.tables.exec = Jvm.exec) {i : Int} {z : Int32} (hd : decode c.code pc = .ok (.sipush i, 3)) (hp : pc + 3 = pc') (hz : (Int16.ofInt i).toInt32 = z) (k : G (T.setTop (mkF m pc' Ls (.int z :: st)))) : G (T.setTop (mkF m pc Ls (st))) := by
  subst hp hz; exact hst (fun _ kt => XS.sipush h hx rfl hd kt) k
theorem o_lconst (hst : OwnCl p e below G) (h : At T m c below) (hx : p.tables.exec = Jvm.exec) {i : Fin 2} {z : Int64} (hd : decode c.code pc = .ok (.lconst i, 1)) (hp : pc + 1 = pc') (hz : Int64.ofNat i = z) (k : G (T.setTop (mkF m pc' Ls (.long z :: st)))) : G (T.setTop (mkF m pc Ls (st))) := by
  subst hp hz; exact hst (fun _ kt => XS.lconst h hx rfl hd kt) k
theorem o_aconstNull (hst : OwnCl p e below G) (h : At T m c below) (hx : p.tables.exec = Jvm.exec)  (hd : decode c.code pc = .ok (.aconst_null, 1)) (hp : pc + 1 = pc') (k : G (T.setTop (mkF m pc' Ls (.null :: st)))) : G (T.setTop (mkF m pc Ls (st))) := by
  subst hp; exact hst (fun _ kt => XS.aconstNull h hx rfl hd kt) k
theorem o_iadd (hst : OwnCl p e below G) (h : At T m c below) (hx : p.tables.exec = Jvm.exec) {x y : Int32} (hd : decode c.code pc = .ok (.iadd, 1)) (hp : pc + 1 = pc') (k : G (T.setTop (mkF m pc' Ls (.int (x + y) :: st)))) : G (T.setTop (mkF m pc Ls (.int y :: .int x :: st))) := by
  subst hp; exact hst (fun _ kt => XS.iadd h hx rfl hd rfl kt) k
theorem o_ladd (hst : OwnCl p e below G) (h : At T m c below) (hx : p.tables.exec = Jvm.exec) {x y : Int64} (hd : decode c.code pc = .ok (.ladd, 1)) (hp : pc + 1 = pc') (k : G (T.setTop (mkF m pc' Ls (.long (x + y) :: st)))) : G (T.setTop (mkF m pc Ls (.long y :: .long x :: st))) := by
  subst hp; exact hst (fun _ kt => XS.ladd h hx rfl hd rfl kt) k
theorem o_isub (hst : OwnCl p e below G) (h : At T m c below) (hx : p.tables.exec = Jvm.exec) {x y : Int32} (hd : decode c.code pc = .ok (.isub, 1)) (hp : pc + 1 = pc') (k : G (T.setTop (mkF m pc' Ls (.int (x - y) :: st)))) : G (T.setTop (mkF m pc Ls (.int y :: .int x :: st))) := by
  subst hp; exact hst (fun _ kt => XS.isub h hx rfl hd rfl kt) k
theorem o_lsub (hst : OwnCl p e below G) (h : At T m c below) (hx : p.tables.exec = Jvm.exec) {x y : Int64} (hd : decode c.code pc = .ok (.lsub, 1)) (hp : pc + 1 = pc') (k : G (T.setTop (mkF m pc' Ls (.long (x - y) :: st)))) : G (T.setTop (mkF m pc Ls (.long y :: .long x :: st))) := by
  subst hp; exact hst (fun _ kt => XS.lsub h hx rfl hd rfl kt) k
theorem o_imul (hst : OwnCl p e below G) (h : At T m c below) (hx : p.tables.exec = Jvm.exec) {x y : Int32} (hd : decode c.code pc = .ok (.imul, 1)) (hp : pc + 1 = pc') (k : G (T.setTop (mkF m pc' Ls (.int (x * y) :: st)))) : G (T.setTop (mkF m pc Ls (.int y :: .int x :: st))) := by
  subst hp; exact hst (fun _ kt => XS.imul h hx rfl hd rfl kt) k
theorem o_lmul (hst : OwnCl p e below G) (h : At T m c below) (hx : p.tables.exec = Jvm.exec) {x y : Int64} (hd : decode c.code pc = .ok (.lmul, 1)) (hp : pc + 1 = pc') (k : G (T.setTop (mkF m pc' Ls (.long (x * y) :: st)))) : G (T.setTop (mkF m pc Ls (.long y :: .long x :: st))) := by
  subst hp; exact hst (fun _ kt => XS.lmul h hx rfl hd rfl kt) k
theorem o_iand (hst : OwnCl p e below G) (h : At T m c below) (hx : p.tables.exec = Jvm.exec) {x y : Int32} (hd : decode c.code pc = .ok (.iand, 1)) (hp : pc + 1 = pc') (k : G (T.setTop (mkF m pc' Ls (.int (x &&& y) :: st)))) : G (T.setTop (mkF m pc Ls (.int y :: .int x :: st))) := by
  subst hp; exact hst (fun _ kt => XS.iand h hx rfl hd rfl kt) k
theorem o_land (hst : OwnCl p e below G) (h : At T m c below) (hx : p.tables.exec = Jvm.exec) {x y : Int64} (hd : decode c.code pc = .ok (.land, 1)) (hp : pc + 1 = pc') (k : G (T.setTop (mkF m pc' Ls (.long (x &&& y) :: st)))) : G (T.setTop (mkF m pc Ls (.long y :: .long x :: st))) := by
  subst hp; exact hst (fun _ kt => XS.land h hx rfl hd rfl kt) k
theorem o_ior (hst : OwnCl p e below G) (h : At T m c below) (hx : p.tables.exec = Jvm.exec) {x y : Int32} (hd : decode c.code pc = .ok (.ior, 1)) (hp : pc + 1 = pc') (k : G (T.setTop (mkF m pc' Ls (.int (x ||| y) :: st)))) : G (T.setTop (mkF m pc Ls (.int y :: .int x :: st))) := by
  subst hp; exact hst (fun _ kt => XS.ior h hx rfl hd rfl kt) k
theorem o_lor (hst : OwnCl p e below G) (h : At T m c below) (hx : p.tables.exec = Jvm.exec) {x y : Int64} (hd : decode c.code pc = .ok (.lor, 1)) (hp : pc + 1 = pc') (k : G (T.setTop (mkF m pc' Ls (.long (x ||| y) :: st)))) : G (T.setTop (mkF m pc Ls (.long y :: .long x :: st))) := by
  subst hp; exact hst (fun _ kt => XS.lor h hx rfl hd rfl kt) k
theorem o_ixor (hst : OwnCl p e below G) (h : At T m c below) (hx : p.tables.exec = Jvm.exec) {x y : Int32} (hd : decode c.code pc = .ok (.ixor, 1)) (hp : pc + 1 = pc') (k : G (T.setTop (mkF m pc' Ls (.int (x ^^^ y) :: st)))) : G (T.setTop (mkF m pc Ls (.int y :: .int x :: st))) := by
  subst hp; exact hst (fun _ kt => XS.ixor h hx rfl hd rfl kt) k
theorem o_lxor (hst : OwnCl p e below G) (h : At T m c below) (hx : p.tables.exec = Jvm.exec) {x y : Int64} (hd : decode c.code pc = .ok (.lxor, 1)) (hp : pc + 1 = pc') (k : G (T.setTop (mkF m pc' Ls (.long (x ^^^ y) :: st)))) : G (T.setTop (mkF m pc Ls (.long y :: .long x :: st))) := by
  subst hp; exact hst (fun _ kt => XS.lxor h hx rfl hd rfl kt) k
theorem o_ineg (hst : OwnCl p e below G) (h : At T m c below) (hx : p.tables.exec = Jvm.exec) {x : Int32} (hd : decode c.code pc = .ok (.ineg, 1)) (hp : pc + 1 = pc') (k : G (T.setTop (mkF m pc' Ls (.int (-x) :: st)))) : G (T.setTop (mkF m pc Ls (.int x :: st))) := by
  subst hp; exact hst (fun _ kt => XS.ineg h hx rfl hd rfl kt) k
theorem o_lneg (hst : OwnCl p e below G) (h : At T m c below) (hx : p.tables.exec = Jvm.exec) {x : Int64} (hd : decode c.code pc = .ok (.lneg, 1)) (hp : pc + 1 = pc') (k : G (T.setTop (mkF m pc' Ls (.long (-x) :: st)))) : G (T.setTop (mkF m pc Ls (.long x :: st))) := by
  subst hp; exact hst (fun _ kt => XS.lneg h hx rfl hd rfl kt) k
theorem o_i2l (hst : OwnCl p e below G) (h : At T m c below) (hx : p.tables.exec = Jvm.exec) {x : Int32} (hd : decode c.code pc = .ok (.i2l, 1)) (hp : pc + 1 = pc') (k : G (T.setTop (mkF m pc' Ls (.long (x.toInt64) :: st)))) : G (T.setTop (mkF m pc Ls (.int x :: st))) := by
  subst hp; exact hst (fun _ kt => XS.i2l h hx rfl hd rfl kt) k
theorem o_l2i (hst : OwnCl p e below G) (h : At T m c below) (hx : p.tables.exec = Jvm.exec) {x : Int64} (hd : decode c.code pc = .ok (.l2i, 1)) (hp : pc + 1 = pc') (k : G (T.setTop (mkF m pc' Ls (.int (x.toInt32) :: st)))) : G (T.setTop (mkF m pc Ls (.long x :: st))) := by
  subst hp; exact hst (fun _ kt => XS.l2i h hx rfl hd rfl kt) k
theorem o_i2b (hst : OwnCl p e below G) (h : At T m c below) (hx : p.tables.exec = Jvm.exec) {x : Int32} (hd : decode c.code pc = .ok (.i2b, 1)) (hp : pc + 1 = pc') (k : G (T.setTop (mkF m pc' Ls (.int (x.toInt8.toInt32) :: st)))) : G (T.setTop (mkF m pc Ls (.int x :: st))) := by
  subst hp; exact hst (fun _ kt => XS.i2b h hx rfl hd rfl kt) k
theorem o_i2s (hst : OwnCl p e below G) (h : At T m c below) (hx : p.tables.exec = Jvm.exec) {x : Int32} (hd : decode c.code pc = .ok (.i2s, 1)) (hp : pc + 1 = pc') (k : G (T.setTop (mkF m pc' Ls (.int (x.toInt16.toInt32) :: st)))) : G (T.setTop (mkF m pc Ls (.int x :: st))) := by
  subst hp; exact hst (fun _ kt => XS.i2s h hx rfl hd rfl kt) k
theorem o_i2c (hst : OwnCl p e below G) (h : At T m c below) (hx : p.tables.exec = Jvm.exec) {x : Int32} (hd : decode c.code pc = .ok (.i2c, 1)) (hp : pc + 1 = pc') (k : G (T.setTop (mkF m pc' Ls (.int (x.toUInt32.toUInt16.toUInt32.toInt32) :: st)))) : G (T.setTop (mkF m pc Ls (.int x :: st))) := by
  subst hp; exact hst (fun _ kt => XS.i2c h hx rfl hd rfl kt) k
theorem o_ishl (hst : OwnCl p e below G) (h : At T m c below) (hx : p.tables.exec = Jvm.exec) {x : Int32} {y : Int32} (hd : decode c.code pc = .ok (.ishl, 1)) (hp : pc + 1 = pc') (k : G (T.setTop (mkF m pc' Ls (.int (x <<< (y &&& 31)) :: st)))) : G (T.setTop (mkF m pc Ls (.int y :: .int x :: st))) := by
  subst hp; exact hst (fun _ kt => XS.ishl h hx rfl hd rfl kt) k
theorem o_ishr (hst : OwnCl p e below G) (h : At T m c below) (hx : p.tables.exec = Jvm.exec) {x : Int32} {y : Int32} (hd : decode c.code pc = .ok (.ishr, 1)) (hp : pc + 1 = pc') (k : G (T.setTop (mkF m pc' Ls (.int (x >>> (y &&& 31)) :: st)))) : G (T.setTop (mkF m pc Ls (.int y :: .int x :: st))) := by
  subst hp; exact hst (fun _ kt => XS.ishr h hx rfl hd rfl kt) k
theorem o_iushr (hst : OwnCl p e below G) (h : At T m c below) (hx : p.tables.exec = Jvm.exec) {x : Int32} {y : Int32} (hd : decode c.code pc = .ok (.iushr, 1)) (hp : pc + 1 = pc') (k : G (T.setTop (mkF m pc' Ls (.int ((x.toUInt32 >>> (y &&& 31).toUInt32).toInt32) :: st)))) : G (T.setTop (mkF m pc Ls (.int y :: .int x :: st))) := by
  subst hp; exact hst (fun _ kt => XS.iushr h hx rfl hd rfl kt) k
theorem o_lshl (hst : OwnCl p e below G) (h : At T m c below) (hx : p.tables.exec = Jvm.exec) {x : Int64} {y : Int32} (hd : decode c.code pc = .ok (.lshl, 1)) (hp : pc + 1 = pc') (k : G (T.setTop (mkF m pc' Ls (.long (x <<< (y &&& 0x3f).toInt64) :: st)))) : G (T.setTop (mkF m pc Ls (.int y :: .long x :: st))) := by
  subst hp; exact hst (fun _ kt => XS.lshl h hx rfl hd rfl kt) k
theorem o_lshr (hst : OwnCl p e below G) (h : At T m c below) (hx : p.tables.exec = Jvm.exec) {x : Int64} {y : Int32} (hd : decode c.code pc = .ok (.lshr, 1)) (hp : pc + 1 = pc') (k : G (T.setTop (mkF m pc' Ls (.long (x >>> (y &&& 0x3f).toInt64) :: st)))) : G (T.setTop (mkF m pc Ls (.int y :: .long x :: st))) := by
  subst hp; exact hst (fun _ kt => XS.lshr h hx rfl hd rfl kt) k
theorem o_lushr (hst : OwnCl p e below G) (h : At T m c below) (hx : p.tables.exec = Jvm.exec) {x : Int64} {y : Int32} (hd : decode c.code pc = .ok (.lushr, 1)) (hp : pc + 1 = pc') (k : G (T.setTop (mkF m pc' Ls (.long ((x.toUInt64 >>> (y &&& 0x3f).toInt64.toUInt64).toInt64) :: st)))) : G (T.setTop (mkF m pc Ls (.int y :: .long x :: st))) := by
  subst hp; exact hst (fun _ kt => XS.lushr h hx rfl hd rfl kt) k
theorem o_lcmp (hst : OwnCl p e below G) (h : At T m c below) (hx : p.tables.exec = Jvm.exec) {x y : Int64} (hd : decode c.code pc = .ok (.lcmp, 1)) (hp : pc + 1 = pc') (k : G (T.setTop (mkF m pc' Ls (.int (lcmpW x y) :: st)))) : G (T.setTop (mkF m pc Ls (.long y :: .long x :: st))) := by
  subst hp; exact hst (fun _ kt => XS.lcmp h hx rfl hd rfl kt) k
theorem o_iinc (hst : OwnCl p e below G) (h : At T m c below) (hx : p.tables.exec = Jvm.exec) {n : Nat} {i : Int} {v : Int32} (hd : decode c.code pc = .ok (.iinc n i, 3)) (hp : pc + 3 = pc') (hl : Ls[n]? = some (.val (.int v))) (hs : storeLocals Ls n (.int (v + Int32.ofInt i)) = some Lt) (k : G (T.setTop (mkF m pc' Lt (st)))) : G (T.setTop (mkF m pc Ls (st))) := by
  subst hp; exact hst (fun _ kt => XS.iinc h hx rfl hd hl hs kt) k
theorem o_dup (hst : OwnCl p e below G) (h : At T m c below) (hx : p.tables.exec = Jvm.exec) {v : Value} (hd : decode c.code pc = .ok (.dup, 1)) (hp : pc + 1 = pc') (hc : v.category = 1) (k : G (T.setTop (mkF m pc' Ls (v :: v :: st)))) : G (T.setTop (mkF m pc Ls (v :: st))) := by
  subst hp; exact hst (fun _ kt => XS.dup h hx rfl hd rfl hc kt) k
theorem o_pop (hst : OwnCl p e below G) (h : At T m c below) (hx : p.tables.exec = Jvm.exec) {v : Value} (hd : decode c.code pc = .ok (.pop, 1)) (hp : pc + 1 = pc') (hc : v.category = 1) (k : G (T.setTop (mkF m pc' Ls (st)))) : G (T.setTop (mkF m pc Ls (v :: st))) := by
  subst hp; exact hst (fun _ kt => XS.pop h hx rfl hd rfl hc kt) k
theorem o_goto (hst : OwnCl p e below G) (h : At T m c below) (hx : p.tables.exec = Jvm.exec) {o : Int} (hd : decode c.code pc = .ok (.goto o, 3)) (ho : 0 ≤ (pc : Int) + o) (hp : ((pc : Int) + o).toNat = pc') (k : G (T.setTop (mkF m pc' Ls st))) : G (T.setTop (mkF m pc Ls st)) := hst (fun _ kt => XS.goto h hx rfl rfl hd ho hp kt) k
end OwnStep
abbrev own_TT : String := "com/example/weser/weser/core/TripleTable"
abbrev own_RG : String := "com/example/weser/weser/core/RdfGraph"
abbrev own_PX : String := "com/example/weser/weser/core/Prefixes"
abbrev own_MB : String := "com/example/weser/weser/core/Memberships"
theorem own_nf {s : State} {args : Array Value} {y y1 : MethodName} (h : NotFace s y1) (hc : y1.cls = y.cls) (w : (Jvm.Cond.instanceMethod y1).before args s = true) : NotFace s y := fun r0 h0 => by
  obtain ⟨mk, meth, hn, -⟩ := Cond.instanceMethod_spec w
  obtain ⟨kr, hk, hi⟩ := h mk hn
  have e1 := findClass_of_methodNamed hn
  have e2 := findClass_of_methodNamed h0
  rw [hc] at e1
  have e : mk.cls = r0.cls := Option.some.inj (e1.symm.trans e2)
  exact ⟨kr, by rw [← e]; exact hk, hi⟩
theorem own_ne_arv {Z : State} {h : Heap} {a b : Addr} {C : String} {a0 : Array Value} {kk : Nat} {k : ClassId} {ty : FieldType} {z : Int32} {vs : List Value} {dv : Value} (E : Exa Z h a C) (wi : (Jvm.Cond.instantiable C kk).before a0 Z = true) (V : Arv Z h b k ty z vs dv) : a ≠ b := by
  obtain ⟨c, A, -⟩ := V
  exact ne_arr E wi A
theorem own_Sta_keep {Z : State} {h h' : Heap} {C n d : String} {v : Value} (F : Sta Z h C n d v) (K : Keep h h' []) : Sta Z h' C n d v := by
  obtain ⟨cf, i, k, f, st, cell, h1, h2, h3, h4, h5, r⟩ := F
  exact ⟨cf, i, k, f, st, cell, h1, h2, h3, h4, K.2.1 _ _ h5 nin0, r⟩
theorem own_Sta_keepL {Z : State} {h h' : Heap} {C n d : String} {v : Value} {ws : List Addr} (F : Sta Z h C n d v) (K : Keep h h' ws) (q : ∀ x ∈ ws, ∃ D, Exa Z h x D) : Sta Z h' C n d v := by
  obtain ⟨cf, i, k, f, st, cell, h1, h2, h3, h4, h5, h6, r⟩ := F
  have nq : st ∉ ws := fun z => by
    obtain ⟨D, c1, k1, e1, -, -, e4, -⟩ := q _ z
    cases e1.symm.trans h5
    rw [h6] at e4; cases e4
  exact ⟨cf, i, k, f, st, cell, h1, h2, h3, h4, K.2.1 _ _ h5 nq, h6, r⟩
def own_QI (r : Int32) (h0 : Heap) (n0 : Nat) (v : Option Value) (h : Heap) (L : List Loc) : Prop := v = some (.int r) ∧ Fr n0 L ∧ h = h0
def own_QR (r : Value) (h0 : Heap) (n0 : Nat) (v : Option Value) (h : Heap) (L : List Loc) : Prop := v = some r ∧ Fr n0 L ∧ h = h0
def own_QV (h0 : Heap) (n0 : Nat) (v : Option Value) (h : Heap) (L : List Loc) : Prop := v = none ∧ Fr n0 L ∧ h = h0
def own_Q0 (n0 : Nat) (v : Option Value) (h : Heap) (L : List Loc) : Prop := v = some (.int (1 : Int32)) ∧ Fr n0 L
def own_St (Z : State) (h : Heap) (B : Nat) (r : Value) (o : Option Int32) : Prop := match o with
  | none => r = .null
  | some u => ∃ (a b : Addr) (k_b : ClassId), r = .ref a ∧ a < B ∧ b < B ∧ Exa Z h a "java/lang/String" ∧ Fld Z h a "java/lang/String" "coder" "B" (.int (0 : Int32)) ∧ Fld Z h a "java/lang/String" "value" "[B" (.ref b) ∧ Arv Z h b k_b .byte (1 : Int32) [(.int u)] (.int (0 : Int32))
section OwnSt
variable {Z : State} {h h' : Heap} {B B' : Nat} {r : Value} {o : Option Int32} {ws : List Addr}
theorem own_St_keep (S : own_St Z h B r o) (K : Keep h h' ws) (q : ∀ x ∈ ws, B ≤ x) : own_St Z h' B r o := by
  cases o with
  | none => exact S
  | some u =>
    obtain ⟨a, b, k, e, ha, hb, E, C, V, A⟩ := S
    have na : a ∉ ws := fun z => absurd (q a z) (Nat.not_le.mpr ha)
    have nb : b ∉ ws := fun z => absurd (q b z) (Nat.not_le.mpr hb)
    exact ⟨a, b, k, e, ha, hb, E.keep K, C.keep K na, V.keep K na, A.keep K nb⟩
theorem own_St_mono (S : own_St Z h B r o) (q : B ≤ B') : own_St Z h B' r o := by
  cases o with
  | none => exact S
  | some u =>
    obtain ⟨a, b, k, e, ha, hb, R⟩ := S
    exact ⟨a, b, k, e, Nat.lt_of_lt_of_le ha q, Nat.lt_of_lt_of_le hb q, R⟩
theorem own_St_ref (S : own_St Z h B r o) : r.isRef = true := by
  cases o with
  | none => rw [show r = .null from S]; rfl
  | some u => obtain ⟨a, b, k, e, -⟩ := S; rw [e]; rfl
theorem own_St_fit (S : own_St Z h B r o) : fits (.object "java/lang/String") r = true := by
  cases o with
  | none => rw [show r = .null from S]; rfl
  | some u => obtain ⟨a, b, k, e, -⟩ := S; rw [e]; rfl
theorem own_St_sto {x : Addr} {c : Cell} {ty : FieldType} {k : ClassId} (S : own_St Z h B r o) (A : Arr Z h x c ty) (q : c.cls = k) (O : Ovr Z k "java/lang/String") : Sto Z h x r := by
  cases o with
  | none => exact Or.inl S
  | some u =>
    obtain ⟨a, b, kk, e, -, -, E, -⟩ := S
    rw [e]; exact Sto.ofV A q O (Ins.self E)
end OwnSt
def own_ch (y : Int32) : Int32 := (y &&& (255 : Int32)).toUInt32.toUInt16.toUInt32.toInt32
def own_by (y : Int32) : Int32 := nar .byte (y.toInt8.toInt32)
theorem own_ch_rng (y : Int32) : 0 ≤ (own_ch y).toInt ∧ (own_ch y).toInt ≤ 255 := by
  have h1 := c_mask y 255 8 (by decide) (by decide)
  simp only [Nat.reducePow] at h1
  have h2 := c_i2c (y &&& (255 : Int32))
  unfold own_ch
  omega
theorem own_ch_nar (y : Int32) : nar .char (own_ch y) = own_ch y := by
  apply Int32.toInt_inj.mp
  have h1 := own_ch_rng y
  have h2 := c_i2c (own_ch y)
  have e : nar .char (own_ch y) = (own_ch y).toUInt32.toUInt16.toUInt32.toInt32 := rfl
  rw [e]; omega
theorem own_ch_le (y : Int32) : ¬ (255 : Int32) < own_ch y := by
  have h1 := own_ch_rng y
  rw [Int32.lt_iff_toInt_lt, show (255 : Int32).toInt = 255 from rfl]; omega
theorem own_ch_nn (y : Int32) : ¬ own_ch y < 0 := by
  have h1 := own_ch_rng y
  rw [Int32.lt_iff_toInt_lt, show (0 : Int32).toInt = 0 from rfl]; omega
theorem own_by_eq (y : Int32) : own_by y = y.toInt8.toInt32 := by
  apply Int32.toInt_inj.mp
  have h1 := c_i2b y
  have h2 := c_i2b (y.toInt8.toInt32)
  have e : own_by y = (y.toInt8.toInt32).toInt8.toInt32 := rfl
  rw [e]; omega
theorem own_by_inj (y z : Int32) : own_by (own_ch y) = own_by (own_ch z) ↔ own_ch y = own_ch z := by
  constructor
  · intro h
    rw [own_by_eq, own_by_eq, ← Int32.toInt_inj] at h
    apply Int32.toInt_inj.mp
    have h1 := own_ch_rng y
    have h2 := own_ch_rng z
    have h3 := c_i2b (own_ch y)
    have h4 := c_i2b (own_ch z)
    omega
  · intro h; rw [h]
def own_eo (k q c : Int32) : Option Int32 := if k = (0 : Int32) then none else if k = (1 : Int32) then some ((nar .char q).toInt8.toInt32) else some (own_by (own_ch c))
def own_mt (k q c : Int32) : Int32 := if k = (0 : Int32) then 0 else if k = (1 : Int32) then 1 else if own_ch c = q then 1 else 0
def own_m (u : Int32) (o : Option Int32) : Int32 := match o with
  | none => 0
  | some w => if u = w then 1 else 0
theorem own_m_mt (k q c : Int32) : own_m (own_by (own_ch q)) (own_eo k (own_ch q) c) = own_mt k (own_ch q) c := by
  unfold own_eo own_mt
  by_cases h0 : k = 0
  · simp only [if_pos h0, own_m]
  · by_cases h1 : k = 1
    · simp only [if_neg h0, if_pos h1, own_m, own_ch_nar]
      rw [if_pos (own_by_eq _)]
    · simp only [if_neg h0, if_neg h1, own_m]
      by_cases h2 : own_ch c = own_ch q
      · rw [if_pos h2, if_pos ((own_by_inj q c).mpr h2.symm)]
      · rw [if_neg h2, if_neg (fun z => h2 ((own_by_inj q c).mp z).symm)]
def own_In (n : Int32) : Prop := n = 0 ∨ n = 1 ∨ n = 2 ∨ n = 3
theorem own_In_and (n : Int32) : own_In (n &&& (3 : Int32)) := by
  have h := c_mask n 3 2 (by decide) (by decide)
  simp only [Nat.reducePow] at h
  have h3 : (n &&& (3 : Int32)).toInt = 0 ∨ (n &&& (3 : Int32)).toInt = 1 ∨ (n &&& (3 : Int32)).toInt = 2 ∨ (n &&& (3 : Int32)).toInt = 3 := by omega
  rcases h3 with h | h | h | h
  · exact Or.inl (Int32.toInt_inj.mp h)
  · exact Or.inr (Or.inl (Int32.toInt_inj.mp h))
  · exact Or.inr (Or.inr (Or.inl (Int32.toInt_inj.mp h)))
  · exact Or.inr (Or.inr (Or.inr (Int32.toInt_inj.mp h)))
def own_rs (n : Int32) (r0 r1 r2 : Value) : List Value := ([r0, r1, r2] : List Value).take n.toNatClampNeg
/-- what node finds -/
def own_nd (n u : Int32) (o0 o1 o2 : Option Int32) : Int32 :=
  if (0 : Int32) < n ∧ ¬ own_m u o0 = 0 then 0 else if (1 : Int32) < n ∧ ¬ own_m u o1 = 0 then 1 else if (2 : Int32) < n ∧ ¬ own_m u o2 = 0 then 2 else -1
/-- one flag of the law -/
def own_fl (i n x : Int32) : Int32 := if i < n then (if x = (0 : Int32) then 0 else 1) else 0
def own_ex (f0 f1 f2 : Int32) : Int32 := if f0 = (0 : Int32) then (if f1 = (0 : Int32) then (if f2 = (0 : Int32) then -1 else 2) else 1) else 0
theorem own_fl0 (i n x : Int32) : own_fl i n x = 0 ↔ ¬ (i < n ∧ ¬ x = 0) := by
  unfold own_fl; by_cases h : i < n <;> by_cases g : x = 0 <;> simp [h, g]
theorem own_fin (n q k0 k1 k2 c0 c1 c2 : Int32) : own_nd n (own_by (own_ch q)) (own_eo k0 (own_ch q) c0) (own_eo k1 (own_ch q) c1) (own_eo k2 (own_ch q) c2) = own_ex (own_fl 0 n (own_mt k0 (own_ch q) c0)) (own_fl 1 n (own_mt k1 (own_ch q) c1)) (own_fl 2 n (own_mt k2 (own_ch q) c2)) := by
  unfold own_nd own_ex
  simp only [own_m_mt, own_fl0]
  by_cases h0 : (0 : Int32) < n ∧ ¬ own_mt k0 (own_ch q) c0 = 0 <;> by_cases h1 : (1 : Int32) < n ∧ ¬ own_mt k1 (own_ch q) c1 = 0 <;> by_cases h2 : (2 : Int32) < n ∧ ¬ own_mt k2 (own_ch q) c2 = 0 <;> simp [h0, h1, h2]
def own_Qe (Z : State) (o : Option Int32) (h0 : Heap) (n0 : Nat) (v : Option Value) (h : Heap) (L : List Loc) : Prop := ∃ r, v = some r ∧ Fr n0 L ∧ Keep h0 h [] ∧ own_St Z h h.size r o
theorem own_w0 {Z : State} {a0 : Array Value} (hw : ∀ d ∈ tables_1, d.before a0 Z = true) : Jvm.Cond.before (Jvm.Cond.methodLink x.cls (7 : Nat) ({ cls := x.cls, name := "entry", desc := "(ICI)Ljava/lang/String;" } : Jvm.MethodName)) a0 Z = true := hw _ (List.mem_of_getElem? (i := 0) rfl)
theorem own_w1 {Z : State} {a0 : Array Value} (hw : ∀ d ∈ tables_1, d.before a0 Z = true) : Jvm.Cond.before (Jvm.Cond.static ({ cls := x.cls, name := "entry", desc := "(ICI)Ljava/lang/String;" } : Jvm.MethodName)) a0 Z = true := hw _ (List.mem_of_getElem? (i := 1) rfl)
theorem own_w2 {Z : State} {a0 : Array Value} (hw : ∀ d ∈ tables_1, d.before a0 Z = true) : Jvm.Cond.before (Jvm.Cond.initialized x.cls) a0 Z = true := hw _ (List.mem_of_getElem? (i := 2) rfl)
theorem own_w3 {Z : State} {a0 : Array Value} (hw : ∀ d ∈ tables_1, d.before a0 Z = true) : Jvm.Cond.before (Jvm.Cond.code ({ cls := x.cls, name := "entry", desc := "(ICI)Ljava/lang/String;" } : Jvm.MethodName) method_3_code (3 : Nat) (Option.some (Jvm.ClassFile.FieldType.object "java/lang/String"))) a0 Z = true := hw _ (List.mem_of_getElem? (i := 3) rfl)
theorem own_w4 {Z : State} {a0 : Array Value} (hw : ∀ d ∈ tables_1, d.before a0 Z = true) : Jvm.Cond.before (Jvm.Cond.classLink x.cls (13 : Nat) "java/lang/String") a0 Z = true := hw _ (List.mem_of_getElem? (i := 4) rfl)
theorem own_w5 {Z : State} {a0 : Array Value} (hw : ∀ d ∈ tables_1, d.before a0 Z = true) : Jvm.Cond.before (Jvm.Cond.arrayOver (Jvm.ClassFile.FieldType.object "java/lang/String")) a0 Z = true := hw _ (List.mem_of_getElem? (i := 5) rfl)
theorem own_w6 {Z : State} {a0 : Array Value} (hw : ∀ d ∈ tables_1, d.before a0 Z = true) : Jvm.Cond.before (Jvm.Cond.methodLink x.cls (15 : Nat) ({ cls := "java/lang/String", name := "valueOf", desc := "(C)Ljava/lang/String;" } : Jvm.MethodName)) a0 Z = true := hw _ (List.mem_of_getElem? (i := 6) rfl)
theorem own_w7 {Z : State} {a0 : Array Value} (hw : ∀ d ∈ tables_1, d.before a0 Z = true) : Jvm.Cond.before (Jvm.Cond.static ({ cls := "java/lang/String", name := "valueOf", desc := "(C)Ljava/lang/String;" } : Jvm.MethodName)) a0 Z = true := hw _ (List.mem_of_getElem? (i := 7) rfl)
theorem own_w8 {Z : State} {a0 : Array Value} (hw : ∀ d ∈ tables_1, d.before a0 Z = true) : Jvm.Cond.before (Jvm.Cond.initialized "java/lang/String") a0 Z = true := hw _ (List.mem_of_getElem? (i := 8) rfl)
theorem own_w9 {Z : State} {a0 : Array Value} (hw : ∀ d ∈ tables_1, d.before a0 Z = true) : Jvm.Cond.before (Jvm.Cond.code ({ cls := "java/lang/String", name := "valueOf", desc := "(C)Ljava/lang/String;" } : Jvm.MethodName) jdk_42_method_139_code (1 : Nat) (Option.some (Jvm.ClassFile.FieldType.object "java/lang/String"))) a0 Z = true := hw _ (List.mem_of_getElem? (i := 9) rfl)
theorem own_w10 {Z : State} {a0 : Array Value} (hw : ∀ d ∈ tables_1, d.before a0 Z = true) : Jvm.Cond.before (Jvm.Cond.fieldLink "java/lang/String" (38 : Nat) "java/lang/String" "COMPACT_STRINGS" "Z") a0 Z = true := hw _ (List.mem_of_getElem? (i := 10) rfl)
theorem own_w11 {Z : State} {a0 : Array Value} (hw : ∀ d ∈ tables_1, d.before a0 Z = true) : Jvm.Cond.before (Jvm.Cond.methodLink "java/lang/String" (1015 : Nat) ({ cls := "java/lang/StringLatin1", name := "canEncode", desc := "(C)Z" } : Jvm.MethodName)) a0 Z = true := hw _ (List.mem_of_getElem? (i := 11) rfl)
theorem own_w12 {Z : State} {a0 : Array Value} (hw : ∀ d ∈ tables_1, d.before a0 Z = true) : Jvm.Cond.before (Jvm.Cond.static ({ cls := "java/lang/StringLatin1", name := "canEncode", desc := "(C)Z" } : Jvm.MethodName)) a0 Z = true := hw _ (List.mem_of_getElem? (i := 12) rfl)
theorem own_w13 {Z : State} {a0 : Array Value} (hw : ∀ d ∈ tables_1, d.before a0 Z = true) : Jvm.Cond.before (Jvm.Cond.initialized "java/lang/StringLatin1") a0 Z = true := hw _ (List.mem_of_getElem? (i := 13) rfl)
theorem own_w14 {Z : State} {a0 : Array Value} (hw : ∀ d ∈ tables_1, d.before a0 Z = true) : Jvm.Cond.before (Jvm.Cond.code ({ cls := "java/lang/StringLatin1", name := "canEncode", desc := "(C)Z" } : Jvm.MethodName) jdk_43_method_3_code (1 : Nat) (Option.some Jvm.ClassFile.FieldType.boolean)) a0 Z = true := hw _ (List.mem_of_getElem? (i := 14) rfl)
theorem own_w15 {Z : State} {a0 : Array Value} (hw : ∀ d ∈ tables_1, d.before a0 Z = true) : Jvm.Cond.before (Jvm.Cond.classLink "java/lang/String" (10 : Nat) "java/lang/String") a0 Z = true := hw _ (List.mem_of_getElem? (i := 15) rfl)
theorem own_w16 {Z : State} {a0 : Array Value} (hw : ∀ d ∈ tables_1, d.before a0 Z = true) : Jvm.Cond.before (Jvm.Cond.instantiable "java/lang/String" (4 : Nat)) a0 Z = true := hw _ (List.mem_of_getElem? (i := 16) rfl)
theorem own_w17 {Z : State} {a0 : Array Value} (hw : ∀ d ∈ tables_1, d.before a0 Z = true) : Jvm.Cond.before (Jvm.Cond.methodLink "java/lang/String" (1018 : Nat) ({ cls := "java/lang/StringLatin1", name := "toBytes", desc := "(C)[B" } : Jvm.MethodName)) a0 Z = true := hw _ (List.mem_of_getElem? (i := 17) rfl)
theorem own_w18 {Z : State} {a0 : Array Value} (hw : ∀ d ∈ tables_1, d.before a0 Z = true) : Jvm.Cond.before (Jvm.Cond.static ({ cls := "java/lang/StringLatin1", name := "toBytes", desc := "(C)[B" } : Jvm.MethodName)) a0 Z = true := hw _ (List.mem_of_getElem? (i := 18) rfl)
theorem own_w19 {Z : State} {a0 : Array Value} (hw : ∀ d ∈ tables_1, d.before a0 Z = true) : Jvm.Cond.before (Jvm.Cond.code ({ cls := "java/lang/StringLatin1", name := "toBytes", desc := "(C)[B" } : Jvm.MethodName) jdk_43_method_46_code (1 : Nat) (Option.some (Jvm.ClassFile.FieldType.array Jvm.ClassFile.FieldType.byte))) a0 Z = true := hw _ (List.mem_of_getElem? (i := 19) rfl)
theorem own_w20 {Z : State} {a0 : Array Value} (hw : ∀ d ∈ tables_1, d.before a0 Z = true) : Jvm.Cond.before (Jvm.Cond.arrayClass Jvm.ClassFile.FieldType.byte) a0 Z = true := hw _ (List.mem_of_getElem? (i := 20) rfl)
theorem own_w21 {Z : State} {a0 : Array Value} (hw : ∀ d ∈ tables_1, d.before a0 Z = true) : Jvm.Cond.before (Jvm.Cond.methodLink "java/lang/String" (209 : Nat) ({ cls := "java/lang/String", name := "<init>", desc := "([BB)V" } : Jvm.MethodName)) a0 Z = true := hw _ (List.mem_of_getElem? (i := 21) rfl)
theorem own_w22 {Z : State} {a0 : Array Value} (hw : ∀ d ∈ tables_1, d.before a0 Z = true) : Jvm.Cond.before (Jvm.Cond.instanceMethod ({ cls := "java/lang/String", name := "<init>", desc := "([BB)V" } : Jvm.MethodName)) a0 Z = true := hw _ (List.mem_of_getElem? (i := 22) rfl)
theorem own_w24 {Z : State} {a0 : Array Value} (hw : ∀ d ∈ tables_1, d.before a0 Z = true) : Jvm.Cond.before (Jvm.Cond.code ({ cls := "java/lang/String", name := "<init>", desc := "([BB)V" } : Jvm.MethodName) jdk_42_method_151_code (3 : Nat) (Option.none : Option Jvm.ClassFile.FieldType)) a0 Z = true := hw _ (List.mem_of_getElem? (i := 24) rfl)
theorem own_w25 {Z : State} {a0 : Array Value} (hw : ∀ d ∈ tables_1, d.before a0 Z = true) : Jvm.Cond.before (Jvm.Cond.methodLink "java/lang/String" (1 : Nat) ({ cls := "java/lang/Object", name := "<init>", desc := "()V" } : Jvm.MethodName)) a0 Z = true := hw _ (List.mem_of_getElem? (i := 25) rfl)
theorem own_w26 {Z : State} {a0 : Array Value} (hw : ∀ d ∈ tables_1, d.before a0 Z = true) : Jvm.Cond.before (Jvm.Cond.instanceMethod ({ cls := "java/lang/Object", name := "<init>", desc := "()V" } : Jvm.MethodName)) a0 Z = true := hw _ (List.mem_of_getElem? (i := 26) rfl)
theorem own_w27 {Z : State} {a0 : Array Value} (hw : ∀ d ∈ tables_1, d.before a0 Z = true) : Jvm.Cond.before (Jvm.Cond.code ({ cls := "java/lang/Object", name := "<init>", desc := "()V" } : Jvm.MethodName) object_method_1_code (1 : Nat) (Option.none : Option Jvm.ClassFile.FieldType)) a0 Z = true := hw _ (List.mem_of_getElem? (i := 27) rfl)
theorem own_w28 {Z : State} {a0 : Array Value} (hw : ∀ d ∈ tables_1, d.before a0 Z = true) : Jvm.Cond.before (Jvm.Cond.fieldLink "java/lang/String" (9 : Nat) "java/lang/String" "value" "[B") a0 Z = true := hw _ (List.mem_of_getElem? (i := 28) rfl)
theorem own_w29 {Z : State} {a0 : Array Value} (hw : ∀ d ∈ tables_1, d.before a0 Z = true) : Jvm.Cond.before (Jvm.Cond.laysFinal "java/lang/String" "java/lang/String" "value" "[B") a0 Z = true := hw _ (List.mem_of_getElem? (i := 29) rfl)
theorem own_w30 {Z : State} {a0 : Array Value} (hw : ∀ d ∈ tables_1, d.before a0 Z = true) : Jvm.Cond.before (Jvm.Cond.fieldLink "java/lang/String" (15 : Nat) "java/lang/String" "coder" "B") a0 Z = true := hw _ (List.mem_of_getElem? (i := 30) rfl)
theorem own_w31 {Z : State} {a0 : Array Value} (hw : ∀ d ∈ tables_1, d.before a0 Z = true) : Jvm.Cond.before (Jvm.Cond.laysFinal "java/lang/String" "java/lang/String" "coder" "B") a0 Z = true := hw _ (List.mem_of_getElem? (i := 31) rfl)
theorem own_w32 {Z : State} {a0 : Array Value} (hw : ∀ d ∈ tables_1, d.before a0 Z = true) : Jvm.Cond.before (Jvm.Cond.classLink x.cls (19 : Nat) own_TT) a0 Z = true := hw _ (List.mem_of_getElem? (i := 32) rfl)
theorem own_w33 {Z : State} {a0 : Array Value} (hw : ∀ d ∈ tables_1, d.before a0 Z = true) : Jvm.Cond.before (Jvm.Cond.instantiable own_TT (7 : Nat)) a0 Z = true := hw _ (List.mem_of_getElem? (i := 33) rfl)
theorem own_w34 {Z : State} {a0 : Array Value} (hw : ∀ d ∈ tables_1, d.before a0 Z = true) : Jvm.Cond.before (Jvm.Cond.initialized own_TT) a0 Z = true := hw _ (List.mem_of_getElem? (i := 34) rfl)
theorem own_w35 {Z : State} {a0 : Array Value} (hw : ∀ d ∈ tables_1, d.before a0 Z = true) : Jvm.Cond.before (Jvm.Cond.methodLink x.cls (21 : Nat) ({ cls := own_TT, name := "<init>", desc := "()V" } : Jvm.MethodName)) a0 Z = true := hw _ (List.mem_of_getElem? (i := 35) rfl)
theorem own_w36 {Z : State} {a0 : Array Value} (hw : ∀ d ∈ tables_1, d.before a0 Z = true) : Jvm.Cond.before (Jvm.Cond.instanceMethod ({ cls := own_TT, name := "<init>", desc := "()V" } : Jvm.MethodName)) a0 Z = true := hw _ (List.mem_of_getElem? (i := 36) rfl)
theorem own_w37 {Z : State} {a0 : Array Value} (hw : ∀ d ∈ tables_1, d.before a0 Z = true) : Jvm.Cond.before (Jvm.Cond.code ({ cls := own_TT, name := "<init>", desc := "()V" } : Jvm.MethodName) prog_37_method_1_code (1 : Nat) (Option.none : Option Jvm.ClassFile.FieldType)) a0 Z = true := hw _ (List.mem_of_getElem? (i := 37) rfl)
theorem own_w38 {Z : State} {a0 : Array Value} (hw : ∀ d ∈ tables_1, d.before a0 Z = true) : Jvm.Cond.before (Jvm.Cond.methodLink own_TT (1 : Nat) ({ cls := "java/lang/Object", name := "<init>", desc := "()V" } : Jvm.MethodName)) a0 Z = true := hw _ (List.mem_of_getElem? (i := 38) rfl)
theorem own_w39 {Z : State} {a0 : Array Value} (hw : ∀ d ∈ tables_1, d.before a0 Z = true) : Jvm.Cond.before (Jvm.Cond.arrayClass Jvm.ClassFile.FieldType.int) a0 Z = true := hw _ (List.mem_of_getElem? (i := 39) rfl)
theorem own_w40 {Z : State} {a0 : Array Value} (hw : ∀ d ∈ tables_1, d.before a0 Z = true) : Jvm.Cond.before (Jvm.Cond.fieldLink own_TT (9 : Nat) own_TT "subjects" "[I") a0 Z = true := hw _ (List.mem_of_getElem? (i := 40) rfl)
theorem own_w41 {Z : State} {a0 : Array Value} (hw : ∀ d ∈ tables_1, d.before a0 Z = true) : Jvm.Cond.before (Jvm.Cond.lays own_TT own_TT "subjects" "[I") a0 Z = true := hw _ (List.mem_of_getElem? (i := 41) rfl)
theorem own_w42 {Z : State} {a0 : Array Value} (hw : ∀ d ∈ tables_1, d.before a0 Z = true) : Jvm.Cond.before (Jvm.Cond.fieldLink own_TT (13 : Nat) own_TT "predicates" "[I") a0 Z = true := hw _ (List.mem_of_getElem? (i := 42) rfl)
theorem own_w43 {Z : State} {a0 : Array Value} (hw : ∀ d ∈ tables_1, d.before a0 Z = true) : Jvm.Cond.before (Jvm.Cond.lays own_TT own_TT "predicates" "[I") a0 Z = true := hw _ (List.mem_of_getElem? (i := 43) rfl)
theorem own_w44 {Z : State} {a0 : Array Value} (hw : ∀ d ∈ tables_1, d.before a0 Z = true) : Jvm.Cond.before (Jvm.Cond.fieldLink own_TT (16 : Nat) own_TT "objects" "[I") a0 Z = true := hw _ (List.mem_of_getElem? (i := 44) rfl)
theorem own_w45 {Z : State} {a0 : Array Value} (hw : ∀ d ∈ tables_1, d.before a0 Z = true) : Jvm.Cond.before (Jvm.Cond.lays own_TT own_TT "objects" "[I") a0 Z = true := hw _ (List.mem_of_getElem? (i := 45) rfl)
theorem own_w46 {Z : State} {a0 : Array Value} (hw : ∀ d ∈ tables_1, d.before a0 Z = true) : Jvm.Cond.before (Jvm.Cond.fieldLink own_TT (19 : Nat) own_TT "firstGraphs" "[I") a0 Z = true := hw _ (List.mem_of_getElem? (i := 46) rfl)
theorem own_w47 {Z : State} {a0 : Array Value} (hw : ∀ d ∈ tables_1, d.before a0 Z = true) : Jvm.Cond.before (Jvm.Cond.lays own_TT own_TT "firstGraphs" "[I") a0 Z = true := hw _ (List.mem_of_getElem? (i := 47) rfl)
theorem own_w48 {Z : State} {a0 : Array Value} (hw : ∀ d ∈ tables_1, d.before a0 Z = true) : Jvm.Cond.before (Jvm.Cond.classLink own_TT (22 : Nat) "java/util/LinkedHashSet") a0 Z = true := hw _ (List.mem_of_getElem? (i := 48) rfl)
theorem own_w49 {Z : State} {a0 : Array Value} (hw : ∀ d ∈ tables_1, d.before a0 Z = true) : Jvm.Cond.before (Jvm.Cond.instantiable "java/util/LinkedHashSet" (1 : Nat)) a0 Z = true := hw _ (List.mem_of_getElem? (i := 49) rfl)
theorem own_w50 {Z : State} {a0 : Array Value} (hw : ∀ d ∈ tables_1, d.before a0 Z = true) : Jvm.Cond.before (Jvm.Cond.initialized "java/util/LinkedHashSet") a0 Z = true := hw _ (List.mem_of_getElem? (i := 50) rfl)
theorem own_w51 {Z : State} {a0 : Array Value} (hw : ∀ d ∈ tables_1, d.before a0 Z = true) : Jvm.Cond.before (Jvm.Cond.methodLink own_TT (24 : Nat) ({ cls := "java/util/LinkedHashSet", name := "<init>", desc := "()V" } : Jvm.MethodName)) a0 Z = true := hw _ (List.mem_of_getElem? (i := 51) rfl)
theorem own_w52 {Z : State} {a0 : Array Value} (hw : ∀ d ∈ tables_1, d.before a0 Z = true) : Jvm.Cond.before (Jvm.Cond.instanceMethod ({ cls := "java/util/LinkedHashSet", name := "<init>", desc := "()V" } : Jvm.MethodName)) a0 Z = true := hw _ (List.mem_of_getElem? (i := 52) rfl)
theorem own_w53 {Z : State} {a0 : Array Value} (hw : ∀ d ∈ tables_1, d.before a0 Z = true) : Jvm.Cond.before (Jvm.Cond.code ({ cls := "java/util/LinkedHashSet", name := "<init>", desc := "()V" } : Jvm.MethodName) jdk_2620_method_3_code (1 : Nat) (Option.none : Option Jvm.ClassFile.FieldType)) a0 Z = true := hw _ (List.mem_of_getElem? (i := 53) rfl)
theorem own_w54 {Z : State} {a0 : Array Value} (hw : ∀ d ∈ tables_1, d.before a0 Z = true) : Jvm.Cond.before (Jvm.Cond.constantFloat "java/util/LinkedHashSet" (7 : Nat) (1061158912 : UInt32)) a0 Z = true := hw _ (List.mem_of_getElem? (i := 54) rfl)
theorem own_w55 {Z : State} {a0 : Array Value} (hw : ∀ d ∈ tables_1, d.before a0 Z = true) : Jvm.Cond.before (Jvm.Cond.methodLink "java/util/LinkedHashSet" (1 : Nat) ({ cls := "java/util/HashSet", name := "<init>", desc := "(IFZ)V" } : Jvm.MethodName)) a0 Z = true := hw _ (List.mem_of_getElem? (i := 55) rfl)
theorem own_w56 {Z : State} {a0 : Array Value} (hw : ∀ d ∈ tables_1, d.before a0 Z = true) : Jvm.Cond.before (Jvm.Cond.instanceMethod ({ cls := "java/util/HashSet", name := "<init>", desc := "(IFZ)V" } : Jvm.MethodName)) a0 Z = true := hw _ (List.mem_of_getElem? (i := 56) rfl)
theorem own_w59 {Z : State} {a0 : Array Value} (hw : ∀ d ∈ tables_1, d.before a0 Z = true) : Jvm.Cond.before (Jvm.Cond.initialized "java/util/HashSet") a0 Z = true := hw _ (List.mem_of_getElem? (i := 59) rfl)
theorem own_w60 {Z : State} {a0 : Array Value} (hw : ∀ d ∈ tables_1, d.before a0 Z = true) : Jvm.Cond.before (Jvm.Cond.code ({ cls := "java/util/HashSet", name := "<init>", desc := "(IFZ)V" } : Jvm.MethodName) jdk_93_method_5_code (4 : Nat) (Option.none : Option Jvm.ClassFile.FieldType)) a0 Z = true := hw _ (List.mem_of_getElem? (i := 60) rfl)
theorem own_w61 {Z : State} {a0 : Array Value} (hw : ∀ d ∈ tables_1, d.before a0 Z = true) : Jvm.Cond.before (Jvm.Cond.methodLink "java/util/HashSet" (1 : Nat) ({ cls := "java/util/AbstractSet", name := "<init>", desc := "()V" } : Jvm.MethodName)) a0 Z = true := hw _ (List.mem_of_getElem? (i := 61) rfl)
theorem own_w62 {Z : State} {a0 : Array Value} (hw : ∀ d ∈ tables_1, d.before a0 Z = true) : Jvm.Cond.before (Jvm.Cond.instanceMethod ({ cls := "java/util/AbstractSet", name := "<init>", desc := "()V" } : Jvm.MethodName)) a0 Z = true := hw _ (List.mem_of_getElem? (i := 62) rfl)
theorem own_w65 {Z : State} {a0 : Array Value} (hw : ∀ d ∈ tables_1, d.before a0 Z = true) : Jvm.Cond.before (Jvm.Cond.initialized "java/util/AbstractSet") a0 Z = true := hw _ (List.mem_of_getElem? (i := 65) rfl)
theorem own_w66 {Z : State} {a0 : Array Value} (hw : ∀ d ∈ tables_1, d.before a0 Z = true) : Jvm.Cond.before (Jvm.Cond.code ({ cls := "java/util/AbstractSet", name := "<init>", desc := "()V" } : Jvm.MethodName) jdk_91_method_1_code (1 : Nat) (Option.none : Option Jvm.ClassFile.FieldType)) a0 Z = true := hw _ (List.mem_of_getElem? (i := 66) rfl)
theorem own_w67 {Z : State} {a0 : Array Value} (hw : ∀ d ∈ tables_1, d.before a0 Z = true) : Jvm.Cond.before (Jvm.Cond.methodLink "java/util/AbstractSet" (1 : Nat) ({ cls := "java/util/AbstractCollection", name := "<init>", desc := "()V" } : Jvm.MethodName)) a0 Z = true := hw _ (List.mem_of_getElem? (i := 67) rfl)
theorem own_w68 {Z : State} {a0 : Array Value} (hw : ∀ d ∈ tables_1, d.before a0 Z = true) : Jvm.Cond.before (Jvm.Cond.instanceMethod ({ cls := "java/util/AbstractCollection", name := "<init>", desc := "()V" } : Jvm.MethodName)) a0 Z = true := hw _ (List.mem_of_getElem? (i := 68) rfl)
theorem own_w71 {Z : State} {a0 : Array Value} (hw : ∀ d ∈ tables_1, d.before a0 Z = true) : Jvm.Cond.before (Jvm.Cond.initialized "java/util/AbstractCollection") a0 Z = true := hw _ (List.mem_of_getElem? (i := 71) rfl)
theorem own_w72 {Z : State} {a0 : Array Value} (hw : ∀ d ∈ tables_1, d.before a0 Z = true) : Jvm.Cond.before (Jvm.Cond.code ({ cls := "java/util/AbstractCollection", name := "<init>", desc := "()V" } : Jvm.MethodName) jdk_22_method_1_code (1 : Nat) (Option.none : Option Jvm.ClassFile.FieldType)) a0 Z = true := hw _ (List.mem_of_getElem? (i := 72) rfl)
theorem own_w73 {Z : State} {a0 : Array Value} (hw : ∀ d ∈ tables_1, d.before a0 Z = true) : Jvm.Cond.before (Jvm.Cond.methodLink "java/util/AbstractCollection" (1 : Nat) ({ cls := "java/lang/Object", name := "<init>", desc := "()V" } : Jvm.MethodName)) a0 Z = true := hw _ (List.mem_of_getElem? (i := 73) rfl)
theorem own_w74 {Z : State} {a0 : Array Value} (hw : ∀ d ∈ tables_1, d.before a0 Z = true) : Jvm.Cond.before (Jvm.Cond.classLink "java/util/HashSet" (42 : Nat) "java/util/LinkedHashMap") a0 Z = true := hw _ (List.mem_of_getElem? (i := 74) rfl)
theorem own_w75 {Z : State} {a0 : Array Value} (hw : ∀ d ∈ tables_1, d.before a0 Z = true) : Jvm.Cond.before (Jvm.Cond.instantiable "java/util/LinkedHashMap" (12 : Nat)) a0 Z = true := hw _ (List.mem_of_getElem? (i := 75) rfl)
theorem own_w76 {Z : State} {a0 : Array Value} (hw : ∀ d ∈ tables_1, d.before a0 Z = true) : Jvm.Cond.before (Jvm.Cond.initialized "java/util/LinkedHashMap") a0 Z = true := hw _ (List.mem_of_getElem? (i := 76) rfl)
theorem own_w77 {Z : State} {a0 : Array Value} (hw : ∀ d ∈ tables_1, d.before a0 Z = true) : Jvm.Cond.before (Jvm.Cond.methodLink "java/util/HashSet" (44 : Nat) ({ cls := "java/util/LinkedHashMap", name := "<init>", desc := "(IF)V" } : Jvm.MethodName)) a0 Z = true := hw _ (List.mem_of_getElem? (i := 77) rfl)
theorem own_w78 {Z : State} {a0 : Array Value} (hw : ∀ d ∈ tables_1, d.before a0 Z = true) : Jvm.Cond.before (Jvm.Cond.instanceMethod ({ cls := "java/util/LinkedHashMap", name := "<init>", desc := "(IF)V" } : Jvm.MethodName)) a0 Z = true := hw _ (List.mem_of_getElem? (i := 78) rfl)
theorem own_w80 {Z : State} {a0 : Array Value} (hw : ∀ d ∈ tables_1, d.before a0 Z = true) : Jvm.Cond.before (Jvm.Cond.code ({ cls := "java/util/LinkedHashMap", name := "<init>", desc := "(IF)V" } : Jvm.MethodName) jdk_94_method_14_code (3 : Nat) (Option.none : Option Jvm.ClassFile.FieldType)) a0 Z = true := hw _ (List.mem_of_getElem? (i := 80) rfl)
theorem own_w81 {Z : State} {a0 : Array Value} (hw : ∀ d ∈ tables_1, d.before a0 Z = true) : Jvm.Cond.before (Jvm.Cond.methodLink "java/util/LinkedHashMap" (81 : Nat) ({ cls := "java/util/HashMap", name := "<init>", desc := "(IF)V" } : Jvm.MethodName)) a0 Z = true := hw _ (List.mem_of_getElem? (i := 81) rfl)
theorem own_w82 {Z : State} {a0 : Array Value} (hw : ∀ d ∈ tables_1, d.before a0 Z = true) : Jvm.Cond.before (Jvm.Cond.instanceMethod ({ cls := "java/util/HashMap", name := "<init>", desc := "(IF)V" } : Jvm.MethodName)) a0 Z = true := hw _ (List.mem_of_getElem? (i := 82) rfl)
theorem own_w85 {Z : State} {a0 : Array Value} (hw : ∀ d ∈ tables_1, d.before a0 Z = true) : Jvm.Cond.before (Jvm.Cond.initialized "java/util/HashMap") a0 Z = true := hw _ (List.mem_of_getElem? (i := 85) rfl)
theorem own_w86 {Z : State} {a0 : Array Value} (hw : ∀ d ∈ tables_1, d.before a0 Z = true) : Jvm.Cond.before (Jvm.Cond.code ({ cls := "java/util/HashMap", name := "<init>", desc := "(IF)V" } : Jvm.MethodName) jdk_69_method_5_code (3 : Nat) (Option.none : Option Jvm.ClassFile.FieldType)) a0 Z = true := hw _ (List.mem_of_getElem? (i := 86) rfl)
theorem own_w87 {Z : State} {a0 : Array Value} (hw : ∀ d ∈ tables_1, d.before a0 Z = true) : Jvm.Cond.before (Jvm.Cond.methodLink "java/util/HashMap" (43 : Nat) ({ cls := "java/util/AbstractMap", name := "<init>", desc := "()V" } : Jvm.MethodName)) a0 Z = true := hw _ (List.mem_of_getElem? (i := 87) rfl)
theorem own_w88 {Z : State} {a0 : Array Value} (hw : ∀ d ∈ tables_1, d.before a0 Z = true) : Jvm.Cond.before (Jvm.Cond.instanceMethod ({ cls := "java/util/AbstractMap", name := "<init>", desc := "()V" } : Jvm.MethodName)) a0 Z = true := hw _ (List.mem_of_getElem? (i := 88) rfl)
theorem own_w91 {Z : State} {a0 : Array Value} (hw : ∀ d ∈ tables_1, d.before a0 Z = true) : Jvm.Cond.before (Jvm.Cond.initialized "java/util/AbstractMap") a0 Z = true := hw _ (List.mem_of_getElem? (i := 91) rfl)
theorem own_w92 {Z : State} {a0 : Array Value} (hw : ∀ d ∈ tables_1, d.before a0 Z = true) : Jvm.Cond.before (Jvm.Cond.code ({ cls := "java/util/AbstractMap", name := "<init>", desc := "()V" } : Jvm.MethodName) jdk_71_method_1_code (1 : Nat) (Option.none : Option Jvm.ClassFile.FieldType)) a0 Z = true := hw _ (List.mem_of_getElem? (i := 92) rfl)
theorem own_w93 {Z : State} {a0 : Array Value} (hw : ∀ d ∈ tables_1, d.before a0 Z = true) : Jvm.Cond.before (Jvm.Cond.methodLink "java/util/AbstractMap" (1 : Nat) ({ cls := "java/lang/Object", name := "<init>", desc := "()V" } : Jvm.MethodName)) a0 Z = true := hw _ (List.mem_of_getElem? (i := 93) rfl)
theorem own_w94 {Z : State} {a0 : Array Value} (hw : ∀ d ∈ tables_1, d.before a0 Z = true) : Jvm.Cond.before (Jvm.Cond.constant "java/util/HashMap" (42 : Nat) (1073741824 : Int32)) a0 Z = true := hw _ (List.mem_of_getElem? (i := 94) rfl)
theorem own_w95 {Z : State} {a0 : Array Value} (hw : ∀ d ∈ tables_1, d.before a0 Z = true) : Jvm.Cond.before (Jvm.Cond.methodLink "java/util/HashMap" (70 : Nat) ({ cls := "java/lang/Float", name := "isNaN", desc := "(F)Z" } : Jvm.MethodName)) a0 Z = true := hw _ (List.mem_of_getElem? (i := 95) rfl)
theorem own_w96 {Z : State} {a0 : Array Value} (hw : ∀ d ∈ tables_1, d.before a0 Z = true) : Jvm.Cond.before (Jvm.Cond.static ({ cls := "java/lang/Float", name := "isNaN", desc := "(F)Z" } : Jvm.MethodName)) a0 Z = true := hw _ (List.mem_of_getElem? (i := 96) rfl)
theorem own_w97 {Z : State} {a0 : Array Value} (hw : ∀ d ∈ tables_1, d.before a0 Z = true) : Jvm.Cond.before (Jvm.Cond.initialized "java/lang/Float") a0 Z = true := hw _ (List.mem_of_getElem? (i := 97) rfl)
theorem own_w98 {Z : State} {a0 : Array Value} (hw : ∀ d ∈ tables_1, d.before a0 Z = true) : Jvm.Cond.before (Jvm.Cond.code ({ cls := "java/lang/Float", name := "isNaN", desc := "(F)Z" } : Jvm.MethodName) jdk_118_method_6_code (1 : Nat) (Option.some Jvm.ClassFile.FieldType.boolean)) a0 Z = true := hw _ (List.mem_of_getElem? (i := 98) rfl)
theorem own_w99 {Z : State} {a0 : Array Value} (hw : ∀ d ∈ tables_1, d.before a0 Z = true) : Jvm.Cond.before (Jvm.Cond.fieldLink "java/util/HashMap" (81 : Nat) "java/util/HashMap" "loadFactor" "F") a0 Z = true := hw _ (List.mem_of_getElem? (i := 99) rfl)
theorem own_w100 {Z : State} {a0 : Array Value} (hw : ∀ d ∈ tables_1, d.before a0 Z = true) : Jvm.Cond.before (Jvm.Cond.laysFinal "java/util/LinkedHashMap" "java/util/HashMap" "loadFactor" "F") a0 Z = true := hw _ (List.mem_of_getElem? (i := 100) rfl)
theorem own_w101 {Z : State} {a0 : Array Value} (hw : ∀ d ∈ tables_1, d.before a0 Z = true) : Jvm.Cond.before (Jvm.Cond.methodLink "java/util/HashMap" (85 : Nat) ({ cls := "java/util/HashMap", name := "tableSizeFor", desc := "(I)I" } : Jvm.MethodName)) a0 Z = true := hw _ (List.mem_of_getElem? (i := 101) rfl)
theorem own_w102 {Z : State} {a0 : Array Value} (hw : ∀ d ∈ tables_1, d.before a0 Z = true) : Jvm.Cond.before (Jvm.Cond.static ({ cls := "java/util/HashMap", name := "tableSizeFor", desc := "(I)I" } : Jvm.MethodName)) a0 Z = true := hw _ (List.mem_of_getElem? (i := 102) rfl)
theorem own_w103 {Z : State} {a0 : Array Value} (hw : ∀ d ∈ tables_1, d.before a0 Z = true) : Jvm.Cond.before (Jvm.Cond.code ({ cls := "java/util/HashMap", name := "tableSizeFor", desc := "(I)I" } : Jvm.MethodName) jdk_69_method_4_code (2 : Nat) (Option.some Jvm.ClassFile.FieldType.int)) a0 Z = true := hw _ (List.mem_of_getElem? (i := 103) rfl)
theorem own_w104 {Z : State} {a0 : Array Value} (hw : ∀ d ∈ tables_1, d.before a0 Z = true) : Jvm.Cond.before (Jvm.Cond.methodLink "java/util/HashMap" (34 : Nat) ({ cls := "java/lang/Integer", name := "numberOfLeadingZeros", desc := "(I)I" } : Jvm.MethodName)) a0 Z = true := hw _ (List.mem_of_getElem? (i := 104) rfl)
theorem own_w105 {Z : State} {a0 : Array Value} (hw : ∀ d ∈ tables_1, d.before a0 Z = true) : Jvm.Cond.before (Jvm.Cond.static ({ cls := "java/lang/Integer", name := "numberOfLeadingZeros", desc := "(I)I" } : Jvm.MethodName)) a0 Z = true := hw _ (List.mem_of_getElem? (i := 105) rfl)
theorem own_w106 {Z : State} {a0 : Array Value} (hw : ∀ d ∈ tables_1, d.before a0 Z = true) : Jvm.Cond.before (Jvm.Cond.initialized "java/lang/Integer") a0 Z = true := hw _ (List.mem_of_getElem? (i := 106) rfl)
theorem own_w107 {Z : State} {a0 : Array Value} (hw : ∀ d ∈ tables_1, d.before a0 Z = true) : Jvm.Cond.before (Jvm.Cond.code ({ cls := "java/lang/Integer", name := "numberOfLeadingZeros", desc := "(I)I" } : Jvm.MethodName) jdk_33_method_47_code (2 : Nat) (Option.some Jvm.ClassFile.FieldType.int)) a0 Z = true := hw _ (List.mem_of_getElem? (i := 107) rfl)
theorem own_w108 {Z : State} {a0 : Array Value} (hw : ∀ d ∈ tables_1, d.before a0 Z = true) : Jvm.Cond.before (Jvm.Cond.constant "java/lang/Integer" (264 : Nat) (65536 : Int32)) a0 Z = true := hw _ (List.mem_of_getElem? (i := 108) rfl)
theorem own_w109 {Z : State} {a0 : Array Value} (hw : ∀ d ∈ tables_1, d.before a0 Z = true) : Jvm.Cond.before (Jvm.Cond.fieldLink "java/util/HashMap" (88 : Nat) "java/util/HashMap" "threshold" "I") a0 Z = true := hw _ (List.mem_of_getElem? (i := 109) rfl)
theorem own_w110 {Z : State} {a0 : Array Value} (hw : ∀ d ∈ tables_1, d.before a0 Z = true) : Jvm.Cond.before (Jvm.Cond.lays "java/util/LinkedHashMap" "java/util/HashMap" "threshold" "I") a0 Z = true := hw _ (List.mem_of_getElem? (i := 110) rfl)
theorem own_w111 {Z : State} {a0 : Array Value} (hw : ∀ d ∈ tables_1, d.before a0 Z = true) : Jvm.Cond.before (Jvm.Cond.fieldLink "java/util/LinkedHashMap" (1 : Nat) "java/util/LinkedHashMap" "putMode" "I") a0 Z = true := hw _ (List.mem_of_getElem? (i := 111) rfl)
theorem own_w112 {Z : State} {a0 : Array Value} (hw : ∀ d ∈ tables_1, d.before a0 Z = true) : Jvm.Cond.before (Jvm.Cond.lays "java/util/LinkedHashMap" "java/util/LinkedHashMap" "putMode" "I") a0 Z = true := hw _ (List.mem_of_getElem? (i := 112) rfl)
theorem own_w113 {Z : State} {a0 : Array Value} (hw : ∀ d ∈ tables_1, d.before a0 Z = true) : Jvm.Cond.before (Jvm.Cond.fieldLink "java/util/LinkedHashMap" (64 : Nat) "java/util/LinkedHashMap" "accessOrder" "Z") a0 Z = true := hw _ (List.mem_of_getElem? (i := 113) rfl)
theorem own_w114 {Z : State} {a0 : Array Value} (hw : ∀ d ∈ tables_1, d.before a0 Z = true) : Jvm.Cond.before (Jvm.Cond.laysFinal "java/util/LinkedHashMap" "java/util/LinkedHashMap" "accessOrder" "Z") a0 Z = true := hw _ (List.mem_of_getElem? (i := 114) rfl)
theorem own_w115 {Z : State} {a0 : Array Value} (hw : ∀ d ∈ tables_1, d.before a0 Z = true) : Jvm.Cond.before (Jvm.Cond.fieldLink "java/util/HashSet" (10 : Nat) "java/util/HashSet" "map" "Ljava/util/HashMap;") a0 Z = true := hw _ (List.mem_of_getElem? (i := 115) rfl)
theorem own_w116 {Z : State} {a0 : Array Value} (hw : ∀ d ∈ tables_1, d.before a0 Z = true) : Jvm.Cond.before (Jvm.Cond.lays "java/util/LinkedHashSet" "java/util/HashSet" "map" "Ljava/util/HashMap;") a0 Z = true := hw _ (List.mem_of_getElem? (i := 116) rfl)
theorem own_w117 {Z : State} {a0 : Array Value} (hw : ∀ d ∈ tables_1, d.before a0 Z = true) : Jvm.Cond.before (Jvm.Cond.fieldLink own_TT (25 : Nat) own_TT "otherGraphs" "Ljava/util/Set;") a0 Z = true := hw _ (List.mem_of_getElem? (i := 117) rfl)
theorem own_w118 {Z : State} {a0 : Array Value} (hw : ∀ d ∈ tables_1, d.before a0 Z = true) : Jvm.Cond.before (Jvm.Cond.laysFinal own_TT own_TT "otherGraphs" "Ljava/util/Set;") a0 Z = true := hw _ (List.mem_of_getElem? (i := 118) rfl)
theorem own_w119 {Z : State} {a0 : Array Value} (hw : ∀ d ∈ tables_1, d.before a0 Z = true) : Jvm.Cond.before (Jvm.Cond.fieldLink own_TT (29 : Nat) own_TT "table" "[I") a0 Z = true := hw _ (List.mem_of_getElem? (i := 119) rfl)
theorem own_w120 {Z : State} {a0 : Array Value} (hw : ∀ d ∈ tables_1, d.before a0 Z = true) : Jvm.Cond.before (Jvm.Cond.lays own_TT own_TT "table" "[I") a0 Z = true := hw _ (List.mem_of_getElem? (i := 120) rfl)
theorem own_w121 {Z : State} {a0 : Array Value} (hw : ∀ d ∈ tables_1, d.before a0 Z = true) : Jvm.Cond.before (Jvm.Cond.classLink x.cls (22 : Nat) own_RG) a0 Z = true := hw _ (List.mem_of_getElem? (i := 121) rfl)
theorem own_w122 {Z : State} {a0 : Array Value} (hw : ∀ d ∈ tables_1, d.before a0 Z = true) : Jvm.Cond.before (Jvm.Cond.instantiable own_RG (13 : Nat)) a0 Z = true := hw _ (List.mem_of_getElem? (i := 122) rfl)
theorem own_w123 {Z : State} {a0 : Array Value} (hw : ∀ d ∈ tables_1, d.before a0 Z = true) : Jvm.Cond.before (Jvm.Cond.initialized own_RG) a0 Z = true := hw _ (List.mem_of_getElem? (i := 123) rfl)
theorem own_w124 {Z : State} {a0 : Array Value} (hw : ∀ d ∈ tables_1, d.before a0 Z = true) : Jvm.Cond.before (Jvm.Cond.classLink x.cls (24 : Nat) own_PX) a0 Z = true := hw _ (List.mem_of_getElem? (i := 124) rfl)
theorem own_w125 {Z : State} {a0 : Array Value} (hw : ∀ d ∈ tables_1, d.before a0 Z = true) : Jvm.Cond.before (Jvm.Cond.instantiable own_PX (1 : Nat)) a0 Z = true := hw _ (List.mem_of_getElem? (i := 125) rfl)
theorem own_w126 {Z : State} {a0 : Array Value} (hw : ∀ d ∈ tables_1, d.before a0 Z = true) : Jvm.Cond.before (Jvm.Cond.initialized own_PX) a0 Z = true := hw _ (List.mem_of_getElem? (i := 126) rfl)
theorem own_w127 {Z : State} {a0 : Array Value} (hw : ∀ d ∈ tables_1, d.before a0 Z = true) : Jvm.Cond.before (Jvm.Cond.methodLink x.cls (26 : Nat) ({ cls := own_PX, name := "<init>", desc := "()V" } : Jvm.MethodName)) a0 Z = true := hw _ (List.mem_of_getElem? (i := 127) rfl)
theorem own_w128 {Z : State} {a0 : Array Value} (hw : ∀ d ∈ tables_1, d.before a0 Z = true) : Jvm.Cond.before (Jvm.Cond.instanceMethod ({ cls := own_PX, name := "<init>", desc := "()V" } : Jvm.MethodName)) a0 Z = true := hw _ (List.mem_of_getElem? (i := 128) rfl)
theorem own_w129 {Z : State} {a0 : Array Value} (hw : ∀ d ∈ tables_1, d.before a0 Z = true) : Jvm.Cond.before (Jvm.Cond.code ({ cls := own_PX, name := "<init>", desc := "()V" } : Jvm.MethodName) prog_25_method_1_code (1 : Nat) (Option.none : Option Jvm.ClassFile.FieldType)) a0 Z = true := hw _ (List.mem_of_getElem? (i := 129) rfl)
theorem own_w130 {Z : State} {a0 : Array Value} (hw : ∀ d ∈ tables_1, d.before a0 Z = true) : Jvm.Cond.before (Jvm.Cond.methodLink own_PX (1 : Nat) ({ cls := "java/lang/Object", name := "<init>", desc := "()V" } : Jvm.MethodName)) a0 Z = true := hw _ (List.mem_of_getElem? (i := 130) rfl)
theorem own_w131 {Z : State} {a0 : Array Value} (hw : ∀ d ∈ tables_1, d.before a0 Z = true) : Jvm.Cond.before (Jvm.Cond.classLink own_PX (7 : Nat) "java/util/LinkedHashMap") a0 Z = true := hw _ (List.mem_of_getElem? (i := 131) rfl)
theorem own_w132 {Z : State} {a0 : Array Value} (hw : ∀ d ∈ tables_1, d.before a0 Z = true) : Jvm.Cond.before (Jvm.Cond.methodLink own_PX (9 : Nat) ({ cls := "java/util/LinkedHashMap", name := "<init>", desc := "()V" } : Jvm.MethodName)) a0 Z = true := hw _ (List.mem_of_getElem? (i := 132) rfl)
theorem own_w133 {Z : State} {a0 : Array Value} (hw : ∀ d ∈ tables_1, d.before a0 Z = true) : Jvm.Cond.before (Jvm.Cond.instanceMethod ({ cls := "java/util/LinkedHashMap", name := "<init>", desc := "()V" } : Jvm.MethodName)) a0 Z = true := hw _ (List.mem_of_getElem? (i := 133) rfl)
theorem own_w134 {Z : State} {a0 : Array Value} (hw : ∀ d ∈ tables_1, d.before a0 Z = true) : Jvm.Cond.before (Jvm.Cond.code ({ cls := "java/util/LinkedHashMap", name := "<init>", desc := "()V" } : Jvm.MethodName) jdk_94_method_16_code (1 : Nat) (Option.none : Option Jvm.ClassFile.FieldType)) a0 Z = true := hw _ (List.mem_of_getElem? (i := 134) rfl)
theorem own_w135 {Z : State} {a0 : Array Value} (hw : ∀ d ∈ tables_1, d.before a0 Z = true) : Jvm.Cond.before (Jvm.Cond.methodLink "java/util/LinkedHashMap" (87 : Nat) ({ cls := "java/util/HashMap", name := "<init>", desc := "()V" } : Jvm.MethodName)) a0 Z = true := hw _ (List.mem_of_getElem? (i := 135) rfl)
theorem own_w136 {Z : State} {a0 : Array Value} (hw : ∀ d ∈ tables_1, d.before a0 Z = true) : Jvm.Cond.before (Jvm.Cond.instanceMethod ({ cls := "java/util/HashMap", name := "<init>", desc := "()V" } : Jvm.MethodName)) a0 Z = true := hw _ (List.mem_of_getElem? (i := 136) rfl)
theorem own_w138 {Z : State} {a0 : Array Value} (hw : ∀ d ∈ tables_1, d.before a0 Z = true) : Jvm.Cond.before (Jvm.Cond.code ({ cls := "java/util/HashMap", name := "<init>", desc := "()V" } : Jvm.MethodName) jdk_69_method_7_code (1 : Nat) (Option.none : Option Jvm.ClassFile.FieldType)) a0 Z = true := hw _ (List.mem_of_getElem? (i := 138) rfl)
theorem own_w139 {Z : State} {a0 : Array Value} (hw : ∀ d ∈ tables_1, d.before a0 Z = true) : Jvm.Cond.before (Jvm.Cond.constantFloat "java/util/HashMap" (92 : Nat) (1061158912 : UInt32)) a0 Z = true := hw _ (List.mem_of_getElem? (i := 139) rfl)
theorem own_w140 {Z : State} {a0 : Array Value} (hw : ∀ d ∈ tables_1, d.before a0 Z = true) : Jvm.Cond.before (Jvm.Cond.fieldLink own_PX (10 : Nat) own_PX "declarations" "Ljava/util/Map;") a0 Z = true := hw _ (List.mem_of_getElem? (i := 140) rfl)
theorem own_w141 {Z : State} {a0 : Array Value} (hw : ∀ d ∈ tables_1, d.before a0 Z = true) : Jvm.Cond.before (Jvm.Cond.laysFinal own_PX own_PX "declarations" "Ljava/util/Map;") a0 Z = true := hw _ (List.mem_of_getElem? (i := 141) rfl)
theorem own_w142 {Z : State} {a0 : Array Value} (hw : ∀ d ∈ tables_1, d.before a0 Z = true) : Jvm.Cond.before (Jvm.Cond.methodLink x.cls (27 : Nat) ({ cls := own_RG, name := "<init>", desc := "([Ljava/lang/String;[Ljava/lang/String;[Ljava/lang/String;Lcom/example/weser/weser/core/TripleTable;Lcom/example/weser/weser/core/TripleTable;[Ljava/lang/String;Lcom/example/weser/weser/core/Prefixes;)V" } : Jvm.MethodName)) a0 Z = true := hw _ (List.mem_of_getElem? (i := 142) rfl)
theorem own_w143 {Z : State} {a0 : Array Value} (hw : ∀ d ∈ tables_1, d.before a0 Z = true) : Jvm.Cond.before (Jvm.Cond.instanceMethod ({ cls := own_RG, name := "<init>", desc := "([Ljava/lang/String;[Ljava/lang/String;[Ljava/lang/String;Lcom/example/weser/weser/core/TripleTable;Lcom/example/weser/weser/core/TripleTable;[Ljava/lang/String;Lcom/example/weser/weser/core/Prefixes;)V" } : Jvm.MethodName)) a0 Z = true := hw _ (List.mem_of_getElem? (i := 143) rfl)
theorem own_w144 {Z : State} {a0 : Array Value} (hw : ∀ d ∈ tables_1, d.before a0 Z = true) : Jvm.Cond.before (Jvm.Cond.code ({ cls := own_RG, name := "<init>", desc := "([Ljava/lang/String;[Ljava/lang/String;[Ljava/lang/String;Lcom/example/weser/weser/core/TripleTable;Lcom/example/weser/weser/core/TripleTable;[Ljava/lang/String;Lcom/example/weser/weser/core/Prefixes;)V" } : Jvm.MethodName) prog_29_method_1_code (8 : Nat) (Option.none : Option Jvm.ClassFile.FieldType)) a0 Z = true := hw _ (List.mem_of_getElem? (i := 144) rfl)
theorem own_w145 {Z : State} {a0 : Array Value} (hw : ∀ d ∈ tables_1, d.before a0 Z = true) : Jvm.Cond.before (Jvm.Cond.methodLink own_RG (1 : Nat) ({ cls := "java/lang/Object", name := "<init>", desc := "()V" } : Jvm.MethodName)) a0 Z = true := hw _ (List.mem_of_getElem? (i := 145) rfl)
theorem own_w146 {Z : State} {a0 : Array Value} (hw : ∀ d ∈ tables_1, d.before a0 Z = true) : Jvm.Cond.before (Jvm.Cond.fieldLink own_RG (7 : Nat) own_RG "iris" "[Ljava/lang/String;") a0 Z = true := hw _ (List.mem_of_getElem? (i := 146) rfl)
theorem own_w147 {Z : State} {a0 : Array Value} (hw : ∀ d ∈ tables_1, d.before a0 Z = true) : Jvm.Cond.before (Jvm.Cond.laysFinal own_RG own_RG "iris" "[Ljava/lang/String;") a0 Z = true := hw _ (List.mem_of_getElem? (i := 147) rfl)
theorem own_w148 {Z : State} {a0 : Array Value} (hw : ∀ d ∈ tables_1, d.before a0 Z = true) : Jvm.Cond.before (Jvm.Cond.fieldLink own_RG (13 : Nat) own_RG "predicateIris" "[Ljava/lang/String;") a0 Z = true := hw _ (List.mem_of_getElem? (i := 148) rfl)
theorem own_w149 {Z : State} {a0 : Array Value} (hw : ∀ d ∈ tables_1, d.before a0 Z = true) : Jvm.Cond.before (Jvm.Cond.laysFinal own_RG own_RG "predicateIris" "[Ljava/lang/String;") a0 Z = true := hw _ (List.mem_of_getElem? (i := 149) rfl)
theorem own_w150 {Z : State} {a0 : Array Value} (hw : ∀ d ∈ tables_1, d.before a0 Z = true) : Jvm.Cond.before (Jvm.Cond.fieldLink own_RG (16 : Nat) own_RG "graphLabels" "[Ljava/lang/String;") a0 Z = true := hw _ (List.mem_of_getElem? (i := 150) rfl)
theorem own_w151 {Z : State} {a0 : Array Value} (hw : ∀ d ∈ tables_1, d.before a0 Z = true) : Jvm.Cond.before (Jvm.Cond.laysFinal own_RG own_RG "graphLabels" "[Ljava/lang/String;") a0 Z = true := hw _ (List.mem_of_getElem? (i := 151) rfl)
theorem own_w152 {Z : State} {a0 : Array Value} (hw : ∀ d ∈ tables_1, d.before a0 Z = true) : Jvm.Cond.before (Jvm.Cond.methodLink own_RG (19 : Nat) ({ cls := own_TT, name := "subjects", desc := "()[I" } : Jvm.MethodName)) a0 Z = true := hw _ (List.mem_of_getElem? (i := 152) rfl)
theorem own_w153 {Z : State} {a0 : Array Value} (hw : ∀ d ∈ tables_1, d.before a0 Z = true) : Jvm.Cond.before (Jvm.Cond.declares ({ cls := own_TT, name := "subjects", desc := "()[I" } : Jvm.MethodName)) a0 Z = true := hw _ (List.mem_of_getElem? (i := 153) rfl)
theorem own_w154 {Z : State} {a0 : Array Value} (hw : ∀ d ∈ tables_1, d.before a0 Z = true) : Jvm.Cond.before (Jvm.Cond.instanceMethod ({ cls := own_TT, name := "subjects", desc := "()[I" } : Jvm.MethodName)) a0 Z = true := hw _ (List.mem_of_getElem? (i := 154) rfl)
theorem own_w155 {Z : State} {a0 : Array Value} (hw : ∀ d ∈ tables_1, d.before a0 Z = true) : Jvm.Cond.before (Jvm.Cond.selects own_TT ({ cls := own_TT, name := "subjects", desc := "()[I" } : Jvm.MethodName) ({ cls := own_TT, name := "subjects", desc := "()[I" } : Jvm.MethodName)) a0 Z = true := hw _ (List.mem_of_getElem? (i := 155) rfl)
theorem own_w156 {Z : State} {a0 : Array Value} (hw : ∀ d ∈ tables_1, d.before a0 Z = true) : Jvm.Cond.before (Jvm.Cond.code ({ cls := own_TT, name := "subjects", desc := "()[I" } : Jvm.MethodName) prog_37_method_3_code (1 : Nat) (Option.some (Jvm.ClassFile.FieldType.array Jvm.ClassFile.FieldType.int))) a0 Z = true := hw _ (List.mem_of_getElem? (i := 156) rfl)
theorem own_w157 {Z : State} {a0 : Array Value} (hw : ∀ d ∈ tables_1, d.before a0 Z = true) : Jvm.Cond.before (Jvm.Cond.fieldLink own_TT (48 : Nat) own_TT "size" "I") a0 Z = true := hw _ (List.mem_of_getElem? (i := 157) rfl)
theorem own_w158 {Z : State} {a0 : Array Value} (hw : ∀ d ∈ tables_1, d.before a0 Z = true) : Jvm.Cond.before (Jvm.Cond.lays own_TT own_TT "size" "I") a0 Z = true := hw _ (List.mem_of_getElem? (i := 158) rfl)
theorem own_w159 {Z : State} {a0 : Array Value} (hw : ∀ d ∈ tables_1, d.before a0 Z = true) : Jvm.Cond.before (Jvm.Cond.methodLink own_TT (52 : Nat) ({ cls := "java/util/Arrays", name := "copyOf", desc := "([II)[I" } : Jvm.MethodName)) a0 Z = true := hw _ (List.mem_of_getElem? (i := 159) rfl)
theorem own_w160 {Z : State} {a0 : Array Value} (hw : ∀ d ∈ tables_1, d.before a0 Z = true) : Jvm.Cond.before (Jvm.Cond.static ({ cls := "java/util/Arrays", name := "copyOf", desc := "([II)[I" } : Jvm.MethodName)) a0 Z = true := hw _ (List.mem_of_getElem? (i := 160) rfl)
theorem own_w161 {Z : State} {a0 : Array Value} (hw : ∀ d ∈ tables_1, d.before a0 Z = true) : Jvm.Cond.before (Jvm.Cond.initialized "java/util/Arrays") a0 Z = true := hw _ (List.mem_of_getElem? (i := 161) rfl)
theorem own_w162 {Z : State} {a0 : Array Value} (hw : ∀ d ∈ tables_1, d.before a0 Z = true) : Jvm.Cond.before (Jvm.Cond.code ({ cls := "java/util/Arrays", name := "copyOf", desc := "([II)[I" } : Jvm.MethodName) jdk_65_method_123_code (3 : Nat) (Option.some (Jvm.ClassFile.FieldType.array Jvm.ClassFile.FieldType.int))) a0 Z = true := hw _ (List.mem_of_getElem? (i := 162) rfl)
theorem own_w163 {Z : State} {a0 : Array Value} (hw : ∀ d ∈ tables_1, d.before a0 Z = true) : Jvm.Cond.before (Jvm.Cond.methodLink "java/util/Arrays" (304 : Nat) ({ cls := "java/lang/Math", name := "min", desc := "(II)I" } : Jvm.MethodName)) a0 Z = true := hw _ (List.mem_of_getElem? (i := 163) rfl)
theorem own_w164 {Z : State} {a0 : Array Value} (hw : ∀ d ∈ tables_1, d.before a0 Z = true) : Jvm.Cond.before (Jvm.Cond.static ({ cls := "java/lang/Math", name := "min", desc := "(II)I" } : Jvm.MethodName)) a0 Z = true := hw _ (List.mem_of_getElem? (i := 164) rfl)
theorem own_w165 {Z : State} {a0 : Array Value} (hw : ∀ d ∈ tables_1, d.before a0 Z = true) : Jvm.Cond.before (Jvm.Cond.initialized "java/lang/Math") a0 Z = true := hw _ (List.mem_of_getElem? (i := 165) rfl)
theorem own_w166 {Z : State} {a0 : Array Value} (hw : ∀ d ∈ tables_1, d.before a0 Z = true) : Jvm.Cond.before (Jvm.Cond.code ({ cls := "java/lang/Math", name := "min", desc := "(II)I" } : Jvm.MethodName) jdk_29_method_69_code (2 : Nat) (Option.some Jvm.ClassFile.FieldType.int)) a0 Z = true := hw _ (List.mem_of_getElem? (i := 166) rfl)
theorem own_w167 {Z : State} {a0 : Array Value} (hw : ∀ d ∈ tables_1, d.before a0 Z = true) : Jvm.Cond.before (Jvm.Cond.methodLink "java/util/Arrays" (150 : Nat) ({ cls := "java/lang/System", name := "arraycopy", desc := "(Ljava/lang/Object;ILjava/lang/Object;II)V" } : Jvm.MethodName)) a0 Z = true := hw _ (List.mem_of_getElem? (i := 167) rfl)
theorem own_w168 {Z : State} {a0 : Array Value} (hw : ∀ d ∈ tables_1, d.before a0 Z = true) : Jvm.Cond.before (Jvm.Cond.static ({ cls := "java/lang/System", name := "arraycopy", desc := "(Ljava/lang/Object;ILjava/lang/Object;II)V" } : Jvm.MethodName)) a0 Z = true := hw _ (List.mem_of_getElem? (i := 168) rfl)
theorem own_w169 {Z : State} {a0 : Array Value} (hw : ∀ d ∈ tables_1, d.before a0 Z = true) : Jvm.Cond.before (Jvm.Cond.initialized "java/lang/System") a0 Z = true := hw _ (List.mem_of_getElem? (i := 169) rfl)
theorem own_w170 {Z : State} {a0 : Array Value} (hw : ∀ d ∈ tables_1, d.before a0 Z = true) : Jvm.Cond.before (Jvm.Cond.native ({ cls := "java/lang/System", name := "arraycopy", desc := "(Ljava/lang/Object;ILjava/lang/Object;II)V" } : Jvm.MethodName)) a0 Z = true := hw _ (List.mem_of_getElem? (i := 170) rfl)
theorem own_w171 {Z : State} {a0 : Array Value} (hw : ∀ d ∈ tables_1, d.before a0 Z = true) : Jvm.Cond.before (Jvm.Cond.fieldLink own_RG (25 : Nat) own_RG "linkSources" "[I") a0 Z = true := hw _ (List.mem_of_getElem? (i := 171) rfl)
theorem own_w172 {Z : State} {a0 : Array Value} (hw : ∀ d ∈ tables_1, d.before a0 Z = true) : Jvm.Cond.before (Jvm.Cond.laysFinal own_RG own_RG "linkSources" "[I") a0 Z = true := hw _ (List.mem_of_getElem? (i := 172) rfl)
theorem own_w173 {Z : State} {a0 : Array Value} (hw : ∀ d ∈ tables_1, d.before a0 Z = true) : Jvm.Cond.before (Jvm.Cond.methodLink own_RG (29 : Nat) ({ cls := own_TT, name := "predicates", desc := "()[I" } : Jvm.MethodName)) a0 Z = true := hw _ (List.mem_of_getElem? (i := 173) rfl)
theorem own_w174 {Z : State} {a0 : Array Value} (hw : ∀ d ∈ tables_1, d.before a0 Z = true) : Jvm.Cond.before (Jvm.Cond.declares ({ cls := own_TT, name := "predicates", desc := "()[I" } : Jvm.MethodName)) a0 Z = true := hw _ (List.mem_of_getElem? (i := 174) rfl)
theorem own_w175 {Z : State} {a0 : Array Value} (hw : ∀ d ∈ tables_1, d.before a0 Z = true) : Jvm.Cond.before (Jvm.Cond.instanceMethod ({ cls := own_TT, name := "predicates", desc := "()[I" } : Jvm.MethodName)) a0 Z = true := hw _ (List.mem_of_getElem? (i := 175) rfl)
theorem own_w176 {Z : State} {a0 : Array Value} (hw : ∀ d ∈ tables_1, d.before a0 Z = true) : Jvm.Cond.before (Jvm.Cond.selects own_TT ({ cls := own_TT, name := "predicates", desc := "()[I" } : Jvm.MethodName) ({ cls := own_TT, name := "predicates", desc := "()[I" } : Jvm.MethodName)) a0 Z = true := hw _ (List.mem_of_getElem? (i := 176) rfl)
theorem own_w177 {Z : State} {a0 : Array Value} (hw : ∀ d ∈ tables_1, d.before a0 Z = true) : Jvm.Cond.before (Jvm.Cond.code ({ cls := own_TT, name := "predicates", desc := "()[I" } : Jvm.MethodName) prog_37_method_4_code (1 : Nat) (Option.some (Jvm.ClassFile.FieldType.array Jvm.ClassFile.FieldType.int))) a0 Z = true := hw _ (List.mem_of_getElem? (i := 177) rfl)
theorem own_w178 {Z : State} {a0 : Array Value} (hw : ∀ d ∈ tables_1, d.before a0 Z = true) : Jvm.Cond.before (Jvm.Cond.fieldLink own_RG (32 : Nat) own_RG "linkPredicates" "[I") a0 Z = true := hw _ (List.mem_of_getElem? (i := 178) rfl)
theorem own_w179 {Z : State} {a0 : Array Value} (hw : ∀ d ∈ tables_1, d.before a0 Z = true) : Jvm.Cond.before (Jvm.Cond.laysFinal own_RG own_RG "linkPredicates" "[I") a0 Z = true := hw _ (List.mem_of_getElem? (i := 179) rfl)
theorem own_w180 {Z : State} {a0 : Array Value} (hw : ∀ d ∈ tables_1, d.before a0 Z = true) : Jvm.Cond.before (Jvm.Cond.methodLink own_RG (35 : Nat) ({ cls := own_TT, name := "objects", desc := "()[I" } : Jvm.MethodName)) a0 Z = true := hw _ (List.mem_of_getElem? (i := 180) rfl)
theorem own_w181 {Z : State} {a0 : Array Value} (hw : ∀ d ∈ tables_1, d.before a0 Z = true) : Jvm.Cond.before (Jvm.Cond.declares ({ cls := own_TT, name := "objects", desc := "()[I" } : Jvm.MethodName)) a0 Z = true := hw _ (List.mem_of_getElem? (i := 181) rfl)
theorem own_w182 {Z : State} {a0 : Array Value} (hw : ∀ d ∈ tables_1, d.before a0 Z = true) : Jvm.Cond.before (Jvm.Cond.instanceMethod ({ cls := own_TT, name := "objects", desc := "()[I" } : Jvm.MethodName)) a0 Z = true := hw _ (List.mem_of_getElem? (i := 182) rfl)
theorem own_w183 {Z : State} {a0 : Array Value} (hw : ∀ d ∈ tables_1, d.before a0 Z = true) : Jvm.Cond.before (Jvm.Cond.selects own_TT ({ cls := own_TT, name := "objects", desc := "()[I" } : Jvm.MethodName) ({ cls := own_TT, name := "objects", desc := "()[I" } : Jvm.MethodName)) a0 Z = true := hw _ (List.mem_of_getElem? (i := 183) rfl)
theorem own_w184 {Z : State} {a0 : Array Value} (hw : ∀ d ∈ tables_1, d.before a0 Z = true) : Jvm.Cond.before (Jvm.Cond.code ({ cls := own_TT, name := "objects", desc := "()[I" } : Jvm.MethodName) prog_37_method_5_code (1 : Nat) (Option.some (Jvm.ClassFile.FieldType.array Jvm.ClassFile.FieldType.int))) a0 Z = true := hw _ (List.mem_of_getElem? (i := 184) rfl)
theorem own_w185 {Z : State} {a0 : Array Value} (hw : ∀ d ∈ tables_1, d.before a0 Z = true) : Jvm.Cond.before (Jvm.Cond.fieldLink own_RG (38 : Nat) own_RG "linkTargets" "[I") a0 Z = true := hw _ (List.mem_of_getElem? (i := 185) rfl)
theorem own_w186 {Z : State} {a0 : Array Value} (hw : ∀ d ∈ tables_1, d.before a0 Z = true) : Jvm.Cond.before (Jvm.Cond.laysFinal own_RG own_RG "linkTargets" "[I") a0 Z = true := hw _ (List.mem_of_getElem? (i := 186) rfl)
theorem own_w187 {Z : State} {a0 : Array Value} (hw : ∀ d ∈ tables_1, d.before a0 Z = true) : Jvm.Cond.before (Jvm.Cond.methodLink own_RG (41 : Nat) ({ cls := own_TT, name := "memberships", desc := "()Lcom/example/weser/weser/core/Memberships;" } : Jvm.MethodName)) a0 Z = true := hw _ (List.mem_of_getElem? (i := 187) rfl)
theorem own_w188 {Z : State} {a0 : Array Value} (hw : ∀ d ∈ tables_1, d.before a0 Z = true) : Jvm.Cond.before (Jvm.Cond.declares ({ cls := own_TT, name := "memberships", desc := "()Lcom/example/weser/weser/core/Memberships;" } : Jvm.MethodName)) a0 Z = true := hw _ (List.mem_of_getElem? (i := 188) rfl)
theorem own_w189 {Z : State} {a0 : Array Value} (hw : ∀ d ∈ tables_1, d.before a0 Z = true) : Jvm.Cond.before (Jvm.Cond.instanceMethod ({ cls := own_TT, name := "memberships", desc := "()Lcom/example/weser/weser/core/Memberships;" } : Jvm.MethodName)) a0 Z = true := hw _ (List.mem_of_getElem? (i := 189) rfl)
theorem own_w190 {Z : State} {a0 : Array Value} (hw : ∀ d ∈ tables_1, d.before a0 Z = true) : Jvm.Cond.before (Jvm.Cond.selects own_TT ({ cls := own_TT, name := "memberships", desc := "()Lcom/example/weser/weser/core/Memberships;" } : Jvm.MethodName) ({ cls := own_TT, name := "memberships", desc := "()Lcom/example/weser/weser/core/Memberships;" } : Jvm.MethodName)) a0 Z = true := hw _ (List.mem_of_getElem? (i := 190) rfl)
theorem own_w191 {Z : State} {a0 : Array Value} (hw : ∀ d ∈ tables_1, d.before a0 Z = true) : Jvm.Cond.before (Jvm.Cond.code ({ cls := own_TT, name := "memberships", desc := "()Lcom/example/weser/weser/core/Memberships;" } : Jvm.MethodName) prog_37_method_6_code (8 : Nat) (Option.some (Jvm.ClassFile.FieldType.object own_MB))) a0 Z = true := hw _ (List.mem_of_getElem? (i := 191) rfl)
theorem own_w192 {Z : State} {a0 : Array Value} (hw : ∀ d ∈ tables_1, d.before a0 Z = true) : Jvm.Cond.before (Jvm.Cond.methodLink own_TT (62 : Nat) ({ cls := "java/util/Set", name := "size", desc := "()I" } : Jvm.MethodName)) a0 Z = true := hw _ (List.mem_of_getElem? (i := 192) rfl)
theorem own_w193 {Z : State} {a0 : Array Value} (hw : ∀ d ∈ tables_1, d.before a0 Z = true) : Jvm.Cond.before (Jvm.Cond.declares ({ cls := "java/util/Set", name := "size", desc := "()I" } : Jvm.MethodName)) a0 Z = true := hw _ (List.mem_of_getElem? (i := 193) rfl)
theorem own_w194 {Z : State} {a0 : Array Value} (hw : ∀ d ∈ tables_1, d.before a0 Z = true) : Jvm.Cond.before (Jvm.Cond.interfaceMethod "java/util/Set" "java/util/Set" "size" "()I") a0 Z = true := hw _ (List.mem_of_getElem? (i := 194) rfl)
theorem own_w195 {Z : State} {a0 : Array Value} (hw : ∀ d ∈ tables_1, d.before a0 Z = true) : Jvm.Cond.before (Jvm.Cond.selects "java/util/LinkedHashSet" ({ cls := "java/util/Set", name := "size", desc := "()I" } : Jvm.MethodName) ({ cls := "java/util/HashSet", name := "size", desc := "()I" } : Jvm.MethodName)) a0 Z = true := hw _ (List.mem_of_getElem? (i := 195) rfl)
theorem own_w196 {Z : State} {a0 : Array Value} (hw : ∀ d ∈ tables_1, d.before a0 Z = true) : Jvm.Cond.before (Jvm.Cond.instanceMethod ({ cls := "java/util/HashSet", name := "size", desc := "()I" } : Jvm.MethodName)) a0 Z = true := hw _ (List.mem_of_getElem? (i := 196) rfl)
theorem own_w197 {Z : State} {a0 : Array Value} (hw : ∀ d ∈ tables_1, d.before a0 Z = true) : Jvm.Cond.before (Jvm.Cond.publicMethod ({ cls := "java/util/HashSet", name := "size", desc := "()I" } : Jvm.MethodName)) a0 Z = true := hw _ (List.mem_of_getElem? (i := 197) rfl)
theorem own_w198 {Z : State} {a0 : Array Value} (hw : ∀ d ∈ tables_1, d.before a0 Z = true) : Jvm.Cond.before (Jvm.Cond.unhidden "java/util/LinkedHashSet" "size" "()I") a0 Z = true := hw _ (List.mem_of_getElem? (i := 198) rfl)
theorem own_w199 {Z : State} {a0 : Array Value} (hw : ∀ d ∈ tables_1, d.before a0 Z = true) : Jvm.Cond.before (Jvm.Cond.castable "java/util/LinkedHashSet" "java/util/Set") a0 Z = true := hw _ (List.mem_of_getElem? (i := 199) rfl)
theorem own_w200 {Z : State} {a0 : Array Value} (hw : ∀ d ∈ tables_1, d.before a0 Z = true) : Jvm.Cond.before (Jvm.Cond.code ({ cls := "java/util/HashSet", name := "size", desc := "()I" } : Jvm.MethodName) jdk_93_method_7_code (1 : Nat) (Option.some Jvm.ClassFile.FieldType.int)) a0 Z = true := hw _ (List.mem_of_getElem? (i := 200) rfl)
theorem own_w201 {Z : State} {a0 : Array Value} (hw : ∀ d ∈ tables_1, d.before a0 Z = true) : Jvm.Cond.before (Jvm.Cond.methodLink "java/util/HashSet" (55 : Nat) ({ cls := "java/util/HashMap", name := "size", desc := "()I" } : Jvm.MethodName)) a0 Z = true := hw _ (List.mem_of_getElem? (i := 201) rfl)
theorem own_w202 {Z : State} {a0 : Array Value} (hw : ∀ d ∈ tables_1, d.before a0 Z = true) : Jvm.Cond.before (Jvm.Cond.declares ({ cls := "java/util/HashMap", name := "size", desc := "()I" } : Jvm.MethodName)) a0 Z = true := hw _ (List.mem_of_getElem? (i := 202) rfl)
theorem own_w203 {Z : State} {a0 : Array Value} (hw : ∀ d ∈ tables_1, d.before a0 Z = true) : Jvm.Cond.before (Jvm.Cond.instanceMethod ({ cls := "java/util/HashMap", name := "size", desc := "()I" } : Jvm.MethodName)) a0 Z = true := hw _ (List.mem_of_getElem? (i := 203) rfl)
theorem own_w204 {Z : State} {a0 : Array Value} (hw : ∀ d ∈ tables_1, d.before a0 Z = true) : Jvm.Cond.before (Jvm.Cond.selects "java/util/LinkedHashMap" ({ cls := "java/util/HashMap", name := "size", desc := "()I" } : Jvm.MethodName) ({ cls := "java/util/HashMap", name := "size", desc := "()I" } : Jvm.MethodName)) a0 Z = true := hw _ (List.mem_of_getElem? (i := 204) rfl)
theorem own_w205 {Z : State} {a0 : Array Value} (hw : ∀ d ∈ tables_1, d.before a0 Z = true) : Jvm.Cond.before (Jvm.Cond.code ({ cls := "java/util/HashMap", name := "size", desc := "()I" } : Jvm.MethodName) jdk_69_method_10_code (1 : Nat) (Option.some Jvm.ClassFile.FieldType.int)) a0 Z = true := hw _ (List.mem_of_getElem? (i := 205) rfl)
theorem own_w206 {Z : State} {a0 : Array Value} (hw : ∀ d ∈ tables_1, d.before a0 Z = true) : Jvm.Cond.before (Jvm.Cond.fieldLink "java/util/HashMap" (156 : Nat) "java/util/HashMap" "size" "I") a0 Z = true := hw _ (List.mem_of_getElem? (i := 206) rfl)
theorem own_w207 {Z : State} {a0 : Array Value} (hw : ∀ d ∈ tables_1, d.before a0 Z = true) : Jvm.Cond.before (Jvm.Cond.lays "java/util/LinkedHashMap" "java/util/HashMap" "size" "I") a0 Z = true := hw _ (List.mem_of_getElem? (i := 207) rfl)
theorem own_w208 {Z : State} {a0 : Array Value} (hw : ∀ d ∈ tables_1, d.before a0 Z = true) : Jvm.Cond.before (Jvm.Cond.methodLink own_TT (65 : Nat) ({ cls := "java/util/Set", name := "iterator", desc := "()Ljava/util/Iterator;" } : Jvm.MethodName)) a0 Z = true := hw _ (List.mem_of_getElem? (i := 208) rfl)
theorem own_w209 {Z : State} {a0 : Array Value} (hw : ∀ d ∈ tables_1, d.before a0 Z = true) : Jvm.Cond.before (Jvm.Cond.declares ({ cls := "java/util/Set", name := "iterator", desc := "()Ljava/util/Iterator;" } : Jvm.MethodName)) a0 Z = true := hw _ (List.mem_of_getElem? (i := 209) rfl)
theorem own_w210 {Z : State} {a0 : Array Value} (hw : ∀ d ∈ tables_1, d.before a0 Z = true) : Jvm.Cond.before (Jvm.Cond.interfaceMethod "java/util/Set" "java/util/Set" "iterator" "()Ljava/util/Iterator;") a0 Z = true := hw _ (List.mem_of_getElem? (i := 210) rfl)
theorem own_w211 {Z : State} {a0 : Array Value} (hw : ∀ d ∈ tables_1, d.before a0 Z = true) : Jvm.Cond.before (Jvm.Cond.selects "java/util/LinkedHashSet" ({ cls := "java/util/Set", name := "iterator", desc := "()Ljava/util/Iterator;" } : Jvm.MethodName) ({ cls := "java/util/HashSet", name := "iterator", desc := "()Ljava/util/Iterator;" } : Jvm.MethodName)) a0 Z = true := hw _ (List.mem_of_getElem? (i := 211) rfl)
theorem own_w212 {Z : State} {a0 : Array Value} (hw : ∀ d ∈ tables_1, d.before a0 Z = true) : Jvm.Cond.before (Jvm.Cond.instanceMethod ({ cls := "java/util/HashSet", name := "iterator", desc := "()Ljava/util/Iterator;" } : Jvm.MethodName)) a0 Z = true := hw _ (List.mem_of_getElem? (i := 212) rfl)
theorem own_w213 {Z : State} {a0 : Array Value} (hw : ∀ d ∈ tables_1, d.before a0 Z = true) : Jvm.Cond.before (Jvm.Cond.publicMethod ({ cls := "java/util/HashSet", name := "iterator", desc := "()Ljava/util/Iterator;" } : Jvm.MethodName)) a0 Z = true := hw _ (List.mem_of_getElem? (i := 213) rfl)
theorem own_w214 {Z : State} {a0 : Array Value} (hw : ∀ d ∈ tables_1, d.before a0 Z = true) : Jvm.Cond.before (Jvm.Cond.unhidden "java/util/LinkedHashSet" "iterator" "()Ljava/util/Iterator;") a0 Z = true := hw _ (List.mem_of_getElem? (i := 214) rfl)
theorem own_w215 {Z : State} {a0 : Array Value} (hw : ∀ d ∈ tables_1, d.before a0 Z = true) : Jvm.Cond.before (Jvm.Cond.code ({ cls := "java/util/HashSet", name := "iterator", desc := "()Ljava/util/Iterator;" } : Jvm.MethodName) jdk_93_method_6_code (1 : Nat) (Option.some (Jvm.ClassFile.FieldType.object "java/util/Iterator"))) a0 Z = true := hw _ (List.mem_of_getElem? (i := 215) rfl)
theorem own_w216 {Z : State} {a0 : Array Value} (hw : ∀ d ∈ tables_1, d.before a0 Z = true) : Jvm.Cond.before (Jvm.Cond.methodLink "java/util/HashSet" (45 : Nat) ({ cls := "java/util/HashMap", name := "keySet", desc := "()Ljava/util/Set;" } : Jvm.MethodName)) a0 Z = true := hw _ (List.mem_of_getElem? (i := 216) rfl)
theorem own_w217 {Z : State} {a0 : Array Value} (hw : ∀ d ∈ tables_1, d.before a0 Z = true) : Jvm.Cond.before (Jvm.Cond.declares ({ cls := "java/util/HashMap", name := "keySet", desc := "()Ljava/util/Set;" } : Jvm.MethodName)) a0 Z = true := hw _ (List.mem_of_getElem? (i := 217) rfl)
theorem own_w219 {Z : State} {a0 : Array Value} (hw : ∀ d ∈ tables_1, d.before a0 Z = true) : Jvm.Cond.before (Jvm.Cond.selects "java/util/LinkedHashMap" ({ cls := "java/util/HashMap", name := "keySet", desc := "()Ljava/util/Set;" } : Jvm.MethodName) ({ cls := "java/util/LinkedHashMap", name := "keySet", desc := "()Ljava/util/Set;" } : Jvm.MethodName)) a0 Z = true := hw _ (List.mem_of_getElem? (i := 219) rfl)
theorem own_w220 {Z : State} {a0 : Array Value} (hw : ∀ d ∈ tables_1, d.before a0 Z = true) : Jvm.Cond.before (Jvm.Cond.instanceMethod ({ cls := "java/util/LinkedHashMap", name := "keySet", desc := "()Ljava/util/Set;" } : Jvm.MethodName)) a0 Z = true := hw _ (List.mem_of_getElem? (i := 220) rfl)
theorem own_w221 {Z : State} {a0 : Array Value} (hw : ∀ d ∈ tables_1, d.before a0 Z = true) : Jvm.Cond.before (Jvm.Cond.code ({ cls := "java/util/LinkedHashMap", name := "keySet", desc := "()Ljava/util/Set;" } : Jvm.MethodName) jdk_94_method_24_code (1 : Nat) (Option.some (Jvm.ClassFile.FieldType.object "java/util/Set"))) a0 Z = true := hw _ (List.mem_of_getElem? (i := 221) rfl)
theorem own_w222 {Z : State} {a0 : Array Value} (hw : ∀ d ∈ tables_1, d.before a0 Z = true) : Jvm.Cond.before (Jvm.Cond.methodLink "java/util/LinkedHashMap" (113 : Nat) ({ cls := "java/util/LinkedHashMap", name := "sequencedKeySet", desc := "()Ljava/util/SequencedSet;" } : Jvm.MethodName)) a0 Z = true := hw _ (List.mem_of_getElem? (i := 222) rfl)
theorem own_w223 {Z : State} {a0 : Array Value} (hw : ∀ d ∈ tables_1, d.before a0 Z = true) : Jvm.Cond.before (Jvm.Cond.declares ({ cls := "java/util/LinkedHashMap", name := "sequencedKeySet", desc := "()Ljava/util/SequencedSet;" } : Jvm.MethodName)) a0 Z = true := hw _ (List.mem_of_getElem? (i := 223) rfl)
theorem own_w224 {Z : State} {a0 : Array Value} (hw : ∀ d ∈ tables_1, d.before a0 Z = true) : Jvm.Cond.before (Jvm.Cond.instanceMethod ({ cls := "java/util/LinkedHashMap", name := "sequencedKeySet", desc := "()Ljava/util/SequencedSet;" } : Jvm.MethodName)) a0 Z = true := hw _ (List.mem_of_getElem? (i := 224) rfl)
theorem own_w225 {Z : State} {a0 : Array Value} (hw : ∀ d ∈ tables_1, d.before a0 Z = true) : Jvm.Cond.before (Jvm.Cond.selects "java/util/LinkedHashMap" ({ cls := "java/util/LinkedHashMap", name := "sequencedKeySet", desc := "()Ljava/util/SequencedSet;" } : Jvm.MethodName) ({ cls := "java/util/LinkedHashMap", name := "sequencedKeySet", desc := "()Ljava/util/SequencedSet;" } : Jvm.MethodName)) a0 Z = true := hw _ (List.mem_of_getElem? (i := 225) rfl)
theorem own_w226 {Z : State} {a0 : Array Value} (hw : ∀ d ∈ tables_1, d.before a0 Z = true) : Jvm.Cond.before (Jvm.Cond.code ({ cls := "java/util/LinkedHashMap", name := "sequencedKeySet", desc := "()Ljava/util/SequencedSet;" } : Jvm.MethodName) jdk_94_method_25_code (3 : Nat) (Option.some (Jvm.ClassFile.FieldType.object "java/util/SequencedSet"))) a0 Z = true := hw _ (List.mem_of_getElem? (i := 226) rfl)
theorem own_w227 {Z : State} {a0 : Array Value} (hw : ∀ d ∈ tables_1, d.before a0 Z = true) : Jvm.Cond.before (Jvm.Cond.fieldLink "java/util/LinkedHashMap" (117 : Nat) "java/util/LinkedHashMap" "keySet" "Ljava/util/Set;") a0 Z = true := hw _ (List.mem_of_getElem? (i := 227) rfl)
theorem own_w228 {Z : State} {a0 : Array Value} (hw : ∀ d ∈ tables_1, d.before a0 Z = true) : Jvm.Cond.before (Jvm.Cond.sameField "java/util/LinkedHashMap" "java/util/AbstractMap" "keySet" "Ljava/util/Set;") a0 Z = true := hw _ (List.mem_of_getElem? (i := 228) rfl)
theorem own_w229 {Z : State} {a0 : Array Value} (hw : ∀ d ∈ tables_1, d.before a0 Z = true) : Jvm.Cond.before (Jvm.Cond.lays "java/util/LinkedHashMap" "java/util/AbstractMap" "keySet" "Ljava/util/Set;") a0 Z = true := hw _ (List.mem_of_getElem? (i := 229) rfl)
theorem own_w230 {Z : State} {a0 : Array Value} (hw : ∀ d ∈ tables_1, d.before a0 Z = true) : Jvm.Cond.before (Jvm.Cond.classLink "java/util/LinkedHashMap" (121 : Nat) "java/util/LinkedHashMap$LinkedKeySet") a0 Z = true := hw _ (List.mem_of_getElem? (i := 230) rfl)
theorem own_w231 {Z : State} {a0 : Array Value} (hw : ∀ d ∈ tables_1, d.before a0 Z = true) : Jvm.Cond.before (Jvm.Cond.instantiable "java/util/LinkedHashMap$LinkedKeySet" (2 : Nat)) a0 Z = true := hw _ (List.mem_of_getElem? (i := 231) rfl)
theorem own_w232 {Z : State} {a0 : Array Value} (hw : ∀ d ∈ tables_1, d.before a0 Z = true) : Jvm.Cond.before (Jvm.Cond.initialized "java/util/LinkedHashMap$LinkedKeySet") a0 Z = true := hw _ (List.mem_of_getElem? (i := 232) rfl)
theorem own_w233 {Z : State} {a0 : Array Value} (hw : ∀ d ∈ tables_1, d.before a0 Z = true) : Jvm.Cond.before (Jvm.Cond.methodLink "java/util/LinkedHashMap" (123 : Nat) ({ cls := "java/util/LinkedHashMap$LinkedKeySet", name := "<init>", desc := "(Ljava/util/LinkedHashMap;Z)V" } : Jvm.MethodName)) a0 Z = true := hw _ (List.mem_of_getElem? (i := 233) rfl)
theorem own_w234 {Z : State} {a0 : Array Value} (hw : ∀ d ∈ tables_1, d.before a0 Z = true) : Jvm.Cond.before (Jvm.Cond.instanceMethod ({ cls := "java/util/LinkedHashMap$LinkedKeySet", name := "<init>", desc := "(Ljava/util/LinkedHashMap;Z)V" } : Jvm.MethodName)) a0 Z = true := hw _ (List.mem_of_getElem? (i := 234) rfl)
theorem own_w236 {Z : State} {a0 : Array Value} (hw : ∀ d ∈ tables_1, d.before a0 Z = true) : Jvm.Cond.before (Jvm.Cond.code ({ cls := "java/util/LinkedHashMap$LinkedKeySet", name := "<init>", desc := "(Ljava/util/LinkedHashMap;Z)V" } : Jvm.MethodName) jdk_112_method_1_code (3 : Nat) (Option.none : Option Jvm.ClassFile.FieldType)) a0 Z = true := hw _ (List.mem_of_getElem? (i := 236) rfl)
theorem own_w237 {Z : State} {a0 : Array Value} (hw : ∀ d ∈ tables_1, d.before a0 Z = true) : Jvm.Cond.before (Jvm.Cond.fieldLink "java/util/LinkedHashMap$LinkedKeySet" (1 : Nat) "java/util/LinkedHashMap$LinkedKeySet" "this$0" "Ljava/util/LinkedHashMap;") a0 Z = true := hw _ (List.mem_of_getElem? (i := 237) rfl)
theorem own_w238 {Z : State} {a0 : Array Value} (hw : ∀ d ∈ tables_1, d.before a0 Z = true) : Jvm.Cond.before (Jvm.Cond.laysFinal "java/util/LinkedHashMap$LinkedKeySet" "java/util/LinkedHashMap$LinkedKeySet" "this$0" "Ljava/util/LinkedHashMap;") a0 Z = true := hw _ (List.mem_of_getElem? (i := 238) rfl)
theorem own_w239 {Z : State} {a0 : Array Value} (hw : ∀ d ∈ tables_1, d.before a0 Z = true) : Jvm.Cond.before (Jvm.Cond.methodLink "java/util/LinkedHashMap$LinkedKeySet" (7 : Nat) ({ cls := "java/util/AbstractSet", name := "<init>", desc := "()V" } : Jvm.MethodName)) a0 Z = true := hw _ (List.mem_of_getElem? (i := 239) rfl)
theorem own_w242 {Z : State} {a0 : Array Value} (hw : ∀ d ∈ tables_1, d.before a0 Z = true) : Jvm.Cond.before (Jvm.Cond.fieldLink "java/util/LinkedHashMap$LinkedKeySet" (13 : Nat) "java/util/LinkedHashMap$LinkedKeySet" "reversed" "Z") a0 Z = true := hw _ (List.mem_of_getElem? (i := 242) rfl)
theorem own_w243 {Z : State} {a0 : Array Value} (hw : ∀ d ∈ tables_1, d.before a0 Z = true) : Jvm.Cond.before (Jvm.Cond.laysFinal "java/util/LinkedHashMap$LinkedKeySet" "java/util/LinkedHashMap$LinkedKeySet" "reversed" "Z") a0 Z = true := hw _ (List.mem_of_getElem? (i := 243) rfl)
theorem own_w244 {Z : State} {a0 : Array Value} (hw : ∀ d ∈ tables_1, d.before a0 Z = true) : Jvm.Cond.before (Jvm.Cond.methodLink "java/util/HashSet" (49 : Nat) ({ cls := "java/util/Set", name := "iterator", desc := "()Ljava/util/Iterator;" } : Jvm.MethodName)) a0 Z = true := hw _ (List.mem_of_getElem? (i := 244) rfl)
theorem own_w245 {Z : State} {a0 : Array Value} (hw : ∀ d ∈ tables_1, d.before a0 Z = true) : Jvm.Cond.before (Jvm.Cond.selects "java/util/LinkedHashMap$LinkedKeySet" ({ cls := "java/util/Set", name := "iterator", desc := "()Ljava/util/Iterator;" } : Jvm.MethodName) ({ cls := "java/util/LinkedHashMap$LinkedKeySet", name := "iterator", desc := "()Ljava/util/Iterator;" } : Jvm.MethodName)) a0 Z = true := hw _ (List.mem_of_getElem? (i := 245) rfl)
theorem own_w246 {Z : State} {a0 : Array Value} (hw : ∀ d ∈ tables_1, d.before a0 Z = true) : Jvm.Cond.before (Jvm.Cond.instanceMethod ({ cls := "java/util/LinkedHashMap$LinkedKeySet", name := "iterator", desc := "()Ljava/util/Iterator;" } : Jvm.MethodName)) a0 Z = true := hw _ (List.mem_of_getElem? (i := 246) rfl)
theorem own_w247 {Z : State} {a0 : Array Value} (hw : ∀ d ∈ tables_1, d.before a0 Z = true) : Jvm.Cond.before (Jvm.Cond.publicMethod ({ cls := "java/util/LinkedHashMap$LinkedKeySet", name := "iterator", desc := "()Ljava/util/Iterator;" } : Jvm.MethodName)) a0 Z = true := hw _ (List.mem_of_getElem? (i := 247) rfl)
theorem own_w248 {Z : State} {a0 : Array Value} (hw : ∀ d ∈ tables_1, d.before a0 Z = true) : Jvm.Cond.before (Jvm.Cond.unhidden "java/util/LinkedHashMap$LinkedKeySet" "iterator" "()Ljava/util/Iterator;") a0 Z = true := hw _ (List.mem_of_getElem? (i := 248) rfl)
theorem own_w249 {Z : State} {a0 : Array Value} (hw : ∀ d ∈ tables_1, d.before a0 Z = true) : Jvm.Cond.before (Jvm.Cond.castable "java/util/LinkedHashMap$LinkedKeySet" "java/util/Set") a0 Z = true := hw _ (List.mem_of_getElem? (i := 249) rfl)
theorem own_w250 {Z : State} {a0 : Array Value} (hw : ∀ d ∈ tables_1, d.before a0 Z = true) : Jvm.Cond.before (Jvm.Cond.code ({ cls := "java/util/LinkedHashMap$LinkedKeySet", name := "iterator", desc := "()Ljava/util/Iterator;" } : Jvm.MethodName) jdk_112_method_4_code (1 : Nat) (Option.some (Jvm.ClassFile.FieldType.object "java/util/Iterator"))) a0 Z = true := hw _ (List.mem_of_getElem? (i := 250) rfl)
theorem own_w251 {Z : State} {a0 : Array Value} (hw : ∀ d ∈ tables_1, d.before a0 Z = true) : Jvm.Cond.before (Jvm.Cond.classLink "java/util/LinkedHashMap$LinkedKeySet" (26 : Nat) "java/util/LinkedHashMap$LinkedKeyIterator") a0 Z = true := hw _ (List.mem_of_getElem? (i := 251) rfl)
theorem own_w252 {Z : State} {a0 : Array Value} (hw : ∀ d ∈ tables_1, d.before a0 Z = true) : Jvm.Cond.before (Jvm.Cond.instantiable "java/util/LinkedHashMap$LinkedKeyIterator" (5 : Nat)) a0 Z = true := hw _ (List.mem_of_getElem? (i := 252) rfl)
theorem own_w253 {Z : State} {a0 : Array Value} (hw : ∀ d ∈ tables_1, d.before a0 Z = true) : Jvm.Cond.before (Jvm.Cond.initialized "java/util/LinkedHashMap$LinkedKeyIterator") a0 Z = true := hw _ (List.mem_of_getElem? (i := 253) rfl)
theorem own_w254 {Z : State} {a0 : Array Value} (hw : ∀ d ∈ tables_1, d.before a0 Z = true) : Jvm.Cond.before (Jvm.Cond.methodLink "java/util/LinkedHashMap$LinkedKeySet" (28 : Nat) ({ cls := "java/util/LinkedHashMap$LinkedKeyIterator", name := "<init>", desc := "(Ljava/util/LinkedHashMap;Z)V" } : Jvm.MethodName)) a0 Z = true := hw _ (List.mem_of_getElem? (i := 254) rfl)
theorem own_w255 {Z : State} {a0 : Array Value} (hw : ∀ d ∈ tables_1, d.before a0 Z = true) : Jvm.Cond.before (Jvm.Cond.instanceMethod ({ cls := "java/util/LinkedHashMap$LinkedKeyIterator", name := "<init>", desc := "(Ljava/util/LinkedHashMap;Z)V" } : Jvm.MethodName)) a0 Z = true := hw _ (List.mem_of_getElem? (i := 255) rfl)
theorem own_w257 {Z : State} {a0 : Array Value} (hw : ∀ d ∈ tables_1, d.before a0 Z = true) : Jvm.Cond.before (Jvm.Cond.code ({ cls := "java/util/LinkedHashMap$LinkedKeyIterator", name := "<init>", desc := "(Ljava/util/LinkedHashMap;Z)V" } : Jvm.MethodName) jdk_2617_method_1_code (3 : Nat) (Option.none : Option Jvm.ClassFile.FieldType)) a0 Z = true := hw _ (List.mem_of_getElem? (i := 257) rfl)
theorem own_w258 {Z : State} {a0 : Array Value} (hw : ∀ d ∈ tables_1, d.before a0 Z = true) : Jvm.Cond.before (Jvm.Cond.methodLink "java/util/LinkedHashMap$LinkedKeyIterator" (1 : Nat) ({ cls := "java/util/LinkedHashMap$LinkedHashIterator", name := "<init>", desc := "(Ljava/util/LinkedHashMap;Z)V" } : Jvm.MethodName)) a0 Z = true := hw _ (List.mem_of_getElem? (i := 258) rfl)
theorem own_w259 {Z : State} {a0 : Array Value} (hw : ∀ d ∈ tables_1, d.before a0 Z = true) : Jvm.Cond.before (Jvm.Cond.instanceMethod ({ cls := "java/util/LinkedHashMap$LinkedHashIterator", name := "<init>", desc := "(Ljava/util/LinkedHashMap;Z)V" } : Jvm.MethodName)) a0 Z = true := hw _ (List.mem_of_getElem? (i := 259) rfl)
theorem own_w262 {Z : State} {a0 : Array Value} (hw : ∀ d ∈ tables_1, d.before a0 Z = true) : Jvm.Cond.before (Jvm.Cond.initialized "java/util/LinkedHashMap$LinkedHashIterator") a0 Z = true := hw _ (List.mem_of_getElem? (i := 262) rfl)
theorem own_w263 {Z : State} {a0 : Array Value} (hw : ∀ d ∈ tables_1, d.before a0 Z = true) : Jvm.Cond.before (Jvm.Cond.code ({ cls := "java/util/LinkedHashMap$LinkedHashIterator", name := "<init>", desc := "(Ljava/util/LinkedHashMap;Z)V" } : Jvm.MethodName) jdk_2616_method_1_code (3 : Nat) (Option.none : Option Jvm.ClassFile.FieldType)) a0 Z = true := hw _ (List.mem_of_getElem? (i := 263) rfl)
theorem own_w264 {Z : State} {a0 : Array Value} (hw : ∀ d ∈ tables_1, d.before a0 Z = true) : Jvm.Cond.before (Jvm.Cond.fieldLink "java/util/LinkedHashMap$LinkedHashIterator" (1 : Nat) "java/util/LinkedHashMap$LinkedHashIterator" "this$0" "Ljava/util/LinkedHashMap;") a0 Z = true := hw _ (List.mem_of_getElem? (i := 264) rfl)
theorem own_w265 {Z : State} {a0 : Array Value} (hw : ∀ d ∈ tables_1, d.before a0 Z = true) : Jvm.Cond.before (Jvm.Cond.laysFinal "java/util/LinkedHashMap$LinkedKeyIterator" "java/util/LinkedHashMap$LinkedHashIterator" "this$0" "Ljava/util/LinkedHashMap;") a0 Z = true := hw _ (List.mem_of_getElem? (i := 265) rfl)
theorem own_w266 {Z : State} {a0 : Array Value} (hw : ∀ d ∈ tables_1, d.before a0 Z = true) : Jvm.Cond.before (Jvm.Cond.methodLink "java/util/LinkedHashMap$LinkedHashIterator" (7 : Nat) ({ cls := "java/lang/Object", name := "<init>", desc := "()V" } : Jvm.MethodName)) a0 Z = true := hw _ (List.mem_of_getElem? (i := 266) rfl)
theorem own_w267 {Z : State} {a0 : Array Value} (hw : ∀ d ∈ tables_1, d.before a0 Z = true) : Jvm.Cond.before (Jvm.Cond.fieldLink "java/util/LinkedHashMap$LinkedHashIterator" (13 : Nat) "java/util/LinkedHashMap$LinkedHashIterator" "reversed" "Z") a0 Z = true := hw _ (List.mem_of_getElem? (i := 267) rfl)
theorem own_w268 {Z : State} {a0 : Array Value} (hw : ∀ d ∈ tables_1, d.before a0 Z = true) : Jvm.Cond.before (Jvm.Cond.lays "java/util/LinkedHashMap$LinkedKeyIterator" "java/util/LinkedHashMap$LinkedHashIterator" "reversed" "Z") a0 Z = true := hw _ (List.mem_of_getElem? (i := 268) rfl)
theorem own_w269 {Z : State} {a0 : Array Value} (hw : ∀ d ∈ tables_1, d.before a0 Z = true) : Jvm.Cond.before (Jvm.Cond.fieldLink "java/util/LinkedHashMap$LinkedHashIterator" (23 : Nat) "java/util/LinkedHashMap" "head" "Ljava/util/LinkedHashMap$Entry;") a0 Z = true := hw _ (List.mem_of_getElem? (i := 269) rfl)
theorem own_w270 {Z : State} {a0 : Array Value} (hw : ∀ d ∈ tables_1, d.before a0 Z = true) : Jvm.Cond.before (Jvm.Cond.lays "java/util/LinkedHashMap" "java/util/LinkedHashMap" "head" "Ljava/util/LinkedHashMap$Entry;") a0 Z = true := hw _ (List.mem_of_getElem? (i := 270) rfl)
theorem own_w271 {Z : State} {a0 : Array Value} (hw : ∀ d ∈ tables_1, d.before a0 Z = true) : Jvm.Cond.before (Jvm.Cond.fieldLink "java/util/LinkedHashMap$LinkedHashIterator" (26 : Nat) "java/util/LinkedHashMap$LinkedHashIterator" "next" "Ljava/util/LinkedHashMap$Entry;") a0 Z = true := hw _ (List.mem_of_getElem? (i := 271) rfl)
theorem own_w272 {Z : State} {a0 : Array Value} (hw : ∀ d ∈ tables_1, d.before a0 Z = true) : Jvm.Cond.before (Jvm.Cond.lays "java/util/LinkedHashMap$LinkedKeyIterator" "java/util/LinkedHashMap$LinkedHashIterator" "next" "Ljava/util/LinkedHashMap$Entry;") a0 Z = true := hw _ (List.mem_of_getElem? (i := 272) rfl)
theorem own_w273 {Z : State} {a0 : Array Value} (hw : ∀ d ∈ tables_1, d.before a0 Z = true) : Jvm.Cond.before (Jvm.Cond.fieldLink "java/util/LinkedHashMap$LinkedHashIterator" (29 : Nat) "java/util/LinkedHashMap" "modCount" "I") a0 Z = true := hw _ (List.mem_of_getElem? (i := 273) rfl)
theorem own_w274 {Z : State} {a0 : Array Value} (hw : ∀ d ∈ tables_1, d.before a0 Z = true) : Jvm.Cond.before (Jvm.Cond.sameField "java/util/LinkedHashMap" "java/util/HashMap" "modCount" "I") a0 Z = true := hw _ (List.mem_of_getElem? (i := 274) rfl)
theorem own_w275 {Z : State} {a0 : Array Value} (hw : ∀ d ∈ tables_1, d.before a0 Z = true) : Jvm.Cond.before (Jvm.Cond.lays "java/util/LinkedHashMap" "java/util/HashMap" "modCount" "I") a0 Z = true := hw _ (List.mem_of_getElem? (i := 275) rfl)
theorem own_w276 {Z : State} {a0 : Array Value} (hw : ∀ d ∈ tables_1, d.before a0 Z = true) : Jvm.Cond.before (Jvm.Cond.fieldLink "java/util/LinkedHashMap$LinkedHashIterator" (33 : Nat) "java/util/LinkedHashMap$LinkedHashIterator" "expectedModCount" "I") a0 Z = true := hw _ (List.mem_of_getElem? (i := 276) rfl)
theorem own_w277 {Z : State} {a0 : Array Value} (hw : ∀ d ∈ tables_1, d.before a0 Z = true) : Jvm.Cond.before (Jvm.Cond.lays "java/util/LinkedHashMap$LinkedKeyIterator" "java/util/LinkedHashMap$LinkedHashIterator" "expectedModCount" "I") a0 Z = true := hw _ (List.mem_of_getElem? (i := 277) rfl)
theorem own_w278 {Z : State} {a0 : Array Value} (hw : ∀ d ∈ tables_1, d.before a0 Z = true) : Jvm.Cond.before (Jvm.Cond.fieldLink "java/util/LinkedHashMap$LinkedHashIterator" (36 : Nat) "java/util/LinkedHashMap$LinkedHashIterator" "current" "Ljava/util/LinkedHashMap$Entry;") a0 Z = true := hw _ (List.mem_of_getElem? (i := 278) rfl)
theorem own_w279 {Z : State} {a0 : Array Value} (hw : ∀ d ∈ tables_1, d.before a0 Z = true) : Jvm.Cond.before (Jvm.Cond.lays "java/util/LinkedHashMap$LinkedKeyIterator" "java/util/LinkedHashMap$LinkedHashIterator" "current" "Ljava/util/LinkedHashMap$Entry;") a0 Z = true := hw _ (List.mem_of_getElem? (i := 279) rfl)
theorem own_w280 {Z : State} {a0 : Array Value} (hw : ∀ d ∈ tables_1, d.before a0 Z = true) : Jvm.Cond.before (Jvm.Cond.methodLink own_TT (69 : Nat) ({ cls := "java/util/Iterator", name := "hasNext", desc := "()Z" } : Jvm.MethodName)) a0 Z = true := hw _ (List.mem_of_getElem? (i := 280) rfl)
theorem own_w281 {Z : State} {a0 : Array Value} (hw : ∀ d ∈ tables_1, d.before a0 Z = true) : Jvm.Cond.before (Jvm.Cond.declares ({ cls := "java/util/Iterator", name := "hasNext", desc := "()Z" } : Jvm.MethodName)) a0 Z = true := hw _ (List.mem_of_getElem? (i := 281) rfl)
theorem own_w282 {Z : State} {a0 : Array Value} (hw : ∀ d ∈ tables_1, d.before a0 Z = true) : Jvm.Cond.before (Jvm.Cond.interfaceMethod "java/util/Iterator" "java/util/Iterator" "hasNext" "()Z") a0 Z = true := hw _ (List.mem_of_getElem? (i := 282) rfl)
theorem own_w283 {Z : State} {a0 : Array Value} (hw : ∀ d ∈ tables_1, d.before a0 Z = true) : Jvm.Cond.before (Jvm.Cond.selects "java/util/LinkedHashMap$LinkedKeyIterator" ({ cls := "java/util/Iterator", name := "hasNext", desc := "()Z" } : Jvm.MethodName) ({ cls := "java/util/LinkedHashMap$LinkedHashIterator", name := "hasNext", desc := "()Z" } : Jvm.MethodName)) a0 Z = true := hw _ (List.mem_of_getElem? (i := 283) rfl)
theorem own_w284 {Z : State} {a0 : Array Value} (hw : ∀ d ∈ tables_1, d.before a0 Z = true) : Jvm.Cond.before (Jvm.Cond.instanceMethod ({ cls := "java/util/LinkedHashMap$LinkedHashIterator", name := "hasNext", desc := "()Z" } : Jvm.MethodName)) a0 Z = true := hw _ (List.mem_of_getElem? (i := 284) rfl)
theorem own_w285 {Z : State} {a0 : Array Value} (hw : ∀ d ∈ tables_1, d.before a0 Z = true) : Jvm.Cond.before (Jvm.Cond.publicMethod ({ cls := "java/util/LinkedHashMap$LinkedHashIterator", name := "hasNext", desc := "()Z" } : Jvm.MethodName)) a0 Z = true := hw _ (List.mem_of_getElem? (i := 285) rfl)
theorem own_w286 {Z : State} {a0 : Array Value} (hw : ∀ d ∈ tables_1, d.before a0 Z = true) : Jvm.Cond.before (Jvm.Cond.unhidden "java/util/LinkedHashMap$LinkedKeyIterator" "hasNext" "()Z") a0 Z = true := hw _ (List.mem_of_getElem? (i := 286) rfl)
theorem own_w287 {Z : State} {a0 : Array Value} (hw : ∀ d ∈ tables_1, d.before a0 Z = true) : Jvm.Cond.before (Jvm.Cond.castable "java/util/LinkedHashMap$LinkedKeyIterator" "java/util/Iterator") a0 Z = true := hw _ (List.mem_of_getElem? (i := 287) rfl)
theorem own_w288 {Z : State} {a0 : Array Value} (hw : ∀ d ∈ tables_1, d.before a0 Z = true) : Jvm.Cond.before (Jvm.Cond.code ({ cls := "java/util/LinkedHashMap$LinkedHashIterator", name := "hasNext", desc := "()Z" } : Jvm.MethodName) jdk_2616_method_2_code (1 : Nat) (Option.some Jvm.ClassFile.FieldType.boolean)) a0 Z = true := hw _ (List.mem_of_getElem? (i := 288) rfl)
theorem own_w289 {Z : State} {a0 : Array Value} (hw : ∀ d ∈ tables_1, d.before a0 Z = true) : Jvm.Cond.before (Jvm.Cond.classLink own_TT (83 : Nat) own_MB) a0 Z = true := hw _ (List.mem_of_getElem? (i := 289) rfl)
theorem own_w290 {Z : State} {a0 : Array Value} (hw : ∀ d ∈ tables_1, d.before a0 Z = true) : Jvm.Cond.before (Jvm.Cond.instantiable own_MB (2 : Nat)) a0 Z = true := hw _ (List.mem_of_getElem? (i := 290) rfl)
theorem own_w291 {Z : State} {a0 : Array Value} (hw : ∀ d ∈ tables_1, d.before a0 Z = true) : Jvm.Cond.before (Jvm.Cond.initialized own_MB) a0 Z = true := hw _ (List.mem_of_getElem? (i := 291) rfl)
theorem own_w292 {Z : State} {a0 : Array Value} (hw : ∀ d ∈ tables_1, d.before a0 Z = true) : Jvm.Cond.before (Jvm.Cond.methodLink own_TT (85 : Nat) ({ cls := own_MB, name := "<init>", desc := "([I[I)V" } : Jvm.MethodName)) a0 Z = true := hw _ (List.mem_of_getElem? (i := 292) rfl)
theorem own_w293 {Z : State} {a0 : Array Value} (hw : ∀ d ∈ tables_1, d.before a0 Z = true) : Jvm.Cond.before (Jvm.Cond.instanceMethod ({ cls := own_MB, name := "<init>", desc := "([I[I)V" } : Jvm.MethodName)) a0 Z = true := hw _ (List.mem_of_getElem? (i := 293) rfl)
theorem own_w294 {Z : State} {a0 : Array Value} (hw : ∀ d ∈ tables_1, d.before a0 Z = true) : Jvm.Cond.before (Jvm.Cond.code ({ cls := own_MB, name := "<init>", desc := "([I[I)V" } : Jvm.MethodName) prog_20_method_1_code (3 : Nat) (Option.none : Option Jvm.ClassFile.FieldType)) a0 Z = true := hw _ (List.mem_of_getElem? (i := 294) rfl)
theorem own_w295 {Z : State} {a0 : Array Value} (hw : ∀ d ∈ tables_1, d.before a0 Z = true) : Jvm.Cond.before (Jvm.Cond.methodLink own_MB (1 : Nat) ({ cls := "java/lang/Record", name := "<init>", desc := "()V" } : Jvm.MethodName)) a0 Z = true := hw _ (List.mem_of_getElem? (i := 295) rfl)
theorem own_w296 {Z : State} {a0 : Array Value} (hw : ∀ d ∈ tables_1, d.before a0 Z = true) : Jvm.Cond.before (Jvm.Cond.instanceMethod ({ cls := "java/lang/Record", name := "<init>", desc := "()V" } : Jvm.MethodName)) a0 Z = true := hw _ (List.mem_of_getElem? (i := 296) rfl)
theorem own_w298 {Z : State} {a0 : Array Value} (hw : ∀ d ∈ tables_1, d.before a0 Z = true) : Jvm.Cond.before (Jvm.Cond.initialized "java/lang/Record") a0 Z = true := hw _ (List.mem_of_getElem? (i := 298) rfl)
theorem own_w299 {Z : State} {a0 : Array Value} (hw : ∀ d ∈ tables_1, d.before a0 Z = true) : Jvm.Cond.before (Jvm.Cond.code ({ cls := "java/lang/Record", name := "<init>", desc := "()V" } : Jvm.MethodName) jdk_30_method_1_code (1 : Nat) (Option.none : Option Jvm.ClassFile.FieldType)) a0 Z = true := hw _ (List.mem_of_getElem? (i := 299) rfl)
theorem own_w300 {Z : State} {a0 : Array Value} (hw : ∀ d ∈ tables_1, d.before a0 Z = true) : Jvm.Cond.before (Jvm.Cond.methodLink "java/lang/Record" (1 : Nat) ({ cls := "java/lang/Object", name := "<init>", desc := "()V" } : Jvm.MethodName)) a0 Z = true := hw _ (List.mem_of_getElem? (i := 300) rfl)
theorem own_w301 {Z : State} {a0 : Array Value} (hw : ∀ d ∈ tables_1, d.before a0 Z = true) : Jvm.Cond.before (Jvm.Cond.fieldLink own_MB (7 : Nat) own_MB "triples" "[I") a0 Z = true := hw _ (List.mem_of_getElem? (i := 301) rfl)
theorem own_w302 {Z : State} {a0 : Array Value} (hw : ∀ d ∈ tables_1, d.before a0 Z = true) : Jvm.Cond.before (Jvm.Cond.laysFinal own_MB own_MB "triples" "[I") a0 Z = true := hw _ (List.mem_of_getElem? (i := 302) rfl)
theorem own_w303 {Z : State} {a0 : Array Value} (hw : ∀ d ∈ tables_1, d.before a0 Z = true) : Jvm.Cond.before (Jvm.Cond.fieldLink own_MB (13 : Nat) own_MB "graphs" "[I") a0 Z = true := hw _ (List.mem_of_getElem? (i := 303) rfl)
theorem own_w304 {Z : State} {a0 : Array Value} (hw : ∀ d ∈ tables_1, d.before a0 Z = true) : Jvm.Cond.before (Jvm.Cond.laysFinal own_MB own_MB "graphs" "[I") a0 Z = true := hw _ (List.mem_of_getElem? (i := 304) rfl)
theorem own_w305 {Z : State} {a0 : Array Value} (hw : ∀ d ∈ tables_1, d.before a0 Z = true) : Jvm.Cond.before (Jvm.Cond.fieldLink own_RG (45 : Nat) own_RG "linkMemberships" "Lcom/example/weser/weser/core/Memberships;") a0 Z = true := hw _ (List.mem_of_getElem? (i := 305) rfl)
theorem own_w306 {Z : State} {a0 : Array Value} (hw : ∀ d ∈ tables_1, d.before a0 Z = true) : Jvm.Cond.before (Jvm.Cond.laysFinal own_RG own_RG "linkMemberships" "Lcom/example/weser/weser/core/Memberships;") a0 Z = true := hw _ (List.mem_of_getElem? (i := 306) rfl)
theorem own_w307 {Z : State} {a0 : Array Value} (hw : ∀ d ∈ tables_1, d.before a0 Z = true) : Jvm.Cond.before (Jvm.Cond.fieldLink own_RG (49 : Nat) own_RG "literalSubjects" "[I") a0 Z = true := hw _ (List.mem_of_getElem? (i := 307) rfl)
theorem own_w308 {Z : State} {a0 : Array Value} (hw : ∀ d ∈ tables_1, d.before a0 Z = true) : Jvm.Cond.before (Jvm.Cond.laysFinal own_RG own_RG "literalSubjects" "[I") a0 Z = true := hw _ (List.mem_of_getElem? (i := 308) rfl)
theorem own_w309 {Z : State} {a0 : Array Value} (hw : ∀ d ∈ tables_1, d.before a0 Z = true) : Jvm.Cond.before (Jvm.Cond.fieldLink own_RG (52 : Nat) own_RG "literalPredicates" "[I") a0 Z = true := hw _ (List.mem_of_getElem? (i := 309) rfl)
theorem own_w310 {Z : State} {a0 : Array Value} (hw : ∀ d ∈ tables_1, d.before a0 Z = true) : Jvm.Cond.before (Jvm.Cond.laysFinal own_RG own_RG "literalPredicates" "[I") a0 Z = true := hw _ (List.mem_of_getElem? (i := 310) rfl)
theorem own_w311 {Z : State} {a0 : Array Value} (hw : ∀ d ∈ tables_1, d.before a0 Z = true) : Jvm.Cond.before (Jvm.Cond.classLink "java/util/LinkedHashMap" (126 : Nat) "java/util/SequencedSet") a0 Z = true := hw _ (List.mem_of_getElem? (i := 311) rfl)
theorem own_w312 {Z : State} {a0 : Array Value} (hw : ∀ d ∈ tables_1, d.before a0 Z = true) : Jvm.Cond.before (Jvm.Cond.castable "java/util/LinkedHashMap$LinkedKeySet" "java/util/SequencedSet") a0 Z = true := hw _ (List.mem_of_getElem? (i := 312) rfl)
theorem own_w313 {Z : State} {a0 : Array Value} (hw : ∀ d ∈ tables_1, d.before a0 Z = true) : Jvm.Cond.before (Jvm.Cond.fieldLink own_RG (55 : Nat) own_RG "literalMemberships" "Lcom/example/weser/weser/core/Memberships;") a0 Z = true := hw _ (List.mem_of_getElem? (i := 313) rfl)
theorem own_w314 {Z : State} {a0 : Array Value} (hw : ∀ d ∈ tables_1, d.before a0 Z = true) : Jvm.Cond.before (Jvm.Cond.laysFinal own_RG own_RG "literalMemberships" "Lcom/example/weser/weser/core/Memberships;") a0 Z = true := hw _ (List.mem_of_getElem? (i := 314) rfl)
theorem own_w315 {Z : State} {a0 : Array Value} (hw : ∀ d ∈ tables_1, d.before a0 Z = true) : Jvm.Cond.before (Jvm.Cond.fieldLink own_RG (58 : Nat) own_RG "literalObjects" "[I") a0 Z = true := hw _ (List.mem_of_getElem? (i := 315) rfl)
theorem own_w316 {Z : State} {a0 : Array Value} (hw : ∀ d ∈ tables_1, d.before a0 Z = true) : Jvm.Cond.before (Jvm.Cond.laysFinal own_RG own_RG "literalObjects" "[I") a0 Z = true := hw _ (List.mem_of_getElem? (i := 316) rfl)
theorem own_w317 {Z : State} {a0 : Array Value} (hw : ∀ d ∈ tables_1, d.before a0 Z = true) : Jvm.Cond.before (Jvm.Cond.fieldLink own_RG (61 : Nat) own_RG "lexicalForms" "[Ljava/lang/String;") a0 Z = true := hw _ (List.mem_of_getElem? (i := 317) rfl)
theorem own_w318 {Z : State} {a0 : Array Value} (hw : ∀ d ∈ tables_1, d.before a0 Z = true) : Jvm.Cond.before (Jvm.Cond.laysFinal own_RG own_RG "lexicalForms" "[Ljava/lang/String;") a0 Z = true := hw _ (List.mem_of_getElem? (i := 318) rfl)
theorem own_w319 {Z : State} {a0 : Array Value} (hw : ∀ d ∈ tables_1, d.before a0 Z = true) : Jvm.Cond.before (Jvm.Cond.fieldLink own_RG (64 : Nat) own_RG "prefixes" "Lcom/example/weser/weser/core/Prefixes;") a0 Z = true := hw _ (List.mem_of_getElem? (i := 319) rfl)
theorem own_w320 {Z : State} {a0 : Array Value} (hw : ∀ d ∈ tables_1, d.before a0 Z = true) : Jvm.Cond.before (Jvm.Cond.laysFinal own_RG own_RG "prefixes" "Lcom/example/weser/weser/core/Prefixes;") a0 Z = true := hw _ (List.mem_of_getElem? (i := 320) rfl)
theorem own_w321 {Z : State} {a0 : Array Value} (hw : ∀ d ∈ tables_1, d.before a0 Z = true) : Jvm.Cond.before (Jvm.Cond.methodLink x.cls (34 : Nat) ({ cls := own_RG, name := "node", desc := "(Ljava/lang/String;)I" } : Jvm.MethodName)) a0 Z = true := hw _ (List.mem_of_getElem? (i := 321) rfl)
theorem own_w322 {Z : State} {a0 : Array Value} (hw : ∀ d ∈ tables_1, d.before a0 Z = true) : Jvm.Cond.before (Jvm.Cond.declares ({ cls := own_RG, name := "node", desc := "(Ljava/lang/String;)I" } : Jvm.MethodName)) a0 Z = true := hw _ (List.mem_of_getElem? (i := 322) rfl)
theorem own_w323 {Z : State} {a0 : Array Value} (hw : ∀ d ∈ tables_1, d.before a0 Z = true) : Jvm.Cond.before (Jvm.Cond.instanceMethod ({ cls := own_RG, name := "node", desc := "(Ljava/lang/String;)I" } : Jvm.MethodName)) a0 Z = true := hw _ (List.mem_of_getElem? (i := 323) rfl)
theorem own_w324 {Z : State} {a0 : Array Value} (hw : ∀ d ∈ tables_1, d.before a0 Z = true) : Jvm.Cond.before (Jvm.Cond.selects own_RG ({ cls := own_RG, name := "node", desc := "(Ljava/lang/String;)I" } : Jvm.MethodName) ({ cls := own_RG, name := "node", desc := "(Ljava/lang/String;)I" } : Jvm.MethodName)) a0 Z = true := hw _ (List.mem_of_getElem? (i := 324) rfl)
theorem own_w325 {Z : State} {a0 : Array Value} (hw : ∀ d ∈ tables_1, d.before a0 Z = true) : Jvm.Cond.before (Jvm.Cond.code ({ cls := own_RG, name := "node", desc := "(Ljava/lang/String;)I" } : Jvm.MethodName) prog_29_method_8_code (4 : Nat) (Option.some Jvm.ClassFile.FieldType.int)) a0 Z = true := hw _ (List.mem_of_getElem? (i := 325) rfl)
theorem own_w326 {Z : State} {a0 : Array Value} (hw : ∀ d ∈ tables_1, d.before a0 Z = true) : Jvm.Cond.before (Jvm.Cond.methodLink x.cls (30 : Nat) ({ cls := x.cls, name := "matches", desc := "(ICI)Z" } : Jvm.MethodName)) a0 Z = true := hw _ (List.mem_of_getElem? (i := 326) rfl)
theorem own_w327 {Z : State} {a0 : Array Value} (hw : ∀ d ∈ tables_1, d.before a0 Z = true) : Jvm.Cond.before (Jvm.Cond.static ({ cls := x.cls, name := "matches", desc := "(ICI)Z" } : Jvm.MethodName)) a0 Z = true := hw _ (List.mem_of_getElem? (i := 327) rfl)
theorem own_w328 {Z : State} {a0 : Array Value} (hw : ∀ d ∈ tables_1, d.before a0 Z = true) : Jvm.Cond.before (Jvm.Cond.code ({ cls := x.cls, name := "matches", desc := "(ICI)Z" } : Jvm.MethodName) method_4_code (3 : Nat) (Option.some Jvm.ClassFile.FieldType.boolean)) a0 Z = true := hw _ (List.mem_of_getElem? (i := 328) rfl)
theorem own_w329 {Z : State} {a0 : Array Value} (hw : ∀ d ∈ tables_1, d.before a0 Z = true) : Jvm.Cond.before (Jvm.Cond.methodLink own_RG (68 : Nat) ({ cls := "java/lang/String", name := "equals", desc := "(Ljava/lang/Object;)Z" } : Jvm.MethodName)) a0 Z = true := hw _ (List.mem_of_getElem? (i := 329) rfl)
theorem own_w330 {Z : State} {a0 : Array Value} (hw : ∀ d ∈ tables_1, d.before a0 Z = true) : Jvm.Cond.before (Jvm.Cond.declares ({ cls := "java/lang/String", name := "equals", desc := "(Ljava/lang/Object;)Z" } : Jvm.MethodName)) a0 Z = true := hw _ (List.mem_of_getElem? (i := 330) rfl)
theorem own_w331 {Z : State} {a0 : Array Value} (hw : ∀ d ∈ tables_1, d.before a0 Z = true) : Jvm.Cond.before (Jvm.Cond.instanceMethod ({ cls := "java/lang/String", name := "equals", desc := "(Ljava/lang/Object;)Z" } : Jvm.MethodName)) a0 Z = true := hw _ (List.mem_of_getElem? (i := 331) rfl)
theorem own_w332 {Z : State} {a0 : Array Value} (hw : ∀ d ∈ tables_1, d.before a0 Z = true) : Jvm.Cond.before (Jvm.Cond.selects "java/lang/String" ({ cls := "java/lang/String", name := "equals", desc := "(Ljava/lang/Object;)Z" } : Jvm.MethodName) ({ cls := "java/lang/String", name := "equals", desc := "(Ljava/lang/Object;)Z" } : Jvm.MethodName)) a0 Z = true := hw _ (List.mem_of_getElem? (i := 332) rfl)
theorem own_w333 {Z : State} {a0 : Array Value} (hw : ∀ d ∈ tables_1, d.before a0 Z = true) : Jvm.Cond.before (Jvm.Cond.code ({ cls := "java/lang/String", name := "equals", desc := "(Ljava/lang/Object;)Z" } : Jvm.MethodName) jdk_42_method_66_code (3 : Nat) (Option.some Jvm.ClassFile.FieldType.boolean)) a0 Z = true := hw _ (List.mem_of_getElem? (i := 333) rfl)
theorem own_w334 {Z : State} {a0 : Array Value} (hw : ∀ d ∈ tables_1, d.before a0 Z = true) : Jvm.Cond.before (Jvm.Cond.arrayClass Jvm.ClassFile.FieldType.char) a0 Z = true := hw _ (List.mem_of_getElem? (i := 334) rfl)
theorem own_w335 {Z : State} {a0 : Array Value} (hw : ∀ d ∈ tables_1, d.before a0 Z = true) : Jvm.Cond.before (Jvm.Cond.methodLink x.cls (38 : Nat) ({ cls := "java/lang/String", name := "<init>", desc := "([C)V" } : Jvm.MethodName)) a0 Z = true := hw _ (List.mem_of_getElem? (i := 335) rfl)
theorem own_w336 {Z : State} {a0 : Array Value} (hw : ∀ d ∈ tables_1, d.before a0 Z = true) : Jvm.Cond.before (Jvm.Cond.instanceMethod ({ cls := "java/lang/String", name := "<init>", desc := "([C)V" } : Jvm.MethodName)) a0 Z = true := hw _ (List.mem_of_getElem? (i := 336) rfl)
theorem own_w337 {Z : State} {a0 : Array Value} (hw : ∀ d ∈ tables_1, d.before a0 Z = true) : Jvm.Cond.before (Jvm.Cond.code ({ cls := "java/lang/String", name := "<init>", desc := "([C)V" } : Jvm.MethodName) jdk_42_method_3_code (2 : Nat) (Option.none : Option Jvm.ClassFile.FieldType)) a0 Z = true := hw _ (List.mem_of_getElem? (i := 337) rfl)
theorem own_w351 {Z : State} {a0 : Array Value} (hw : ∀ d ∈ tables_1, d.before a0 Z = true) : Jvm.Cond.before (Jvm.Cond.methodLink "java/lang/String" (541 : Nat) ({ cls := "java/lang/StringLatin1", name := "equals", desc := "([B[B)Z" } : Jvm.MethodName)) a0 Z = true := hw _ (List.mem_of_getElem? (i := 351) rfl)
theorem own_w352 {Z : State} {a0 : Array Value} (hw : ∀ d ∈ tables_1, d.before a0 Z = true) : Jvm.Cond.before (Jvm.Cond.static ({ cls := "java/lang/StringLatin1", name := "equals", desc := "([B[B)Z" } : Jvm.MethodName)) a0 Z = true := hw _ (List.mem_of_getElem? (i := 352) rfl)
theorem own_w353 {Z : State} {a0 : Array Value} (hw : ∀ d ∈ tables_1, d.before a0 Z = true) : Jvm.Cond.before (Jvm.Cond.code ({ cls := "java/lang/StringLatin1", name := "equals", desc := "([B[B)Z" } : Jvm.MethodName) jdk_43_method_13_code (3 : Nat) (Option.some Jvm.ClassFile.FieldType.boolean)) a0 Z = true := hw _ (List.mem_of_getElem? (i := 353) rfl)
theorem pd_0 : parseMethodDescriptor "()V" = some ⟨[], none⟩ := by decide +kernel
theorem pd_1 : parseMethodDescriptor "(I)I" = some ⟨[.int], some .int⟩ := by decide +kernel
theorem pd_2 : parseMethodDescriptor "(F)Z" = some ⟨[.float], some .boolean⟩ := by decide +kernel
theorem pd_3 : parseMethodDescriptor "(IF)V" = some ⟨[.int, .float], none⟩ := by decide +kernel
theorem pd_4 : parseMethodDescriptor "(IFZ)V" = some ⟨[.int, .float, .boolean], none⟩ := by decide +kernel
theorem pd_5 : parseMethodDescriptor "(II)I" = some ⟨[.int, .int], some .int⟩ := by decide +kernel
theorem pd_6 : parseMethodDescriptor "([II)[I" = some ⟨[(.array .int), .int], some (.array .int)⟩ := by decide +kernel
theorem pd_7 : parseMethodDescriptor "()I" = some ⟨[], some .int⟩ := by decide +kernel
theorem pd_8 : parseMethodDescriptor "(Ljava/util/LinkedHashMap;Z)V" = some ⟨[(.object "java/util/LinkedHashMap"), .boolean], none⟩ := by decide +kernel
theorem pd_9 : parseMethodDescriptor "()Ljava/util/SequencedSet;" = some ⟨[], some (.object "java/util/SequencedSet")⟩ := by decide +kernel
theorem pd_10 : parseMethodDescriptor "()Ljava/util/Set;" = some ⟨[], some (.object "java/util/Set")⟩ := by decide +kernel
theorem pd_11 : parseMethodDescriptor "()Ljava/util/Iterator;" = some ⟨[], some (.object "java/util/Iterator")⟩ := by decide +kernel
theorem pd_12 : parseMethodDescriptor "()Z" = some ⟨[], some .boolean⟩ := by decide +kernel
theorem pd_13 : parseMethodDescriptor "([I[I)V" = some ⟨[(.array .int), (.array .int)], none⟩ := by decide +kernel
theorem pd_14 : parseMethodDescriptor "(C)Z" = some ⟨[.char], some .boolean⟩ := by decide +kernel
theorem pd_15 : parseMethodDescriptor "(C)[B" = some ⟨[.char], some (.array .byte)⟩ := by decide +kernel
theorem pd_16 : parseMethodDescriptor "([BB)V" = some ⟨[(.array .byte), .byte], none⟩ := by decide +kernel
theorem pd_17 : parseMethodDescriptor "([B[B)Z" = some ⟨[(.array .byte), (.array .byte)], some .boolean⟩ := by decide +kernel
theorem pd_18 : parseMethodDescriptor "()[I" = some ⟨[], some (.array .int)⟩ := by decide +kernel
theorem pd_19 : parseMethodDescriptor "()Lcom/example/weser/weser/core/Memberships;" = some ⟨[], some (.object own_MB)⟩ := by decide +kernel
theorem pd_20 : parseMethodDescriptor "([C)V" = some ⟨[(.array .char)], none⟩ := by decide +kernel
theorem pd_21 : parseMethodDescriptor "(C)Ljava/lang/String;" = some ⟨[.char], some (.object "java/lang/String")⟩ := by decide +kernel
theorem pd_22 : parseMethodDescriptor "(Ljava/lang/Object;)Z" = some ⟨[(.object "java/lang/Object")], some .boolean⟩ := by decide +kernel
theorem pd_23 : parseMethodDescriptor "(ICI)Ljava/lang/String;" = some ⟨[.int, .char, .int], some (.object "java/lang/String")⟩ := by decide +kernel
theorem pd_24 : parseMethodDescriptor "([Ljava/lang/String;[Ljava/lang/String;[Ljava/lang/String;Lcom/example/weser/weser/core/TripleTable;Lcom/example/weser/weser/core/TripleTable;[Ljava/lang/String;Lcom/example/weser/weser/core/Prefixes;)V" = some ⟨[(.array (.object "java/lang/String")), (.array (.object "java/lang/String")), (.array (.object "java/lang/String")), (.object own_TT), (.object own_TT), (.array (.object "java/lang/String")), (.object own_PX)], none⟩ := by decide +kernel
theorem pd_25 : parseMethodDescriptor "(Ljava/lang/String;)I" = some ⟨[(.object "java/lang/String")], some .int⟩ := by decide +kernel
theorem pd_26 : parseMethodDescriptor "(ICI)Z" = some ⟨[.int, .char, .int], some .boolean⟩ := by decide +kernel
theorem dAC_0 : decode jdk_22_method_1_code 0 = .ok (.aload_n 0, 1) := by decide +kernel
theorem dAC_1 : decode jdk_22_method_1_code 1 = .ok (.invokespecial 1, 3) := by decide +kernel
theorem dAC_4 : decode jdk_22_method_1_code 4 = .ok (.return_, 1) := by decide +kernel
theorem ef_AC (mI : MethodId) (a : Addr) : entryFrame mI #[(.ref a)] 1 = mkF mI 0 #[.val (.ref a)] [] := by first | (simp [entryFrame, mkF, argsToLocals, Value.category]; done) | rfl
theorem pn_AC : plainName "java/util/AbstractCollection" = true := by first | decide +kernel | (simp [plainName, overriddenIn]; done)
set_option maxRecDepth 65536 in
set_option maxHeartbeats 40000000 in
theorem rmAC (lL : Launch) (Z : State) (a0 : Array Value) (hw : ∀ d ∈ tables_1, d.before a0 Z = true) (ws : List Jvm.Cond) (a : Addr) (h0 : Heap) (n0 : Nat) (Z0 : n0 ≤ h0.size) :
    MetFree lL (⟨"java/util/AbstractCollection", "<init>", "()V"⟩ : MethodName) (head1 (Jvm.Cond.code (⟨"java/util/AbstractCollection", "<init>", "()V"⟩ : MethodName) jdk_22_method_1_code 1 none :: ws) ({ frames := 1, cells := 0, slots := 0, locals := 12 } : Room)) (fun a_ U_ => a_ = #[(.ref a)] ∧ Z.Warmed39 U_.vm ∧ U_.heap = h0) (fun _ _ _ _ _ => True) (fun _ U_ o_ W_ => ∃ v_ L_, o_ = .returned v_ ∧ own_QV h0 n0 v_ W_.heap L_ ∧ FrameEnd U_ o_ W_ L_ ({ frames := 1, cells := 0, slots := 0, locals := 12 } : Room).cells ({ frames := 1, cells := 0, slots := 0, locals := 12 } : Room).slots) := by
  refine MetFree.of_bodySF (plainFor_of_name pn_AC) hisR ?_
  intro pP eE sS mI args below meth cC s₁ Bd hml0 hP hK
  obtain ⟨rfl, hZ, hh⟩ := hP
  have hx := Bd.exec
  have hby := Bd.bytes
  have hml : cC.maxLocals = 1 := hml0
  have hown : sS.vm.findClass "java/util/AbstractCollection" = some mI.cls := by have z := findClass_of_methodNamed Bd.named; exact z
  have hnm := (name_of_methodNamed Bd.named Bd.method).1
  have X0 : Stand pP lL eE ({ frames := 1, cells := 0, slots := 0, locals := 12 } : Room) sS mI #[(.ref a)] below meth cC s₁ [] 0 0 := Stand.of_body Bd
  have e0 : s₁.heap = h0 := by rw [← hh, Bd.state]; rfl
  have N0 := Fr.nil n0
  obtain ⟨G, hG, hst, hend⟩ := own_abs pP eE below sS (own_QV h0 n0) ({ frames := 1, cells := 0, slots := 0, locals := 12 } : Room).cells ({ frames := 1, cells := 0, slots := 0, locals := 12 } : Room).slots
  refine hG (S := s₁.setTop (entryFrame mI #[(.ref a)] 1)) (hst (fun t_ kt_ => castTop (ef_AC mI a) kt_) ?_)
  show G (s₁.setTop (mkF mI 0 #[.val (.ref a)] []))
  refine o_aloadN hst X0.here hx (hb hby dAC_0) (pc' := 1) rfl rfl rfl ?_
  obtain ⟨T_1, X_1, e_1, st_1⟩ := initO X0 hx hZ hown (own_w73 hw) (own_w26 hw) (own_w27 hw) e0 (g := (mkF mI 1 #[.val (.ref a)] [(.ref a)])) rfl (by rw [hml]; rfl) rfl (hb hby dAC_1) (by decide) (W := 0) (by show 2 * 0 + _ ≤ _; exact Nat.le_of_eq rfl) (by decide)
  refine hst st_1 ?_
  show G (T_1.setTop (mkF mI 4 #[.val (.ref a)] []))
  exact hend (own_goVoid X_1 hx Bd.returns (hb hby dAC_4) Bd.notSynchronized (by rw [e_1]; exact ⟨rfl, N0, rfl⟩) (by decide) (by decide))
theorem dAS_0 : decode jdk_91_method_1_code 0 = .ok (.aload_n 0, 1) := by decide +kernel
theorem dAS_1 : decode jdk_91_method_1_code 1 = .ok (.invokespecial 1, 3) := by decide +kernel
theorem dAS_4 : decode jdk_91_method_1_code 4 = .ok (.return_, 1) := by decide +kernel
theorem ef_AS (mI : MethodId) (a : Addr) : entryFrame mI #[(.ref a)] 1 = mkF mI 0 #[.val (.ref a)] [] := by first | (simp [entryFrame, mkF, argsToLocals, Value.category]; done) | rfl
theorem pn_AS : plainName "java/util/AbstractSet" = true := by first | decide +kernel | (simp [plainName, overriddenIn]; done)
set_option maxRecDepth 65536 in
set_option maxHeartbeats 40000000 in
theorem rmAS (lL : Launch) (Z : State) (a0 : Array Value) (hw : ∀ d ∈ tables_1, d.before a0 Z = true) (ws : List Jvm.Cond) (a : Addr) (h0 : Heap) (n0 : Nat) (Z0 : n0 ≤ h0.size) :
    MetFree lL (⟨"java/util/AbstractSet", "<init>", "()V"⟩ : MethodName) (head1 (Jvm.Cond.code (⟨"java/util/AbstractSet", "<init>", "()V"⟩ : MethodName) jdk_91_method_1_code 1 none :: ws) ({ frames := 2, cells := 0, slots := 0, locals := 24 } : Room)) (fun a_ U_ => a_ = #[(.ref a)] ∧ Z.Warmed39 U_.vm ∧ U_.heap = h0) (fun _ _ _ _ _ => True) (fun _ U_ o_ W_ => ∃ v_ L_, o_ = .returned v_ ∧ own_QV h0 n0 v_ W_.heap L_ ∧ FrameEnd U_ o_ W_ L_ ({ frames := 2, cells := 0, slots := 0, locals := 24 } : Room).cells ({ frames := 2, cells := 0, slots := 0, locals := 24 } : Room).slots) := by
  refine MetFree.of_bodySF (plainFor_of_name pn_AS) hisR ?_
  intro pP eE sS mI args below meth cC s₁ Bd hml0 hP hK
  obtain ⟨rfl, hZ, hh⟩ := hP
  have hx := Bd.exec
  have hby := Bd.bytes
  have hml : cC.maxLocals = 1 := hml0
  have hown : sS.vm.findClass "java/util/AbstractSet" = some mI.cls := by have z := findClass_of_methodNamed Bd.named; exact z
  have hnm := (name_of_methodNamed Bd.named Bd.method).1
  have X0 : Stand pP lL eE ({ frames := 2, cells := 0, slots := 0, locals := 24 } : Room) sS mI #[(.ref a)] below meth cC s₁ [] 0 0 := Stand.of_body Bd
  have e0 : s₁.heap = h0 := by rw [← hh, Bd.state]; rfl
  have N0 := Fr.nil n0
  obtain ⟨G, hG, hst, hend⟩ := own_abs pP eE below sS (own_QV h0 n0) ({ frames := 2, cells := 0, slots := 0, locals := 24 } : Room).cells ({ frames := 2, cells := 0, slots := 0, locals := 24 } : Room).slots
  refine hG (S := s₁.setTop (entryFrame mI #[(.ref a)] 1)) (hst (fun t_ kt_ => castTop (ef_AS mI a) kt_) ?_)
  show G (s₁.setTop (mkF mI 0 #[.val (.ref a)] []))
  refine o_aloadN hst X0.here hx (hb hby dAS_0) (pc' := 1) rfl rfl rfl ?_
  obtain ⟨_, _, ⟨T_1, L_1, k_1, n_1⟩, -, X_1, ⟨Lc_1, hQ_1, l_1, y_1, z_1⟩, st_1⟩ := X0.specialBack hx (y := (⟨"java/util/AbstractCollection", "<init>", "()V"⟩ : MethodName)) rfl hown (mvT hZ (own_w67 hw)) (mvT hZ (own_w68 hw)) (mvT hZ (own_w72 hw)) (by decide) (backOf (W := 0) (rmAC lL Z a0 hw [] a  h0 n0 Z0) hZ (own_w72 hw) (own_w71 hw) (by decide) (by decide)) (g := (mkF mI 1 #[.val (.ref a)] [(.ref a)])) rfl (by rw [hml]; rfl) (Steps.refl _) (a := a) (argsL := []) (rest := []) (lenOf pd_0 rfl) rfl (by show 2 * 0 + _ ≤ _; exact Nat.le_of_eq rfl) (hb hby dAS_1) (fun _ _ => ⟨rfl, e0, (by decide : 0 + 0 ≤ _), (by decide : 0 + 0 ≤ _)⟩)
  dsimp only [Pt.U, Pt.locs, Pt.cells, Pt.slots] at X_1 l_1 y_1 z_1 st_1 hQ_1
  subst l_1 y_1 z_1
  obtain ⟨rfl, N_1q, eh_1⟩ := hQ_1
  have N_1 := Fr.app N0 N_1q
  refine hst (fun _ kt => st_1.trans kt) ?_
  show G (T_1.setTop (mkF mI 4 #[.val (.ref a)] []))
  exact hend (own_goVoid X_1 hx Bd.returns (hb hby dAS_4) Bd.notSynchronized (by rw [eh_1]; exact ⟨rfl, N_1, rfl⟩) (by decide) (by decide))
theorem dAM_0 : decode jdk_71_method_1_code 0 = .ok (.aload_n 0, 1) := by decide +kernel
theorem dAM_1 : decode jdk_71_method_1_code 1 = .ok (.invokespecial 1, 3) := by decide +kernel
theorem dAM_4 : decode jdk_71_method_1_code 4 = .ok (.return_, 1) := by decide +kernel
theorem ef_AM (mI : MethodId) (a : Addr) : entryFrame mI #[(.ref a)] 1 = mkF mI 0 #[.val (.ref a)] [] := by first | (simp [entryFrame, mkF, argsToLocals, Value.category]; done) | rfl
theorem pn_AM : plainName "java/util/AbstractMap" = true := by first | decide +kernel | (simp [plainName, overriddenIn]; done)
set_option maxRecDepth 65536 in
set_option maxHeartbeats 40000000 in
theorem rmAM (lL : Launch) (Z : State) (a0 : Array Value) (hw : ∀ d ∈ tables_1, d.before a0 Z = true) (ws : List Jvm.Cond) (a : Addr) (h0 : Heap) (n0 : Nat) (Z0 : n0 ≤ h0.size) :
    MetFree lL (⟨"java/util/AbstractMap", "<init>", "()V"⟩ : MethodName) (head1 (Jvm.Cond.code (⟨"java/util/AbstractMap", "<init>", "()V"⟩ : MethodName) jdk_71_method_1_code 1 none :: ws) ({ frames := 1, cells := 0, slots := 0, locals := 12 } : Room)) (fun a_ U_ => a_ = #[(.ref a)] ∧ Z.Warmed39 U_.vm ∧ U_.heap = h0) (fun _ _ _ _ _ => True) (fun _ U_ o_ W_ => ∃ v_ L_, o_ = .returned v_ ∧ own_QV h0 n0 v_ W_.heap L_ ∧ FrameEnd U_ o_ W_ L_ ({ frames := 1, cells := 0, slots := 0, locals := 12 } : Room).cells ({ frames := 1, cells := 0, slots := 0, locals := 12 } : Room).slots) := by
  refine MetFree.of_bodySF (plainFor_of_name pn_AM) hisR ?_
  intro pP eE sS mI args below meth cC s₁ Bd hml0 hP hK
  obtain ⟨rfl, hZ, hh⟩ := hP
  have hx := Bd.exec
  have hby := Bd.bytes
  have hml : cC.maxLocals = 1 := hml0
  have hown : sS.vm.findClass "java/util/AbstractMap" = some mI.cls := by have z := findClass_of_methodNamed Bd.named; exact z
  have hnm := (name_of_methodNamed Bd.named Bd.method).1
  have X0 : Stand pP lL eE ({ frames := 1, cells := 0, slots := 0, locals := 12 } : Room) sS mI #[(.ref a)] below meth cC s₁ [] 0 0 := Stand.of_body Bd
  have e0 : s₁.heap = h0 := by rw [← hh, Bd.state]; rfl
  have N0 := Fr.nil n0
  obtain ⟨G, hG, hst, hend⟩ := own_abs pP eE below sS (own_QV h0 n0) ({ frames := 1, cells := 0, slots := 0, locals := 12 } : Room).cells ({ frames := 1, cells := 0, slots := 0, locals := 12 } : Room).slots
  refine hG (S := s₁.setTop (entryFrame mI #[(.ref a)] 1)) (hst (fun t_ kt_ => castTop (ef_AM mI a) kt_) ?_)
  show G (s₁.setTop (mkF mI 0 #[.val (.ref a)] []))
  refine o_aloadN hst X0.here hx (hb hby dAM_0) (pc' := 1) rfl rfl rfl ?_
  obtain ⟨T_1, X_1, e_1, st_1⟩ := initO X0 hx hZ hown (own_w93 hw) (own_w26 hw) (own_w27 hw) e0 (g := (mkF mI 1 #[.val (.ref a)] [(.ref a)])) rfl (by rw [hml]; rfl) rfl (hb hby dAM_1) (by decide) (W := 0) (by show 2 * 0 + _ ≤ _; exact Nat.le_of_eq rfl) (by decide)
  refine hst st_1 ?_
  show G (T_1.setTop (mkF mI 4 #[.val (.ref a)] []))
  exact hend (own_goVoid X_1 hx Bd.returns (hb hby dAM_4) Bd.notSynchronized (by rw [e_1]; exact ⟨rfl, N0, rfl⟩) (by decide) (by decide))
theorem dRC_0 : decode jdk_30_method_1_code 0 = .ok (.aload_n 0, 1) := by decide +kernel
theorem dRC_1 : decode jdk_30_method_1_code 1 = .ok (.invokespecial 1, 3) := by decide +kernel
theorem dRC_4 : decode jdk_30_method_1_code 4 = .ok (.return_, 1) := by decide +kernel
theorem ef_RC (mI : MethodId) (a : Addr) : entryFrame mI #[(.ref a)] 1 = mkF mI 0 #[.val (.ref a)] [] := by first | (simp [entryFrame, mkF, argsToLocals, Value.category]; done) | rfl
theorem pn_RC : plainName "java/lang/Record" = true := by first | decide +kernel | (simp [plainName, overriddenIn]; done)
set_option maxRecDepth 65536 in
set_option maxHeartbeats 40000000 in
theorem rmRC (lL : Launch) (Z : State) (a0 : Array Value) (hw : ∀ d ∈ tables_1, d.before a0 Z = true) (ws : List Jvm.Cond) (a : Addr) (h0 : Heap) (n0 : Nat) (Z0 : n0 ≤ h0.size) :
    MetFree lL (⟨"java/lang/Record", "<init>", "()V"⟩ : MethodName) (head1 (Jvm.Cond.code (⟨"java/lang/Record", "<init>", "()V"⟩ : MethodName) jdk_30_method_1_code 1 none :: ws) ({ frames := 1, cells := 0, slots := 0, locals := 12 } : Room)) (fun a_ U_ => a_ = #[(.ref a)] ∧ Z.Warmed39 U_.vm ∧ U_.heap = h0) (fun _ _ _ _ _ => True) (fun _ U_ o_ W_ => ∃ v_ L_, o_ = .returned v_ ∧ own_QV h0 n0 v_ W_.heap L_ ∧ FrameEnd U_ o_ W_ L_ ({ frames := 1, cells := 0, slots := 0, locals := 12 } : Room).cells ({ frames := 1, cells := 0, slots := 0, locals := 12 } : Room).slots) := by
  refine MetFree.of_bodySF (plainFor_of_name pn_RC) hisR ?_
  intro pP eE sS mI args below meth cC s₁ Bd hml0 hP hK
  obtain ⟨rfl, hZ, hh⟩ := hP
  have hx := Bd.exec
  have hby := Bd.bytes
  have hml : cC.maxLocals = 1 := hml0
  have hown : sS.vm.findClass "java/lang/Record" = some mI.cls := by have z := findClass_of_methodNamed Bd.named; exact z
  have hnm := (name_of_methodNamed Bd.named Bd.method).1
  have X0 : Stand pP lL eE ({ frames := 1, cells := 0, slots := 0, locals := 12 } : Room) sS mI #[(.ref a)] below meth cC s₁ [] 0 0 := Stand.of_body Bd
  have e0 : s₁.heap = h0 := by rw [← hh, Bd.state]; rfl
  have N0 := Fr.nil n0
  obtain ⟨G, hG, hst, hend⟩ := own_abs pP eE below sS (own_QV h0 n0) ({ frames := 1, cells := 0, slots := 0, locals := 12 } : Room).cells ({ frames := 1, cells := 0, slots := 0, locals := 12 } : Room).slots
  refine hG (S := s₁.setTop (entryFrame mI #[(.ref a)] 1)) (hst (fun t_ kt_ => castTop (ef_RC mI a) kt_) ?_)
  show G (s₁.setTop (mkF mI 0 #[.val (.ref a)] []))
  refine o_aloadN hst X0.here hx (hb hby dRC_0) (pc' := 1) rfl rfl rfl ?_
  obtain ⟨T_1, X_1, e_1, st_1⟩ := initO X0 hx hZ hown (own_w300 hw) (own_w26 hw) (own_w27 hw) e0 (g := (mkF mI 1 #[.val (.ref a)] [(.ref a)])) rfl (by rw [hml]; rfl) rfl (hb hby dRC_1) (by decide) (W := 0) (by show 2 * 0 + _ ≤ _; exact Nat.le_of_eq rfl) (by decide)
  refine hst st_1 ?_
  show G (T_1.setTop (mkF mI 4 #[.val (.ref a)] []))
  exact hend (own_goVoid X_1 hx Bd.returns (hb hby dRC_4) Bd.notSynchronized (by rw [e_1]; exact ⟨rfl, N0, rfl⟩) (by decide) (by decide))
theorem dfn_0 : decode jdk_118_method_6_code 0 = .ok (.fload_n 0, 1) := by decide +kernel
theorem dfn_1 : decode jdk_118_method_6_code 1 = .ok (.fload_n 0, 1) := by decide +kernel
theorem dfn_2 : decode jdk_118_method_6_code 2 = .ok (.fcmp .l, 1) := by decide +kernel
theorem dfn_3 : decode jdk_118_method_6_code 3 = .ok (.ifCond .eq 7, 3) := by decide +kernel
theorem dfn_10 : decode jdk_118_method_6_code 10 = .ok (.iconst 0, 1) := by decide +kernel
theorem dfn_11 : decode jdk_118_method_6_code 11 = .ok (.ireturn, 1) := by decide +kernel
theorem ef_fn (mI : MethodId)  : entryFrame mI #[(.float (1061158912 : UInt32))] 1 = mkF mI 0 #[.val (.float (1061158912 : UInt32))] [] := by first | (simp [entryFrame, mkF, argsToLocals, Value.category]; done) | rfl
theorem pn_fn : plainFor (⟨"java/lang/Float", "isNaN", "(F)Z"⟩ : MethodName) = true := by decide +kernel
set_option maxRecDepth 65536 in
set_option maxHeartbeats 40000000 in
theorem rmfn (lL : Launch) (Z : State) (a0 : Array Value) (hw : ∀ d ∈ tables_1, d.before a0 Z = true) (ws : List Jvm.Cond)  (h0 : Heap) (n0 : Nat) (Z0 : n0 ≤ h0.size) :
    MetFree lL (⟨"java/lang/Float", "isNaN", "(F)Z"⟩ : MethodName) (head1 (Jvm.Cond.code (⟨"java/lang/Float", "isNaN", "(F)Z"⟩ : MethodName) jdk_118_method_6_code 1 (some .boolean) :: ws) ({ frames := 0, cells := 0, slots := 0, locals := 0 } : Room)) (fun a_ U_ => a_ = #[(.float (1061158912 : UInt32))] ∧ Z.Warmed39 U_.vm ∧ U_.heap = h0) (fun _ _ _ _ _ => True) (fun _ U_ o_ W_ => ∃ v_ L_, o_ = .returned v_ ∧ own_QI (0 : Int32) h0 n0 v_ W_.heap L_ ∧ FrameEnd U_ o_ W_ L_ ({ frames := 0, cells := 0, slots := 0, locals := 0 } : Room).cells ({ frames := 0, cells := 0, slots := 0, locals := 0 } : Room).slots) := by
  refine MetFree.of_bodySF pn_fn hisR ?_
  intro pP eE sS mI args below meth cC s₁ Bd hml0 hP hK
  obtain ⟨rfl, hZ, hh⟩ := hP
  have hx := Bd.exec
  have hby := Bd.bytes
  have hml : cC.maxLocals = 1 := hml0
  have hown : sS.vm.findClass "java/lang/Float" = some mI.cls := by have z := findClass_of_methodNamed Bd.named; exact z
  have hnm := (name_of_methodNamed Bd.named Bd.method).1
  have X0 : Stand pP lL eE ({ frames := 0, cells := 0, slots := 0, locals := 0 } : Room) sS mI #[(.float (1061158912 : UInt32))] below meth cC s₁ [] 0 0 := Stand.of_body Bd
  have e0 : s₁.heap = h0 := by rw [← hh, Bd.state]; rfl
  have N0 := Fr.nil n0
  obtain ⟨G, hG, hst, hend⟩ := own_abs pP eE below sS (own_QI (0 : Int32) h0 n0) ({ frames := 0, cells := 0, slots := 0, locals := 0 } : Room).cells ({ frames := 0, cells := 0, slots := 0, locals := 0 } : Room).slots
  refine hG (S := s₁.setTop (entryFrame mI #[(.float (1061158912 : UInt32))] 1)) (hst (fun t_ kt_ => castTop (ef_fn mI ) kt_) ?_)
  show G (s₁.setTop (mkF mI 0 #[.val (.float (1061158912 : UInt32))] []))
  refine o_floadN hst X0.here hx (hb hby dfn_0) (pc' := 1) rfl rfl ?_
  refine o_floadN hst X0.here hx (hb hby dfn_1) (pc' := 2) rfl rfl ?_
  refine hst (fun _ kt => XS.fcmpS X0.here hx rfl (hb hby dfn_2) rfl (v := (0 : Int32)) (by decide +kernel) kt) ?_
  show G (s₁.setTop (mkF mI 3 #[.val (.float (1061158912 : UInt32))] [(.int (0 : Int32))]))
  have hc3 : (0 : Int32) = (0 : Int32) := rfl
  refine hst (fun _ kt => XS.ifYes X0.here hx rfl (pc0 := 3) (pc' := 10) rfl (hb hby dfn_3) rfl ((if0 _ _).trans (teq hc3).1) (by decide) (by decide) kt) ?_
  show G (s₁.setTop (mkF mI 10 #[.val (.float (1061158912 : UInt32))] []))
  refine o_iconst hst X0.here hx (hb hby dfn_10) (pc' := 11) rfl (z := (0 : Int32)) rfl ?_
  exact hend (own_goRet X0 hx Bd.returns rfl (Or.inl ⟨rfl, by simp, _, rfl⟩) (hb hby dfn_11) Bd.notSynchronized (by rw [e0]; exact ⟨rfl, N0, rfl⟩) (by decide) (by decide))
theorem dnz_0 : decode jdk_33_method_47_code 0 = .ok (.iload_n 0, 1) := by decide +kernel
theorem dnz_1 : decode jdk_33_method_47_code 1 = .ok (.ifCond .gt 14, 3) := by decide +kernel
theorem dnz_15 : decode jdk_33_method_47_code 15 = .ok (.bipush 31, 2) := by decide +kernel
theorem dnz_17 : decode jdk_33_method_47_code 17 = .ok (.istore_n 1, 1) := by decide +kernel
theorem dnz_18 : decode jdk_33_method_47_code 18 = .ok (.iload_n 0, 1) := by decide +kernel
theorem dnz_19 : decode jdk_33_method_47_code 19 = .ok (.ldc_w 264, 3) := by decide +kernel
theorem dnz_22 : decode jdk_33_method_47_code 22 = .ok (.if_icmp .lt 11, 3) := by decide +kernel
theorem dnz_33 : decode jdk_33_method_47_code 33 = .ok (.iload_n 0, 1) := by decide +kernel
theorem dnz_34 : decode jdk_33_method_47_code 34 = .ok (.sipush 256, 3) := by decide +kernel
theorem dnz_37 : decode jdk_33_method_47_code 37 = .ok (.if_icmp .lt 11, 3) := by decide +kernel
theorem dnz_48 : decode jdk_33_method_47_code 48 = .ok (.iload_n 0, 1) := by decide +kernel
theorem dnz_49 : decode jdk_33_method_47_code 49 = .ok (.bipush 16, 2) := by decide +kernel
theorem dnz_51 : decode jdk_33_method_47_code 51 = .ok (.if_icmp .lt 10, 3) := by decide +kernel
theorem dnz_61 : decode jdk_33_method_47_code 61 = .ok (.iload_n 0, 1) := by decide +kernel
theorem dnz_62 : decode jdk_33_method_47_code 62 = .ok (.iconst 4, 1) := by decide +kernel
theorem dnz_63 : decode jdk_33_method_47_code 63 = .ok (.if_icmp .lt 10, 3) := by decide +kernel
theorem dnz_66 : decode jdk_33_method_47_code 66 = .ok (.iinc 1 (-2), 3) := by decide +kernel
theorem dnz_69 : decode jdk_33_method_47_code 69 = .ok (.iload_n 0, 1) := by decide +kernel
theorem dnz_70 : decode jdk_33_method_47_code 70 = .ok (.iconst 2, 1) := by decide +kernel
theorem dnz_71 : decode jdk_33_method_47_code 71 = .ok (.iushr, 1) := by decide +kernel
theorem dnz_72 : decode jdk_33_method_47_code 72 = .ok (.istore_n 0, 1) := by decide +kernel
theorem dnz_73 : decode jdk_33_method_47_code 73 = .ok (.iload_n 1, 1) := by decide +kernel
theorem dnz_74 : decode jdk_33_method_47_code 74 = .ok (.iload_n 0, 1) := by decide +kernel
theorem dnz_75 : decode jdk_33_method_47_code 75 = .ok (.iconst 1, 1) := by decide +kernel
theorem dnz_76 : decode jdk_33_method_47_code 76 = .ok (.iushr, 1) := by decide +kernel
theorem dnz_77 : decode jdk_33_method_47_code 77 = .ok (.isub, 1) := by decide +kernel
theorem dnz_78 : decode jdk_33_method_47_code 78 = .ok (.ireturn, 1) := by decide +kernel
theorem ef_nz (mI : MethodId)  : entryFrame mI #[(.int (15 : Int32))] 2 = mkF mI 0 #[.val (.int (15 : Int32)), .unset] [] := by first | (simp [entryFrame, mkF, argsToLocals, Value.category]; done) | rfl
theorem pn_nz : plainName "java/lang/Integer" = true := by first | decide +kernel | (simp [plainName, overriddenIn]; done)
set_option maxRecDepth 65536 in
set_option maxHeartbeats 40000000 in
theorem rmnz (lL : Launch) (Z : State) (a0 : Array Value) (hw : ∀ d ∈ tables_1, d.before a0 Z = true) (ws : List Jvm.Cond)  (h0 : Heap) (n0 : Nat) (Z0 : n0 ≤ h0.size) :
    MetFree lL (⟨"java/lang/Integer", "numberOfLeadingZeros", "(I)I"⟩ : MethodName) (head1 (Jvm.Cond.code (⟨"java/lang/Integer", "numberOfLeadingZeros", "(I)I"⟩ : MethodName) jdk_33_method_47_code 2 (some .int) :: ws) ({ frames := 0, cells := 0, slots := 0, locals := 0 } : Room)) (fun a_ U_ => a_ = #[(.int (15 : Int32))] ∧ Z.Warmed39 U_.vm ∧ U_.heap = h0) (fun _ _ _ _ _ => True) (fun _ U_ o_ W_ => ∃ v_ L_, o_ = .returned v_ ∧ own_QI (28 : Int32) h0 n0 v_ W_.heap L_ ∧ FrameEnd U_ o_ W_ L_ ({ frames := 0, cells := 0, slots := 0, locals := 0 } : Room).cells ({ frames := 0, cells := 0, slots := 0, locals := 0 } : Room).slots) := by
  refine MetFree.of_bodySF (plainFor_of_name pn_nz) hisR ?_
  intro pP eE sS mI args below meth cC s₁ Bd hml0 hP hK
  obtain ⟨rfl, hZ, hh⟩ := hP
  have hx := Bd.exec
  have hby := Bd.bytes
  have hml : cC.maxLocals = 2 := hml0
  have hown : sS.vm.findClass "java/lang/Integer" = some mI.cls := by have z := findClass_of_methodNamed Bd.named; exact z
  have hnm := (name_of_methodNamed Bd.named Bd.method).1
  have X0 : Stand pP lL eE ({ frames := 0, cells := 0, slots := 0, locals := 0 } : Room) sS mI #[(.int (15 : Int32))] below meth cC s₁ [] 0 0 := Stand.of_body Bd
  have e0 : s₁.heap = h0 := by rw [← hh, Bd.state]; rfl
  have N0 := Fr.nil n0
  obtain ⟨G, hG, hst, hend⟩ := own_abs pP eE below sS (own_QI (28 : Int32) h0 n0) ({ frames := 0, cells := 0, slots := 0, locals := 0 } : Room).cells ({ frames := 0, cells := 0, slots := 0, locals := 0 } : Room).slots
  refine hG (S := s₁.setTop (entryFrame mI #[(.int (15 : Int32))] 2)) (hst (fun t_ kt_ => castTop (ef_nz mI ) kt_) ?_)
  show G (s₁.setTop (mkF mI 0 #[.val (.int (15 : Int32)), .unset] []))
  refine o_iloadN hst X0.here hx (hb hby dnz_0) (pc' := 1) rfl rfl ?_
  have hc1 : (0 : Int32) < (15 : Int32) := by decide
  refine hst (fun _ kt => XS.ifYes X0.here hx rfl (pc0 := 1) (pc' := 15) rfl (hb hby dnz_1) rfl ((if0 _ _).trans (tlt hc1).2.2.1) (by decide) (by decide) kt) ?_
  show G (s₁.setTop (mkF mI 15 #[.val (.int (15 : Int32)), .unset] []))
  refine o_bipush hst X0.here hx (hb hby dnz_15) (pc' := 17) rfl (z := (31 : Int32)) rfl ?_
  refine o_istoreN hst X0.here hx (hb hby dnz_17) (pc' := 18) rfl (Lt := #[.val (.int (15 : Int32)), .val (.int (31 : Int32))]) rfl ?_
  refine o_iloadN hst X0.here hx (hb hby dnz_18) (pc' := 19) rfl rfl ?_
  refine hst (X0.ldcwInt hx hown (mvT hZ (own_w108 hw)) (g := (mkF mI 19 #[.val (.int (15 : Int32)), .val (.int (31 : Int32))] [(.int (15 : Int32))])) rfl (hb hby dnz_19)) ?_
  show G (s₁.setTop (mkF mI 22 #[.val (.int (15 : Int32)), .val (.int (31 : Int32))] [(.int (65536 : Int32)), (.int (15 : Int32))]))
  have hc22 : (15 : Int32) < (65536 : Int32) := by decide
  refine hst (fun _ kt => XS.icmpYes X0.here hx rfl (pc0 := 22) (pc' := 33) rfl (hb hby dnz_22) rfl (tlt hc22).1 (by decide) (by decide) kt) ?_
  show G (s₁.setTop (mkF mI 33 #[.val (.int (15 : Int32)), .val (.int (31 : Int32))] []))
  refine o_iloadN hst X0.here hx (hb hby dnz_33) (pc' := 34) rfl rfl ?_
  refine o_sipush hst X0.here hx (hb hby dnz_34) (pc' := 37) rfl (z := (256 : Int32)) rfl ?_
  have hc37 : (15 : Int32) < (256 : Int32) := by decide
  refine hst (fun _ kt => XS.icmpYes X0.here hx rfl (pc0 := 37) (pc' := 48) rfl (hb hby dnz_37) rfl (tlt hc37).1 (by decide) (by decide) kt) ?_
  show G (s₁.setTop (mkF mI 48 #[.val (.int (15 : Int32)), .val (.int (31 : Int32))] []))
  refine o_iloadN hst X0.here hx (hb hby dnz_48) (pc' := 49) rfl rfl ?_
  refine o_bipush hst X0.here hx (hb hby dnz_49) (pc' := 51) rfl (z := (16 : Int32)) rfl ?_
  have hc51 : (15 : Int32) < (16 : Int32) := by decide
  refine hst (fun _ kt => XS.icmpYes X0.here hx rfl (pc0 := 51) (pc' := 61) rfl (hb hby dnz_51) rfl (tlt hc51).1 (by decide) (by decide) kt) ?_
  show G (s₁.setTop (mkF mI 61 #[.val (.int (15 : Int32)), .val (.int (31 : Int32))] []))
  refine o_iloadN hst X0.here hx (hb hby dnz_61) (pc' := 62) rfl rfl ?_
  refine o_iconst hst X0.here hx (hb hby dnz_62) (pc' := 63) rfl (z := (4 : Int32)) rfl ?_
  have hc63 : ¬ ((15 : Int32) < (4 : Int32)) := by decide
  refine hst (fun _ kt => XS.icmpNo X0.here hx rfl (hb hby dnz_63) rfl (flt hc63).1 kt) ?_
  show G (s₁.setTop (mkF mI 66 #[.val (.int (15 : Int32)), .val (.int (31 : Int32))] []))
  refine o_iinc hst X0.here hx (hb hby dnz_66) (pc' := 69) rfl rfl (Lt := #[.val (.int (15 : Int32)), .val (.int ((31 : Int32) + (-2 : Int32)))]) rfl ?_
  rw [show ((31 : Int32) + (-2 : Int32)) = (29 : Int32) from by decide]
  show G (s₁.setTop (mkF mI 69 #[.val (.int (15 : Int32)), .val (.int (29 : Int32))] []))
  refine o_iloadN hst X0.here hx (hb hby dnz_69) (pc' := 70) rfl rfl ?_
  refine o_iconst hst X0.here hx (hb hby dnz_70) (pc' := 71) rfl (z := (2 : Int32)) rfl ?_
  refine o_iushr hst X0.here hx (hb hby dnz_71) (pc' := 72) rfl ?_
  rw [show (((15 : Int32).toUInt32 >>> ((2 : Int32) &&& 31).toUInt32).toInt32) = (3 : Int32) from by decide]
  show G (s₁.setTop (mkF mI 72 #[.val (.int (15 : Int32)), .val (.int (29 : Int32))] [(.int (3 : Int32))]))
  refine o_istoreN hst X0.here hx (hb hby dnz_72) (pc' := 73) rfl (Lt := #[.val (.int (3 : Int32)), .val (.int (29 : Int32))]) rfl ?_
  refine o_iloadN hst X0.here hx (hb hby dnz_73) (pc' := 74) rfl rfl ?_
  refine o_iloadN hst X0.here hx (hb hby dnz_74) (pc' := 75) rfl rfl ?_
  refine o_iconst hst X0.here hx (hb hby dnz_75) (pc' := 76) rfl (z := (1 : Int32)) rfl ?_
  refine o_iushr hst X0.here hx (hb hby dnz_76) (pc' := 77) rfl ?_
  rw [show (((3 : Int32).toUInt32 >>> ((1 : Int32) &&& 31).toUInt32).toInt32) = (1 : Int32) from by decide]
  show G (s₁.setTop (mkF mI 77 #[.val (.int (3 : Int32)), .val (.int (29 : Int32))] [(.int (1 : Int32)), (.int (29 : Int32))]))
  refine o_isub hst X0.here hx (hb hby dnz_77) (pc' := 78) rfl ?_
  rw [show ((29 : Int32) - (1 : Int32)) = (28 : Int32) from by decide]
  show G (s₁.setTop (mkF mI 78 #[.val (.int (3 : Int32)), .val (.int (29 : Int32))] [(.int (28 : Int32))]))
  exact hend (own_goRet X0 hx Bd.returns rfl (Or.inl ⟨rfl, by simp, _, rfl⟩) (hb hby dnz_78) Bd.notSynchronized (by rw [e0]; exact ⟨rfl, N0, rfl⟩) (by decide) (by decide))
theorem dts_0 : decode jdk_69_method_4_code 0 = .ok (.iconst (-1), 1) := by decide +kernel
theorem dts_1 : decode jdk_69_method_4_code 1 = .ok (.iload_n 0, 1) := by decide +kernel
theorem dts_2 : decode jdk_69_method_4_code 2 = .ok (.iconst 1, 1) := by decide +kernel
theorem dts_3 : decode jdk_69_method_4_code 3 = .ok (.isub, 1) := by decide +kernel
theorem dts_4 : decode jdk_69_method_4_code 4 = .ok (.invokestatic 34, 3) := by decide +kernel
theorem dts_7 : decode jdk_69_method_4_code 7 = .ok (.iushr, 1) := by decide +kernel
theorem dts_8 : decode jdk_69_method_4_code 8 = .ok (.istore_n 1, 1) := by decide +kernel
theorem dts_9 : decode jdk_69_method_4_code 9 = .ok (.iload_n 1, 1) := by decide +kernel
theorem dts_10 : decode jdk_69_method_4_code 10 = .ok (.ifCond .ge 7, 3) := by decide +kernel
theorem dts_17 : decode jdk_69_method_4_code 17 = .ok (.iload_n 1, 1) := by decide +kernel
theorem dts_18 : decode jdk_69_method_4_code 18 = .ok (.ldc 42, 2) := by decide +kernel
theorem dts_20 : decode jdk_69_method_4_code 20 = .ok (.if_icmp .lt 8, 3) := by decide +kernel
theorem dts_28 : decode jdk_69_method_4_code 28 = .ok (.iload_n 1, 1) := by decide +kernel
theorem dts_29 : decode jdk_69_method_4_code 29 = .ok (.iconst 1, 1) := by decide +kernel
theorem dts_30 : decode jdk_69_method_4_code 30 = .ok (.iadd, 1) := by decide +kernel
theorem dts_31 : decode jdk_69_method_4_code 31 = .ok (.ireturn, 1) := by decide +kernel
theorem ef_ts (mI : MethodId)  : entryFrame mI #[(.int (16 : Int32))] 2 = mkF mI 0 #[.val (.int (16 : Int32)), .unset] [] := by first | (simp [entryFrame, mkF, argsToLocals, Value.category]; done) | rfl
theorem pn_ts : plainName "java/util/HashMap" = true := by first | decide +kernel | (simp [plainName, overriddenIn]; done)
set_option maxRecDepth 65536 in
set_option maxHeartbeats 40000000 in
theorem rmts (lL : Launch) (Z : State) (a0 : Array Value) (hw : ∀ d ∈ tables_1, d.before a0 Z = true) (ws : List Jvm.Cond)  (h0 : Heap) (n0 : Nat) (Z0 : n0 ≤ h0.size) :
    MetFree lL (⟨"java/util/HashMap", "tableSizeFor", "(I)I"⟩ : MethodName) (head1 (Jvm.Cond.code (⟨"java/util/HashMap", "tableSizeFor", "(I)I"⟩ : MethodName) jdk_69_method_4_code 2 (some .int) :: ws) ({ frames := 1, cells := 0, slots := 0, locals := 14 } : Room)) (fun a_ U_ => a_ = #[(.int (16 : Int32))] ∧ Z.Warmed39 U_.vm ∧ U_.heap = h0) (fun _ _ _ _ _ => True) (fun _ U_ o_ W_ => ∃ v_ L_, o_ = .returned v_ ∧ own_QI (16 : Int32) h0 n0 v_ W_.heap L_ ∧ FrameEnd U_ o_ W_ L_ ({ frames := 1, cells := 0, slots := 0, locals := 14 } : Room).cells ({ frames := 1, cells := 0, slots := 0, locals := 14 } : Room).slots) := by
  refine MetFree.of_bodySF (plainFor_of_name pn_ts) hisR ?_
  intro pP eE sS mI args below meth cC s₁ Bd hml0 hP hK
  obtain ⟨rfl, hZ, hh⟩ := hP
  have hx := Bd.exec
  have hby := Bd.bytes
  have hml : cC.maxLocals = 2 := hml0
  have hown : sS.vm.findClass "java/util/HashMap" = some mI.cls := by have z := findClass_of_methodNamed Bd.named; exact z
  have hnm := (name_of_methodNamed Bd.named Bd.method).1
  have X0 : Stand pP lL eE ({ frames := 1, cells := 0, slots := 0, locals := 14 } : Room) sS mI #[(.int (16 : Int32))] below meth cC s₁ [] 0 0 := Stand.of_body Bd
  have e0 : s₁.heap = h0 := by rw [← hh, Bd.state]; rfl
  have N0 := Fr.nil n0
  obtain ⟨G, hG, hst, hend⟩ := own_abs pP eE below sS (own_QI (16 : Int32) h0 n0) ({ frames := 1, cells := 0, slots := 0, locals := 14 } : Room).cells ({ frames := 1, cells := 0, slots := 0, locals := 14 } : Room).slots
  refine hG (S := s₁.setTop (entryFrame mI #[(.int (16 : Int32))] 2)) (hst (fun t_ kt_ => castTop (ef_ts mI ) kt_) ?_)
  show G (s₁.setTop (mkF mI 0 #[.val (.int (16 : Int32)), .unset] []))
  refine o_iconst hst X0.here hx (hb hby dts_0) (pc' := 1) rfl (z := (-1 : Int32)) rfl ?_
  refine o_iloadN hst X0.here hx (hb hby dts_1) (pc' := 2) rfl rfl ?_
  refine o_iconst hst X0.here hx (hb hby dts_2) (pc' := 3) rfl (z := (1 : Int32)) rfl ?_
  refine o_isub hst X0.here hx (hb hby dts_3) (pc' := 4) rfl ?_
  rw [show ((16 : Int32) - (1 : Int32)) = (15 : Int32) from by decide]
  show G (s₁.setTop (mkF mI 4 #[.val (.int (16 : Int32)), .unset] [(.int (15 : Int32)), (.int (-1 : Int32))]))
  obtain ⟨_, _, ⟨T_1, L_1, k_1, n_1⟩, -, X_1, ⟨Lc_1, hQ_1, l_1, y_1, z_1⟩, st_1⟩ := Jvm.LawKit.callS X0 hx (y := (⟨"java/lang/Integer", "numberOfLeadingZeros", "(I)I"⟩ : MethodName)) hown (mvT hZ (own_w104 hw)) (mvT hZ (own_w105 hw)) (mvT hZ (own_w106 hw)) (mvT hZ (own_w107 hw)) (by decide) (backOf (W := 1) (rmnz lL Z a0 hw []   h0 n0 Z0) hZ (own_w107 hw) (own_w106 hw) (by decide) (by decide)) (g := (mkF mI 4 #[.val (.int (16 : Int32)), .unset] [(.int (15 : Int32)), (.int (-1 : Int32))])) rfl (by rw [hml]; rfl) (argsL := [(.int (15 : Int32))]) (rest := [(.int (-1 : Int32))]) (lenOf pd_1 rfl) rfl (by show 2 * 0 + _ ≤ _; exact Nat.le_of_eq rfl) (hb hby dts_4) (fun _ _ => ⟨rfl, e0, (by decide : 0 + 0 ≤ _), (by decide : 0 + 0 ≤ _)⟩)
  dsimp only [Pt.U, Pt.locs, Pt.cells, Pt.slots] at X_1 l_1 y_1 z_1 st_1 hQ_1
  subst l_1 y_1 z_1
  obtain ⟨rfl, N_1q, eh_1⟩ := hQ_1
  have N_1 := Fr.app N0 N_1q
  refine hst (fun _ kt => st_1 _ kt) ?_
  show G (T_1.setTop (mkF mI 7 #[.val (.int (16 : Int32)), .unset] [(.int (28 : Int32)), (.int (-1 : Int32))]))
  refine o_iushr hst X_1.here hx (hb hby dts_7) (pc' := 8) rfl ?_
  rw [show (((-1 : Int32).toUInt32 >>> ((28 : Int32) &&& 31).toUInt32).toInt32) = (15 : Int32) from by decide]
  show G (T_1.setTop (mkF mI 8 #[.val (.int (16 : Int32)), .unset] [(.int (15 : Int32))]))
  refine o_istoreN hst X_1.here hx (hb hby dts_8) (pc' := 9) rfl (Lt := #[.val (.int (16 : Int32)), .val (.int (15 : Int32))]) rfl ?_
  refine o_iloadN hst X_1.here hx (hb hby dts_9) (pc' := 10) rfl rfl ?_
  have hc10 : ¬ ((15 : Int32) < (0 : Int32)) := by decide
  refine hst (fun _ kt => XS.ifYes X_1.here hx rfl (pc0 := 10) (pc' := 17) rfl (hb hby dts_10) rfl ((if0 _ _).trans (flt hc10).2.1) (by decide) (by decide) kt) ?_
  show G (T_1.setTop (mkF mI 17 #[.val (.int (16 : Int32)), .val (.int (15 : Int32))] []))
  refine o_iloadN hst X_1.here hx (hb hby dts_17) (pc' := 18) rfl rfl ?_
  refine hst (X_1.ldcInt hx hown (mvT hZ (own_w94 hw)) (g := (mkF mI 18 #[.val (.int (16 : Int32)), .val (.int (15 : Int32))] [(.int (15 : Int32))])) rfl (hb hby dts_18)) ?_
  show G (T_1.setTop (mkF mI 20 #[.val (.int (16 : Int32)), .val (.int (15 : Int32))] [(.int (1073741824 : Int32)), (.int (15 : Int32))]))
  have hc20 : (15 : Int32) < (1073741824 : Int32) := by decide
  refine hst (fun _ kt => XS.icmpYes X_1.here hx rfl (pc0 := 20) (pc' := 28) rfl (hb hby dts_20) rfl (tlt hc20).1 (by decide) (by decide) kt) ?_
  show G (T_1.setTop (mkF mI 28 #[.val (.int (16 : Int32)), .val (.int (15 : Int32))] []))
  refine o_iloadN hst X_1.here hx (hb hby dts_28) (pc' := 29) rfl rfl ?_
  refine o_iconst hst X_1.here hx (hb hby dts_29) (pc' := 30) rfl (z := (1 : Int32)) rfl ?_
  refine o_iadd hst X_1.here hx (hb hby dts_30) (pc' := 31) rfl ?_
  rw [show ((15 : Int32) + (1 : Int32)) = (16 : Int32) from by decide]
  show G (T_1.setTop (mkF mI 31 #[.val (.int (16 : Int32)), .val (.int (15 : Int32))] [(.int (16 : Int32))]))
  exact hend (own_goRet X_1 hx Bd.returns rfl (Or.inl ⟨rfl, by simp, _, rfl⟩) (hb hby dts_31) Bd.notSynchronized (by rw [eh_1]; exact ⟨rfl, N_1, rfl⟩) (by decide) (by decide))
def own_Qhm (Z : State) (a : Addr) (h0 : Heap) (n0 : Nat) (v : Option Value) (h : Heap) (L : List Loc) : Prop := v = none ∧ Fr n0 L ∧ Keep h0 h [a] ∧ Exa Z h a "java/util/LinkedHashMap" ∧ Fld Z h a "java/util/LinkedHashMap" "putMode" "I" (.int (0 : Int32)) ∧ Fld Z h a "java/util/LinkedHashMap" "accessOrder" "Z" (.int (0 : Int32)) ∧ Fld Z h a "java/util/HashMap" "size" "I" (.int (0 : Int32)) ∧ Fld Z h a "java/util/AbstractMap" "keySet" "Ljava/util/Set;" .null ∧ Fld Z h a "java/util/LinkedHashMap" "head" "Ljava/util/LinkedHashMap$Entry;" .null ∧ Fld Z h a "java/util/HashMap" "modCount" "I" (.int (0 : Int32))
theorem dhm_0 : decode jdk_69_method_5_code 0 = .ok (.aload_n 0, 1) := by decide +kernel
theorem dhm_1 : decode jdk_69_method_5_code 1 = .ok (.invokespecial 43, 3) := by decide +kernel
theorem dhm_4 : decode jdk_69_method_5_code 4 = .ok (.iload_n 1, 1) := by decide +kernel
theorem dhm_5 : decode jdk_69_method_5_code 5 = .ok (.ifCond .ge 30, 3) := by decide +kernel
theorem dhm_35 : decode jdk_69_method_5_code 35 = .ok (.iload_n 1, 1) := by decide +kernel
theorem dhm_36 : decode jdk_69_method_5_code 36 = .ok (.ldc 42, 2) := by decide +kernel
theorem dhm_38 : decode jdk_69_method_5_code 38 = .ok (.if_icmp .le 6, 3) := by decide +kernel
theorem dhm_44 : decode jdk_69_method_5_code 44 = .ok (.fload_n 2, 1) := by decide +kernel
theorem dhm_45 : decode jdk_69_method_5_code 45 = .ok (.fconst 0, 1) := by decide +kernel
theorem dhm_46 : decode jdk_69_method_5_code 46 = .ok (.fcmp .g, 1) := by decide +kernel
theorem dhm_47 : decode jdk_69_method_5_code 47 = .ok (.ifCond .le 10, 3) := by decide +kernel
theorem dhm_50 : decode jdk_69_method_5_code 50 = .ok (.fload_n 2, 1) := by decide +kernel
theorem dhm_51 : decode jdk_69_method_5_code 51 = .ok (.invokestatic 70, 3) := by decide +kernel
theorem dhm_54 : decode jdk_69_method_5_code 54 = .ok (.ifCond .eq 30, 3) := by decide +kernel
theorem dhm_84 : decode jdk_69_method_5_code 84 = .ok (.aload_n 0, 1) := by decide +kernel
theorem dhm_85 : decode jdk_69_method_5_code 85 = .ok (.fload_n 2, 1) := by decide +kernel
theorem dhm_86 : decode jdk_69_method_5_code 86 = .ok (.putfield 81, 3) := by decide +kernel
theorem dhm_89 : decode jdk_69_method_5_code 89 = .ok (.aload_n 0, 1) := by decide +kernel
theorem dhm_90 : decode jdk_69_method_5_code 90 = .ok (.iload_n 1, 1) := by decide +kernel
theorem dhm_91 : decode jdk_69_method_5_code 91 = .ok (.invokestatic 85, 3) := by decide +kernel
theorem dhm_94 : decode jdk_69_method_5_code 94 = .ok (.putfield 88, 3) := by decide +kernel
theorem dhm_97 : decode jdk_69_method_5_code 97 = .ok (.return_, 1) := by decide +kernel
theorem ef_hm (mI : MethodId) (a : Addr) : entryFrame mI #[(.ref a), (.int (16 : Int32)), (.float (1061158912 : UInt32))] 3 = mkF mI 0 #[.val (.ref a), .val (.int (16 : Int32)), .val (.float (1061158912 : UInt32))] [] := by first | (simp [entryFrame, mkF, argsToLocals, Value.category]; done) | rfl
theorem pn_hm : plainName "java/util/HashMap" = true := by first | decide +kernel | (simp [plainName, overriddenIn]; done)
set_option maxRecDepth 65536 in
set_option maxHeartbeats 40000000 in
theorem rmhm (lL : Launch) (Z : State) (a0 : Array Value) (hw : ∀ d ∈ tables_1, d.before a0 Z = true) (ws : List Jvm.Cond) (a : Addr) (h0 : Heap) (n0 : Nat) (Z0 : n0 ≤ h0.size) (F_loadFactor_a : Fld Z h0 a "java/util/HashMap" "loadFactor" "F" (defaultValue .float)) (F_threshold_a : Fld Z h0 a "java/util/HashMap" "threshold" "I" (.int (0 : Int32))) (F_putMode_a : Fld Z h0 a "java/util/LinkedHashMap" "putMode" "I" (.int (0 : Int32))) (F_accessOrder_a : Fld Z h0 a "java/util/LinkedHashMap" "accessOrder" "Z" (.int (0 : Int32))) (F_size_a : Fld Z h0 a "java/util/HashMap" "size" "I" (.int (0 : Int32))) (F_keySet_a : Fld Z h0 a "java/util/AbstractMap" "keySet" "Ljava/util/Set;" .null) (F_head_a : Fld Z h0 a "java/util/LinkedHashMap" "head" "Ljava/util/LinkedHashMap$Entry;" .null) (F_modCount_a : Fld Z h0 a "java/util/HashMap" "modCount" "I" (.int (0 : Int32))) (E_a : Exa Z h0 a "java/util/LinkedHashMap") (le_n0_a : n0 ≤ a) :
    MetFree lL (⟨"java/util/HashMap", "<init>", "(IF)V"⟩ : MethodName) (head1 (Jvm.Cond.code (⟨"java/util/HashMap", "<init>", "(IF)V"⟩ : MethodName) jdk_69_method_5_code 3 none :: ws) ({ frames := 2, cells := 0, slots := 0, locals := 28 } : Room)) (fun a_ U_ => a_ = #[(.ref a), (.int (16 : Int32)), (.float (1061158912 : UInt32))] ∧ Z.Warmed39 U_.vm ∧ U_.heap = h0) (fun _ _ _ _ _ => True) (fun _ U_ o_ W_ => ∃ v_ L_, o_ = .returned v_ ∧ own_Qhm Z a h0 n0 v_ W_.heap L_ ∧ FrameEnd U_ o_ W_ L_ ({ frames := 2, cells := 0, slots := 0, locals := 28 } : Room).cells ({ frames := 2, cells := 0, slots := 0, locals := 28 } : Room).slots) := by
  refine MetFree.of_bodySF (plainFor_of_name pn_hm) hisR ?_
  intro pP eE sS mI args below meth cC s₁ Bd hml0 hP hK
  obtain ⟨rfl, hZ, hh⟩ := hP
  have hx := Bd.exec
  have hby := Bd.bytes
  have hml : cC.maxLocals = 3 := hml0
  have hown : sS.vm.findClass "java/util/HashMap" = some mI.cls := by have z := findClass_of_methodNamed Bd.named; exact z
  have hnm := (name_of_methodNamed Bd.named Bd.method).1
  have X0 : Stand pP lL eE ({ frames := 2, cells := 0, slots := 0, locals := 28 } : Room) sS mI #[(.ref a), (.int (16 : Int32)), (.float (1061158912 : UInt32))] below meth cC s₁ [] 0 0 := Stand.of_body Bd
  have e0 : s₁.heap = h0 := by rw [← hh, Bd.state]; rfl
  have N0 := Fr.nil n0
  obtain ⟨G, hG, hst, hend⟩ := own_abs pP eE below sS (own_Qhm Z a h0 n0) ({ frames := 2, cells := 0, slots := 0, locals := 28 } : Room).cells ({ frames := 2, cells := 0, slots := 0, locals := 28 } : Room).slots
  refine hG (S := s₁.setTop (entryFrame mI #[(.ref a), (.int (16 : Int32)), (.float (1061158912 : UInt32))] 3)) (hst (fun t_ kt_ => castTop (ef_hm mI a) kt_) ?_)
  have Z1 := Nat.le_refl h0.size
  have K0 := Keep.refl h0 [a]
  show G (s₁.setTop (mkF mI 0 #[.val (.ref a), .val (.int (16 : Int32)), .val (.float (1061158912 : UInt32))] []))
  refine o_aloadN hst X0.here hx (hb hby dhm_0) (pc' := 1) rfl rfl rfl ?_
  obtain ⟨_, _, ⟨T_1, L_1, k_1, n_1⟩, -, X_1, ⟨Lc_1, hQ_1, l_1, y_1, z_1⟩, st_1⟩ := X0.specialBack hx (y := (⟨"java/util/AbstractMap", "<init>", "()V"⟩ : MethodName)) rfl hown (mvT hZ (own_w87 hw)) (mvT hZ (own_w88 hw)) (mvT hZ (own_w92 hw)) (by decide) (backOf (W := 0) (rmAM lL Z a0 hw [] a  h0 n0 Z0) hZ (own_w92 hw) (own_w91 hw) (by decide) (by decide)) (g := (mkF mI 1 #[.val (.ref a), .val (.int (16 : Int32)), .val (.float (1061158912 : UInt32))] [(.ref a)])) rfl (by rw [hml]; rfl) (Steps.refl _) (a := a) (argsL := []) (rest := []) (lenOf pd_0 rfl) rfl (by show 2 * 0 + _ ≤ _; exact Nat.le_of_eq rfl) (hb hby dhm_1) (fun _ _ => ⟨rfl, e0, (by decide : 0 + 0 ≤ _), (by decide : 0 + 0 ≤ _)⟩)
  dsimp only [Pt.U, Pt.locs, Pt.cells, Pt.slots] at X_1 l_1 y_1 z_1 st_1 hQ_1
  subst l_1 y_1 z_1
  obtain ⟨rfl, N_1q, eh_1⟩ := hQ_1
  have N_1 := Fr.app N0 N_1q
  refine hst (fun _ kt => st_1.trans kt) ?_
  show G (T_1.setTop (mkF mI 4 #[.val (.ref a), .val (.int (16 : Int32)), .val (.float (1061158912 : UInt32))] []))
  refine o_iloadN hst X_1.here hx (hb hby dhm_4) (pc' := 5) rfl rfl ?_
  have hc5 : ¬ ((16 : Int32) < (0 : Int32)) := by decide
  refine hst (fun _ kt => XS.ifYes X_1.here hx rfl (pc0 := 5) (pc' := 35) rfl (hb hby dhm_5) rfl ((if0 _ _).trans (flt hc5).2.1) (by decide) (by decide) kt) ?_
  show G (T_1.setTop (mkF mI 35 #[.val (.ref a), .val (.int (16 : Int32)), .val (.float (1061158912 : UInt32))] []))
  refine o_iloadN hst X_1.here hx (hb hby dhm_35) (pc' := 36) rfl rfl ?_
  refine hst (X_1.ldcInt hx hown (mvT hZ (own_w94 hw)) (g := (mkF mI 36 #[.val (.ref a), .val (.int (16 : Int32)), .val (.float (1061158912 : UInt32))] [(.int (16 : Int32))])) rfl (hb hby dhm_36)) ?_
  show G (T_1.setTop (mkF mI 38 #[.val (.ref a), .val (.int (16 : Int32)), .val (.float (1061158912 : UInt32))] [(.int (1073741824 : Int32)), (.int (16 : Int32))]))
  have hc38 : ¬ ((1073741824 : Int32) < (16 : Int32)) := by decide
  refine hst (fun _ kt => XS.icmpYes X_1.here hx rfl (pc0 := 38) (pc' := 44) rfl (hb hby dhm_38) rfl (flt hc38).2.2.2 (by decide) (by decide) kt) ?_
  show G (T_1.setTop (mkF mI 44 #[.val (.ref a), .val (.int (16 : Int32)), .val (.float (1061158912 : UInt32))] []))
  refine o_floadN hst X_1.here hx (hb hby dhm_44) (pc' := 45) rfl rfl ?_
  refine hst (fun _ kt => XS.fconst0 X_1.here hx rfl (hb hby dhm_45) (v := (0 : UInt32)) (by decide +kernel) kt) ?_
  show G (T_1.setTop (mkF mI 46 #[.val (.ref a), .val (.int (16 : Int32)), .val (.float (1061158912 : UInt32))] [(.float (0 : UInt32)), (.float (1061158912 : UInt32))]))
  refine hst (fun _ kt => XS.fcmpS X_1.here hx rfl (hb hby dhm_46) rfl (v := (1 : Int32)) (by decide +kernel) kt) ?_
  show G (T_1.setTop (mkF mI 47 #[.val (.ref a), .val (.int (16 : Int32)), .val (.float (1061158912 : UInt32))] [(.int (1 : Int32))]))
  have hc47 : (0 : Int32) < (1 : Int32) := by decide
  refine hst (fun _ kt => XS.ifNo X_1.here hx rfl (hb hby dhm_47) rfl ((if0 _ _).trans (tlt hc47).2.2.2) kt) ?_
  show G (T_1.setTop (mkF mI 50 #[.val (.ref a), .val (.int (16 : Int32)), .val (.float (1061158912 : UInt32))] []))
  refine o_floadN hst X_1.here hx (hb hby dhm_50) (pc' := 51) rfl rfl ?_
  obtain ⟨_, _, ⟨T_2, L_2, k_2, n_2⟩, -, X_2, ⟨Lc_2, hQ_2, l_2, y_2, z_2⟩, st_2⟩ := Jvm.LawKit.callS X_1 hx (y := (⟨"java/lang/Float", "isNaN", "(F)Z"⟩ : MethodName)) hown (mvT hZ (own_w95 hw)) (mvT hZ (own_w96 hw)) (mvT hZ (own_w97 hw)) (mvT hZ (own_w98 hw)) (by decide) (backOf (W := 0) (rmfn lL Z a0 hw []   h0 n0 Z0) hZ (own_w98 hw) (own_w97 hw) (by decide) (by decide)) (g := (mkF mI 51 #[.val (.ref a), .val (.int (16 : Int32)), .val (.float (1061158912 : UInt32))] [(.float (1061158912 : UInt32))])) rfl (by rw [hml]; rfl) (argsL := [(.float (1061158912 : UInt32))]) (rest := []) (lenOf pd_2 rfl) rfl (by show 2 * 0 + _ ≤ _; exact Nat.le_of_eq rfl) (hb hby dhm_51) (fun _ _ => ⟨rfl, eh_1, (by decide : 0 + 0 ≤ _), (by decide : 0 + 0 ≤ _)⟩)
  dsimp only [Pt.U, Pt.locs, Pt.cells, Pt.slots] at X_2 l_2 y_2 z_2 st_2 hQ_2
  subst l_2 y_2 z_2
  obtain ⟨rfl, N_2q, eh_2⟩ := hQ_2
  have N_2 := Fr.app N_1 N_2q
  refine hst (fun _ kt => st_2 _ kt) ?_
  show G (T_2.setTop (mkF mI 54 #[.val (.ref a), .val (.int (16 : Int32)), .val (.float (1061158912 : UInt32))] [(.int (0 : Int32))]))
  have hc54 : (0 : Int32) = (0 : Int32) := rfl
  refine hst (fun _ kt => XS.ifYes X_2.here hx rfl (pc0 := 54) (pc' := 84) rfl (hb hby dhm_54) rfl ((if0 _ _).trans (teq hc54).1) (by decide) (by decide) kt) ?_
  show G (T_2.setTop (mkF mI 84 #[.val (.ref a), .val (.int (16 : Int32)), .val (.float (1061158912 : UInt32))] []))
  refine o_aloadN hst X_2.here hx (hb hby dhm_84) (pc' := 85) rfl rfl rfl ?_
  refine o_floadN hst X_2.here hx (hb hby dhm_85) (pc' := 86) rfl rfl ?_
  obtain ⟨T_3, h_3, X_3, e_3, W_3, st_3⟩ := putF X_2 hx hZ hown (host := "") (Or.inl (own_w99 hw)) Via.refl eh_2 F_loadFactor_a E_a (Or.inr ⟨(own_w100 hw), rfl, hnm⟩) (own_w75 hw) (ty := .float) (by decide) rfl rfl (g := (mkF mI 86 #[.val (.ref a), .val (.int (16 : Int32)), .val (.float (1061158912 : UInt32))] [(.float (1061158912 : UInt32)), (.ref a)])) rfl rfl (hb hby dhm_86)
  have Z0 := Nat.le_trans Z0 (Keep.of_wr W_3).1
  have Z1 := Nat.le_trans Z1 (Keep.of_wr W_3).1
  have K0 := K0.wr W_3 (Or.inl (List.mem_of_getElem? (i := 0) rfl))
  have F_loadFactor_a := F_loadFactor_a.same W_3
  have F_threshold_a := F_threshold_a.other W_3 (Or.inr (slot_ne (Or.inl (own_w110 hw)) (Or.inr (own_w100 hw)) (by decide) (t := .int) (t' := .float) (by decide) (by decide)))
  have F_putMode_a := F_putMode_a.other W_3 (Or.inr (slot_ne (Or.inl (own_w112 hw)) (Or.inr (own_w100 hw)) (by decide) (t := .int) (t' := .float) (by decide) (by decide)))
  have F_accessOrder_a := F_accessOrder_a.other W_3 (Or.inr (slot_ne (Or.inr (own_w114 hw)) (Or.inr (own_w100 hw)) (by decide) (t := .boolean) (t' := .float) (by decide) (by decide)))
  have F_size_a := F_size_a.other W_3 (Or.inr (slot_ne (Or.inl (own_w207 hw)) (Or.inr (own_w100 hw)) (by decide) (t := .int) (t' := .float) (by decide) (by decide)))
  have F_keySet_a := F_keySet_a.other W_3 (Or.inr (slot_ne (Or.inl (own_w229 hw)) (Or.inr (own_w100 hw)) (by decide) (t := (.object "java/util/Set")) (t' := .float) (by decide) (by decide)))
  have F_head_a := F_head_a.other W_3 (Or.inr (slot_ne (Or.inl (own_w270 hw)) (Or.inr (own_w100 hw)) (by decide) (t := (.object "java/util/LinkedHashMap$Entry")) (t' := .float) (by decide) (by decide)))
  have F_modCount_a := F_modCount_a.other W_3 (Or.inr (slot_ne (Or.inl (own_w275 hw)) (Or.inr (own_w100 hw)) (by decide) (t := .int) (t' := .float) (by decide) (by decide)))
  have E_a := E_a.wr W_3
  have N_3 := Fr.snoc X_3 N_2 le_n0_a
  refine hst st_3 ?_
  show G (T_3.setTop (mkF mI 89 #[.val (.ref a), .val (.int (16 : Int32)), .val (.float (1061158912 : UInt32))] []))
  refine o_aloadN hst X_3.here hx (hb hby dhm_89) (pc' := 90) rfl rfl rfl ?_
  refine o_iloadN hst X_3.here hx (hb hby dhm_90) (pc' := 91) rfl rfl ?_
  obtain ⟨_, _, ⟨T_4, L_4, k_4, n_4⟩, -, X_4, ⟨Lc_4, hQ_4, l_4, y_4, z_4⟩, st_4⟩ := Jvm.LawKit.callS X_3 hx (y := (⟨"java/util/HashMap", "tableSizeFor", "(I)I"⟩ : MethodName)) hown (mvT hZ (own_w101 hw)) (mvT hZ (own_w102 hw)) (mvT hZ (own_w85 hw)) (mvT hZ (own_w103 hw)) (by decide) (backOf (W := 1) (rmts lL Z a0 hw []   h_3 n0 Z0) hZ (own_w103 hw) (own_w85 hw) (by decide) (by decide)) (g := (mkF mI 91 #[.val (.ref a), .val (.int (16 : Int32)), .val (.float (1061158912 : UInt32))] [(.int (16 : Int32)), (.ref a)])) rfl (by rw [hml]; rfl) (argsL := [(.int (16 : Int32))]) (rest := [(.ref a)]) (lenOf pd_1 rfl) rfl (by show 2 * 0 + _ ≤ _; exact Nat.le_of_eq rfl) (hb hby dhm_91) (fun _ _ => ⟨rfl, e_3, (by decide : 0 + 0 ≤ _), (by decide : 0 + 0 ≤ _)⟩)
  dsimp only [Pt.U, Pt.locs, Pt.cells, Pt.slots] at X_4 l_4 y_4 z_4 st_4 hQ_4
  subst l_4 y_4 z_4
  obtain ⟨rfl, N_4q, eh_4⟩ := hQ_4
  have N_4 := Fr.app N_3 N_4q
  refine hst (fun _ kt => st_4 _ kt) ?_
  show G (T_4.setTop (mkF mI 94 #[.val (.ref a), .val (.int (16 : Int32)), .val (.float (1061158912 : UInt32))] [(.int (16 : Int32)), (.ref a)]))
  obtain ⟨T_5, h_5, X_5, e_5, W_5, st_5⟩ := putF X_4 hx hZ hown (host := "") (Or.inl (own_w109 hw)) Via.refl eh_4 F_threshold_a E_a (Or.inl (own_w110 hw)) (own_w75 hw) (ty := .int) (by decide) rfl rfl (g := (mkF mI 94 #[.val (.ref a), .val (.int (16 : Int32)), .val (.float (1061158912 : UInt32))] [(.int (16 : Int32)), (.ref a)])) rfl rfl (hb hby dhm_94)
  have Z0 := Nat.le_trans Z0 (Keep.of_wr W_5).1
  have Z1 := Nat.le_trans Z1 (Keep.of_wr W_5).1
  have K0 := K0.wr W_5 (Or.inl (List.mem_of_getElem? (i := 0) rfl))
  have F_threshold_a := F_threshold_a.same W_5
  have F_putMode_a := F_putMode_a.other W_5 (Or.inr (slot_ne (Or.inl (own_w112 hw)) (Or.inl (own_w110 hw)) (by decide) (t := .int) (t' := .int) (by decide) (by decide)))
  have F_accessOrder_a := F_accessOrder_a.other W_5 (Or.inr (slot_ne (Or.inr (own_w114 hw)) (Or.inl (own_w110 hw)) (by decide) (t := .boolean) (t' := .int) (by decide) (by decide)))
  have F_size_a := F_size_a.other W_5 (Or.inr (slot_ne (Or.inl (own_w207 hw)) (Or.inl (own_w110 hw)) (by decide) (t := .int) (t' := .int) (by decide) (by decide)))
  have F_keySet_a := F_keySet_a.other W_5 (Or.inr (slot_ne (Or.inl (own_w229 hw)) (Or.inl (own_w110 hw)) (by decide) (t := (.object "java/util/Set")) (t' := .int) (by decide) (by decide)))
  have F_head_a := F_head_a.other W_5 (Or.inr (slot_ne (Or.inl (own_w270 hw)) (Or.inl (own_w110 hw)) (by decide) (t := (.object "java/util/LinkedHashMap$Entry")) (t' := .int) (by decide) (by decide)))
  have F_modCount_a := F_modCount_a.other W_5 (Or.inr (slot_ne (Or.inl (own_w275 hw)) (Or.inl (own_w110 hw)) (by decide) (t := .int) (t' := .int) (by decide) (by decide)))
  have E_a := E_a.wr W_5
  have N_5 := Fr.snoc X_5 N_4 le_n0_a
  refine hst st_5 ?_
  show G (T_5.setTop (mkF mI 97 #[.val (.ref a), .val (.int (16 : Int32)), .val (.float (1061158912 : UInt32))] []))
  exact hend (own_goVoid X_5 hx Bd.returns (hb hby dhm_97) Bd.notSynchronized (by rw [e_5]; exact ⟨rfl, N_5, K0, E_a, F_putMode_a, F_accessOrder_a, F_size_a, F_keySet_a, F_head_a, F_modCount_a⟩) (by decide) (by decide))
def own_Qlm (Z : State) (a : Addr) (h0 : Heap) (n0 : Nat) (v : Option Value) (h : Heap) (L : List Loc) : Prop := v = none ∧ Fr n0 L ∧ Keep h0 h [a] ∧ Exa Z h a "java/util/LinkedHashMap" ∧ Fld Z h a "java/util/HashMap" "size" "I" (.int (0 : Int32)) ∧ Fld Z h a "java/util/AbstractMap" "keySet" "Ljava/util/Set;" .null ∧ Fld Z h a "java/util/LinkedHashMap" "head" "Ljava/util/LinkedHashMap$Entry;" .null ∧ Fld Z h a "java/util/HashMap" "modCount" "I" (.int (0 : Int32))
theorem dlm_0 : decode jdk_94_method_14_code 0 = .ok (.aload_n 0, 1) := by decide +kernel
theorem dlm_1 : decode jdk_94_method_14_code 1 = .ok (.iload_n 1, 1) := by decide +kernel
theorem dlm_2 : decode jdk_94_method_14_code 2 = .ok (.fload_n 2, 1) := by decide +kernel
theorem dlm_3 : decode jdk_94_method_14_code 3 = .ok (.invokespecial 81, 3) := by decide +kernel
theorem dlm_6 : decode jdk_94_method_14_code 6 = .ok (.aload_n 0, 1) := by decide +kernel
theorem dlm_7 : decode jdk_94_method_14_code 7 = .ok (.iconst 0, 1) := by decide +kernel
theorem dlm_8 : decode jdk_94_method_14_code 8 = .ok (.putfield 1, 3) := by decide +kernel
theorem dlm_11 : decode jdk_94_method_14_code 11 = .ok (.aload_n 0, 1) := by decide +kernel
theorem dlm_12 : decode jdk_94_method_14_code 12 = .ok (.iconst 0, 1) := by decide +kernel
theorem dlm_13 : decode jdk_94_method_14_code 13 = .ok (.putfield 64, 3) := by decide +kernel
theorem dlm_16 : decode jdk_94_method_14_code 16 = .ok (.return_, 1) := by decide +kernel
theorem ef_lm (mI : MethodId) (a : Addr) : entryFrame mI #[(.ref a), (.int (16 : Int32)), (.float (1061158912 : UInt32))] 3 = mkF mI 0 #[.val (.ref a), .val (.int (16 : Int32)), .val (.float (1061158912 : UInt32))] [] := by first | (simp [entryFrame, mkF, argsToLocals, Value.category]; done) | rfl
theorem pn_lm : plainName "java/util/LinkedHashMap" = true := by first | decide +kernel | (simp [plainName, overriddenIn]; done)
set_option maxRecDepth 65536 in
set_option maxHeartbeats 40000000 in
theorem rmlm (lL : Launch) (Z : State) (a0 : Array Value) (hw : ∀ d ∈ tables_1, d.before a0 Z = true) (ws : List Jvm.Cond) (a : Addr) (h0 : Heap) (n0 : Nat) (Z0 : n0 ≤ h0.size) (F_loadFactor_a : Fld Z h0 a "java/util/HashMap" "loadFactor" "F" (defaultValue .float)) (F_threshold_a : Fld Z h0 a "java/util/HashMap" "threshold" "I" (.int (0 : Int32))) (F_putMode_a : Fld Z h0 a "java/util/LinkedHashMap" "putMode" "I" (.int (0 : Int32))) (F_accessOrder_a : Fld Z h0 a "java/util/LinkedHashMap" "accessOrder" "Z" (.int (0 : Int32))) (F_size_a : Fld Z h0 a "java/util/HashMap" "size" "I" (.int (0 : Int32))) (F_keySet_a : Fld Z h0 a "java/util/AbstractMap" "keySet" "Ljava/util/Set;" .null) (F_head_a : Fld Z h0 a "java/util/LinkedHashMap" "head" "Ljava/util/LinkedHashMap$Entry;" .null) (F_modCount_a : Fld Z h0 a "java/util/HashMap" "modCount" "I" (.int (0 : Int32))) (E_a : Exa Z h0 a "java/util/LinkedHashMap") (le_n0_a : n0 ≤ a) :
    MetFree lL (⟨"java/util/LinkedHashMap", "<init>", "(IF)V"⟩ : MethodName) (head1 (Jvm.Cond.code (⟨"java/util/LinkedHashMap", "<init>", "(IF)V"⟩ : MethodName) jdk_94_method_14_code 3 none :: ws) ({ frames := 3, cells := 0, slots := 0, locals := 42 } : Room)) (fun a_ U_ => a_ = #[(.ref a), (.int (16 : Int32)), (.float (1061158912 : UInt32))] ∧ Z.Warmed39 U_.vm ∧ U_.heap = h0) (fun _ _ _ _ _ => True) (fun _ U_ o_ W_ => ∃ v_ L_, o_ = .returned v_ ∧ own_Qlm Z a h0 n0 v_ W_.heap L_ ∧ FrameEnd U_ o_ W_ L_ ({ frames := 3, cells := 0, slots := 0, locals := 42 } : Room).cells ({ frames := 3, cells := 0, slots := 0, locals := 42 } : Room).slots) := by
  refine MetFree.of_bodySF (plainFor_of_name pn_lm) hisR ?_
  intro pP eE sS mI args below meth cC s₁ Bd hml0 hP hK
  obtain ⟨rfl, hZ, hh⟩ := hP
  have hx := Bd.exec
  have hby := Bd.bytes
  have hml : cC.maxLocals = 3 := hml0
  have hown : sS.vm.findClass "java/util/LinkedHashMap" = some mI.cls := by have z := findClass_of_methodNamed Bd.named; exact z
  have hnm := (name_of_methodNamed Bd.named Bd.method).1
  have X0 : Stand pP lL eE ({ frames := 3, cells := 0, slots := 0, locals := 42 } : Room) sS mI #[(.ref a), (.int (16 : Int32)), (.float (1061158912 : UInt32))] below meth cC s₁ [] 0 0 := Stand.of_body Bd
  have e0 : s₁.heap = h0 := by rw [← hh, Bd.state]; rfl
  have N0 := Fr.nil n0
  obtain ⟨G, hG, hst, hend⟩ := own_abs pP eE below sS (own_Qlm Z a h0 n0) ({ frames := 3, cells := 0, slots := 0, locals := 42 } : Room).cells ({ frames := 3, cells := 0, slots := 0, locals := 42 } : Room).slots
  refine hG (S := s₁.setTop (entryFrame mI #[(.ref a), (.int (16 : Int32)), (.float (1061158912 : UInt32))] 3)) (hst (fun t_ kt_ => castTop (ef_lm mI a) kt_) ?_)
  have Z1 := Nat.le_refl h0.size
  have K0 := Keep.refl h0 [a]
  show G (s₁.setTop (mkF mI 0 #[.val (.ref a), .val (.int (16 : Int32)), .val (.float (1061158912 : UInt32))] []))
  refine o_aloadN hst X0.here hx (hb hby dlm_0) (pc' := 1) rfl rfl rfl ?_
  refine o_iloadN hst X0.here hx (hb hby dlm_1) (pc' := 2) rfl rfl ?_
  refine o_floadN hst X0.here hx (hb hby dlm_2) (pc' := 3) rfl rfl ?_
  obtain ⟨_, _, ⟨T_1, L_1, k_1, n_1⟩, -, X_1, ⟨Lc_1, hQ_1, l_1, y_1, z_1⟩, st_1⟩ := X0.specialBack hx (y := (⟨"java/util/HashMap", "<init>", "(IF)V"⟩ : MethodName)) rfl hown (mvT hZ (own_w81 hw)) (mvT hZ (own_w82 hw)) (mvT hZ (own_w86 hw)) (by decide) (backOf (W := 0) (rmhm lL Z a0 hw [] a  h0 n0 Z0 F_loadFactor_a F_threshold_a F_putMode_a F_accessOrder_a F_size_a F_keySet_a F_head_a F_modCount_a E_a le_n0_a) hZ (own_w86 hw) (own_w85 hw) (by decide) (by decide)) (g := (mkF mI 3 #[.val (.ref a), .val (.int (16 : Int32)), .val (.float (1061158912 : UInt32))] [(.float (1061158912 : UInt32)), (.int (16 : Int32)), (.ref a)])) rfl (by rw [hml]; rfl) (Steps.refl _) (a := a) (argsL := [(.int (16 : Int32)), (.float (1061158912 : UInt32))]) (rest := []) (lenOf pd_3 rfl) rfl (by show 2 * 0 + _ ≤ _; exact Nat.le_of_eq rfl) (hb hby dlm_3) (fun _ _ => ⟨rfl, e0, (by decide : 0 + 0 ≤ _), (by decide : 0 + 0 ≤ _)⟩)
  dsimp only [Pt.U, Pt.locs, Pt.cells, Pt.slots] at X_1 l_1 y_1 z_1 st_1 hQ_1
  subst l_1 y_1 z_1
  obtain ⟨rfl, N_1q, K_1, Ex_1, GF_putMode_a, GF_accessOrder_a, GF_size_a, GF_keySet_a, GF_head_a, GF_modCount_a⟩ := hQ_1
  have Z0 := Nat.le_trans Z0 K_1.1
  have Z1 := Nat.le_trans Z1 K_1.1
  have K0 := K0.trans K_1 (allS (Or.inl (List.mem_of_getElem? (i := 0) rfl)) all0)
  have E_a := E_a.keep K_1
  have F_putMode_a := GF_putMode_a
  have F_accessOrder_a := GF_accessOrder_a
  have F_size_a := GF_size_a
  have F_keySet_a := GF_keySet_a
  have F_head_a := GF_head_a
  have F_modCount_a := GF_modCount_a
  have N_1 := Fr.app N0 N_1q
  refine hst (fun _ kt => st_1.trans kt) ?_
  show G (T_1.setTop (mkF mI 6 #[.val (.ref a), .val (.int (16 : Int32)), .val (.float (1061158912 : UInt32))] []))
  refine o_aloadN hst X_1.here hx (hb hby dlm_6) (pc' := 7) rfl rfl rfl ?_
  refine o_iconst hst X_1.here hx (hb hby dlm_7) (pc' := 8) rfl (z := (0 : Int32)) rfl ?_
  obtain ⟨T_2, h_2, X_2, e_2, W_2, st_2⟩ := putF X_1 hx hZ hown (host := "") (Or.inl (own_w111 hw)) Via.refl rfl F_putMode_a E_a (Or.inl (own_w112 hw)) (own_w75 hw) (ty := .int) (by decide) rfl rfl (g := (mkF mI 8 #[.val (.ref a), .val (.int (16 : Int32)), .val (.float (1061158912 : UInt32))] [(.int (0 : Int32)), (.ref a)])) rfl rfl (hb hby dlm_8)
  have Z0 := Nat.le_trans Z0 (Keep.of_wr W_2).1
  have Z1 := Nat.le_trans Z1 (Keep.of_wr W_2).1
  have K0 := K0.wr W_2 (Or.inl (List.mem_of_getElem? (i := 0) rfl))
  have E_a := E_a.wr W_2
  have F_putMode_a := F_putMode_a.same W_2
  have F_accessOrder_a := F_accessOrder_a.other W_2 (Or.inr (slot_ne (Or.inr (own_w114 hw)) (Or.inl (own_w112 hw)) (by decide) (t := .boolean) (t' := .int) (by decide) (by decide)))
  have F_size_a := F_size_a.other W_2 (Or.inr (slot_ne (Or.inl (own_w207 hw)) (Or.inl (own_w112 hw)) (by decide) (t := .int) (t' := .int) (by decide) (by decide)))
  have F_keySet_a := F_keySet_a.other W_2 (Or.inr (slot_ne (Or.inl (own_w229 hw)) (Or.inl (own_w112 hw)) (by decide) (t := (.object "java/util/Set")) (t' := .int) (by decide) (by decide)))
  have F_head_a := F_head_a.other W_2 (Or.inr (slot_ne (Or.inl (own_w270 hw)) (Or.inl (own_w112 hw)) (by decide) (t := (.object "java/util/LinkedHashMap$Entry")) (t' := .int) (by decide) (by decide)))
  have F_modCount_a := F_modCount_a.other W_2 (Or.inr (slot_ne (Or.inl (own_w275 hw)) (Or.inl (own_w112 hw)) (by decide) (t := .int) (t' := .int) (by decide) (by decide)))
  have N_2 := Fr.snoc X_2 N_1 le_n0_a
  refine hst st_2 ?_
  show G (T_2.setTop (mkF mI 11 #[.val (.ref a), .val (.int (16 : Int32)), .val (.float (1061158912 : UInt32))] []))
  refine o_aloadN hst X_2.here hx (hb hby dlm_11) (pc' := 12) rfl rfl rfl ?_
  refine o_iconst hst X_2.here hx (hb hby dlm_12) (pc' := 13) rfl (z := (0 : Int32)) rfl ?_
  obtain ⟨T_3, h_3, X_3, e_3, W_3, st_3⟩ := putFN X_2 hx hZ hown (own_w113 hw) Via.refl e_2 F_accessOrder_a E_a (Or.inr ⟨(own_w114 hw), rfl, hnm⟩) (own_w75 hw) (ty := .boolean) (v' := (.int (0 : Int32))) (by decide) rfl rfl (g := (mkF mI 13 #[.val (.ref a), .val (.int (16 : Int32)), .val (.float (1061158912 : UInt32))] [(.int (0 : Int32)), (.ref a)])) rfl rfl (hb hby dlm_13)
  have Z0 := Nat.le_trans Z0 (Keep.of_wr W_3).1
  have Z1 := Nat.le_trans Z1 (Keep.of_wr W_3).1
  have K0 := K0.wr W_3 (Or.inl (List.mem_of_getElem? (i := 0) rfl))
  have E_a := E_a.wr W_3
  have F_putMode_a := F_putMode_a.other W_3 (Or.inr (slot_ne (Or.inl (own_w112 hw)) (Or.inr (own_w114 hw)) (by decide) (t := .int) (t' := .boolean) (by decide) (by decide)))
  have F_accessOrder_a := F_accessOrder_a.same W_3
  have F_size_a := F_size_a.other W_3 (Or.inr (slot_ne (Or.inl (own_w207 hw)) (Or.inr (own_w114 hw)) (by decide) (t := .int) (t' := .boolean) (by decide) (by decide)))
  have F_keySet_a := F_keySet_a.other W_3 (Or.inr (slot_ne (Or.inl (own_w229 hw)) (Or.inr (own_w114 hw)) (by decide) (t := (.object "java/util/Set")) (t' := .boolean) (by decide) (by decide)))
  have F_head_a := F_head_a.other W_3 (Or.inr (slot_ne (Or.inl (own_w270 hw)) (Or.inr (own_w114 hw)) (by decide) (t := (.object "java/util/LinkedHashMap$Entry")) (t' := .boolean) (by decide) (by decide)))
  have F_modCount_a := F_modCount_a.other W_3 (Or.inr (slot_ne (Or.inl (own_w275 hw)) (Or.inr (own_w114 hw)) (by decide) (t := .int) (t' := .boolean) (by decide) (by decide)))
  have N_3 := Fr.snoc X_3 N_2 le_n0_a
  refine hst st_3 ?_
  show G (T_3.setTop (mkF mI 16 #[.val (.ref a), .val (.int (16 : Int32)), .val (.float (1061158912 : UInt32))] []))
  exact hend (own_goVoid X_3 hx Bd.returns (hb hby dlm_16) Bd.notSynchronized (by rw [e_3]; exact ⟨rfl, N_3, K0, E_a, F_size_a, F_keySet_a, F_head_a, F_modCount_a⟩) (by decide) (by decide))
def own_Qh0 (Z : State) (a : Addr) (h0 : Heap) (n0 : Nat) (v : Option Value) (h : Heap) (L : List Loc) : Prop := v = none ∧ Fr n0 L ∧ Keep h0 h [a] ∧ Fld Z h a "java/util/LinkedHashMap" "putMode" "I" (.int (0 : Int32)) ∧ Fld Z h a "java/util/LinkedHashMap" "accessOrder" "Z" (.int (0 : Int32))
def own_QK (ws : List Addr) (h0 : Heap) (n0 : Nat) (v : Option Value) (h : Heap) (L : List Loc) : Prop := v = none ∧ Fr n0 L ∧ Keep h0 h ws
theorem dh0_0 : decode jdk_69_method_7_code 0 = .ok (.aload_n 0, 1) := by decide +kernel
theorem dh0_1 : decode jdk_69_method_7_code 1 = .ok (.invokespecial 43, 3) := by decide +kernel
theorem dh0_4 : decode jdk_69_method_7_code 4 = .ok (.aload_n 0, 1) := by decide +kernel
theorem dh0_5 : decode jdk_69_method_7_code 5 = .ok (.ldc 92, 2) := by decide +kernel
theorem dh0_7 : decode jdk_69_method_7_code 7 = .ok (.putfield 81, 3) := by decide +kernel
theorem dh0_10 : decode jdk_69_method_7_code 10 = .ok (.return_, 1) := by decide +kernel
theorem ef_h0 (mI : MethodId) (a : Addr) : entryFrame mI #[(.ref a)] 1 = mkF mI 0 #[.val (.ref a)] [] := by first | (simp [entryFrame, mkF, argsToLocals, Value.category]; done) | rfl
theorem pn_h0 : plainName "java/util/HashMap" = true := by first | decide +kernel | (simp [plainName, overriddenIn]; done)
set_option maxRecDepth 65536 in
set_option maxHeartbeats 40000000 in
theorem rmh0 (lL : Launch) (Z : State) (a0 : Array Value) (hw : ∀ d ∈ tables_1, d.before a0 Z = true) (ws : List Jvm.Cond) (a : Addr) (h0 : Heap) (n0 : Nat) (Z0 : n0 ≤ h0.size) (F_loadFactor_a : Fld Z h0 a "java/util/HashMap" "loadFactor" "F" (defaultValue .float)) (F_putMode_a : Fld Z h0 a "java/util/LinkedHashMap" "putMode" "I" (.int (0 : Int32))) (F_accessOrder_a : Fld Z h0 a "java/util/LinkedHashMap" "accessOrder" "Z" (.int (0 : Int32))) (E_a : Exa Z h0 a "java/util/LinkedHashMap") (le_n0_a : n0 ≤ a) :
    MetFree lL (⟨"java/util/HashMap", "<init>", "()V"⟩ : MethodName) (head1 (Jvm.Cond.code (⟨"java/util/HashMap", "<init>", "()V"⟩ : MethodName) jdk_69_method_7_code 1 none :: ws) ({ frames := 2, cells := 0, slots := 0, locals := 24 } : Room)) (fun a_ U_ => a_ = #[(.ref a)] ∧ Z.Warmed39 U_.vm ∧ U_.heap = h0) (fun _ _ _ _ _ => True) (fun _ U_ o_ W_ => ∃ v_ L_, o_ = .returned v_ ∧ own_Qh0 Z a h0 n0 v_ W_.heap L_ ∧ FrameEnd U_ o_ W_ L_ ({ frames := 2, cells := 0, slots := 0, locals := 24 } : Room).cells ({ frames := 2, cells := 0, slots := 0, locals := 24 } : Room).slots) := by
  refine MetFree.of_bodySF (plainFor_of_name pn_h0) hisR ?_
  intro pP eE sS mI args below meth cC s₁ Bd hml0 hP hK
  obtain ⟨rfl, hZ, hh⟩ := hP
  have hx := Bd.exec
  have hby := Bd.bytes
  have hml : cC.maxLocals = 1 := hml0
  have hown : sS.vm.findClass "java/util/HashMap" = some mI.cls := by have z := findClass_of_methodNamed Bd.named; exact z
  have hnm := (name_of_methodNamed Bd.named Bd.method).1
  have X0 : Stand pP lL eE ({ frames := 2, cells := 0, slots := 0, locals := 24 } : Room) sS mI #[(.ref a)] below meth cC s₁ [] 0 0 := Stand.of_body Bd
  have e0 : s₁.heap = h0 := by rw [← hh, Bd.state]; rfl
  have N0 := Fr.nil n0
  obtain ⟨G, hG, hst, hend⟩ := own_abs pP eE below sS (own_Qh0 Z a h0 n0) ({ frames := 2, cells := 0, slots := 0, locals := 24 } : Room).cells ({ frames := 2, cells := 0, slots := 0, locals := 24 } : Room).slots
  refine hG (S := s₁.setTop (entryFrame mI #[(.ref a)] 1)) (hst (fun t_ kt_ => castTop (ef_h0 mI a) kt_) ?_)
  have Z1 := Nat.le_refl h0.size
  have K0 := Keep.refl h0 [a]
  show G (s₁.setTop (mkF mI 0 #[.val (.ref a)] []))
  refine o_aloadN hst X0.here hx (hb hby dh0_0) (pc' := 1) rfl rfl rfl ?_
  obtain ⟨_, _, ⟨T_1, L_1, k_1, n_1⟩, -, X_1, ⟨Lc_1, hQ_1, l_1, y_1, z_1⟩, st_1⟩ := X0.specialBack hx (y := (⟨"java/util/AbstractMap", "<init>", "()V"⟩ : MethodName)) rfl hown (mvT hZ (own_w87 hw)) (mvT hZ (own_w88 hw)) (mvT hZ (own_w92 hw)) (by decide) (backOf (W := 0) (rmAM lL Z a0 hw [] a  h0 n0 Z0) hZ (own_w92 hw) (own_w91 hw) (by decide) (by decide)) (g := (mkF mI 1 #[.val (.ref a)] [(.ref a)])) rfl (by rw [hml]; rfl) (Steps.refl _) (a := a) (argsL := []) (rest := []) (lenOf pd_0 rfl) rfl (by show 2 * 0 + _ ≤ _; exact Nat.le_of_eq rfl) (hb hby dh0_1) (fun _ _ => ⟨rfl, e0, (by decide : 0 + 0 ≤ _), (by decide : 0 + 0 ≤ _)⟩)
  dsimp only [Pt.U, Pt.locs, Pt.cells, Pt.slots] at X_1 l_1 y_1 z_1 st_1 hQ_1
  subst l_1 y_1 z_1
  obtain ⟨rfl, N_1q, eh_1⟩ := hQ_1
  have N_1 := Fr.app N0 N_1q
  refine hst (fun _ kt => st_1.trans kt) ?_
  show G (T_1.setTop (mkF mI 4 #[.val (.ref a)] []))
  refine o_aloadN hst X_1.here hx (hb hby dh0_4) (pc' := 5) rfl rfl rfl ?_
  refine hst (X_1.ldcFloatC hx hown (mvT hZ (own_w139 hw)) (g := (mkF mI 5 #[.val (.ref a)] [(.ref a)])) rfl (hb hby dh0_5)) ?_
  show G (T_1.setTop (mkF mI 7 #[.val (.ref a)] [(.float (1061158912 : UInt32)), (.ref a)]))
  obtain ⟨T_2, h_2, X_2, e_2, W_2, st_2⟩ := putF X_1 hx hZ hown (host := "") (Or.inl (own_w99 hw)) Via.refl eh_1 F_loadFactor_a E_a (Or.inr ⟨(own_w100 hw), rfl, hnm⟩) (own_w75 hw) (ty := .float) (by decide) rfl rfl (g := (mkF mI 7 #[.val (.ref a)] [(.float (1061158912 : UInt32)), (.ref a)])) rfl rfl (hb hby dh0_7)
  have Z0 := Nat.le_trans Z0 (Keep.of_wr W_2).1
  have Z1 := Nat.le_trans Z1 (Keep.of_wr W_2).1
  have K0 := K0.wr W_2 (Or.inl (List.mem_of_getElem? (i := 0) rfl))
  have F_loadFactor_a := F_loadFactor_a.same W_2
  have F_putMode_a := F_putMode_a.other W_2 (Or.inr (slot_ne (Or.inl (own_w112 hw)) (Or.inr (own_w100 hw)) (by decide) (t := .int) (t' := .float) (by decide) (by decide)))
  have F_accessOrder_a := F_accessOrder_a.other W_2 (Or.inr (slot_ne (Or.inr (own_w114 hw)) (Or.inr (own_w100 hw)) (by decide) (t := .boolean) (t' := .float) (by decide) (by decide)))
  have E_a := E_a.wr W_2
  have N_2 := Fr.snoc X_2 N_1 le_n0_a
  refine hst st_2 ?_
  show G (T_2.setTop (mkF mI 10 #[.val (.ref a)] []))
  exact hend (own_goVoid X_2 hx Bd.returns (hb hby dh0_10) Bd.notSynchronized (by rw [e_2]; exact ⟨rfl, N_2, K0, F_putMode_a, F_accessOrder_a⟩) (by decide) (by decide))
theorem dl0_0 : decode jdk_94_method_16_code 0 = .ok (.aload_n 0, 1) := by decide +kernel
theorem dl0_1 : decode jdk_94_method_16_code 1 = .ok (.invokespecial 87, 3) := by decide +kernel
theorem dl0_4 : decode jdk_94_method_16_code 4 = .ok (.aload_n 0, 1) := by decide +kernel
theorem dl0_5 : decode jdk_94_method_16_code 5 = .ok (.iconst 0, 1) := by decide +kernel
theorem dl0_6 : decode jdk_94_method_16_code 6 = .ok (.putfield 1, 3) := by decide +kernel
theorem dl0_9 : decode jdk_94_method_16_code 9 = .ok (.aload_n 0, 1) := by decide +kernel
theorem dl0_10 : decode jdk_94_method_16_code 10 = .ok (.iconst 0, 1) := by decide +kernel
theorem dl0_11 : decode jdk_94_method_16_code 11 = .ok (.putfield 64, 3) := by decide +kernel
theorem dl0_14 : decode jdk_94_method_16_code 14 = .ok (.return_, 1) := by decide +kernel
theorem ef_l0 (mI : MethodId) (a : Addr) : entryFrame mI #[(.ref a)] 1 = mkF mI 0 #[.val (.ref a)] [] := by first | (simp [entryFrame, mkF, argsToLocals, Value.category]; done) | rfl
theorem pn_l0 : plainName "java/util/LinkedHashMap" = true := by first | decide +kernel | (simp [plainName, overriddenIn]; done)
set_option maxRecDepth 65536 in
set_option maxHeartbeats 40000000 in
theorem rml0 (lL : Launch) (Z : State) (a0 : Array Value) (hw : ∀ d ∈ tables_1, d.before a0 Z = true) (ws : List Jvm.Cond) (a : Addr) (h0 : Heap) (n0 : Nat) (Z0 : n0 ≤ h0.size) (F_loadFactor_a : Fld Z h0 a "java/util/HashMap" "loadFactor" "F" (defaultValue .float)) (F_putMode_a : Fld Z h0 a "java/util/LinkedHashMap" "putMode" "I" (.int (0 : Int32))) (F_accessOrder_a : Fld Z h0 a "java/util/LinkedHashMap" "accessOrder" "Z" (.int (0 : Int32))) (E_a : Exa Z h0 a "java/util/LinkedHashMap") (le_n0_a : n0 ≤ a) :
    MetFree lL (⟨"java/util/LinkedHashMap", "<init>", "()V"⟩ : MethodName) (head1 (Jvm.Cond.code (⟨"java/util/LinkedHashMap", "<init>", "()V"⟩ : MethodName) jdk_94_method_16_code 1 none :: ws) ({ frames := 3, cells := 0, slots := 0, locals := 36 } : Room)) (fun a_ U_ => a_ = #[(.ref a)] ∧ Z.Warmed39 U_.vm ∧ U_.heap = h0) (fun _ _ _ _ _ => True) (fun _ U_ o_ W_ => ∃ v_ L_, o_ = .returned v_ ∧ own_QK [a] h0 n0 v_ W_.heap L_ ∧ FrameEnd U_ o_ W_ L_ ({ frames := 3, cells := 0, slots := 0, locals := 36 } : Room).cells ({ frames := 3, cells := 0, slots := 0, locals := 36 } : Room).slots) := by
  refine MetFree.of_bodySF (plainFor_of_name pn_l0) hisR ?_
  intro pP eE sS mI args below meth cC s₁ Bd hml0 hP hK
  obtain ⟨rfl, hZ, hh⟩ := hP
  have hx := Bd.exec
  have hby := Bd.bytes
  have hml : cC.maxLocals = 1 := hml0
  have hown : sS.vm.findClass "java/util/LinkedHashMap" = some mI.cls := by have z := findClass_of_methodNamed Bd.named; exact z
  have hnm := (name_of_methodNamed Bd.named Bd.method).1
  have X0 : Stand pP lL eE ({ frames := 3, cells := 0, slots := 0, locals := 36 } : Room) sS mI #[(.ref a)] below meth cC s₁ [] 0 0 := Stand.of_body Bd
  have e0 : s₁.heap = h0 := by rw [← hh, Bd.state]; rfl
  have N0 := Fr.nil n0
  obtain ⟨G, hG, hst, hend⟩ := own_abs pP eE below sS (own_QK [a] h0 n0) ({ frames := 3, cells := 0, slots := 0, locals := 36 } : Room).cells ({ frames := 3, cells := 0, slots := 0, locals := 36 } : Room).slots
  refine hG (S := s₁.setTop (entryFrame mI #[(.ref a)] 1)) (hst (fun t_ kt_ => castTop (ef_l0 mI a) kt_) ?_)
  have Z1 := Nat.le_refl h0.size
  have K0 := Keep.refl h0 [a]
  show G (s₁.setTop (mkF mI 0 #[.val (.ref a)] []))
  refine o_aloadN hst X0.here hx (hb hby dl0_0) (pc' := 1) rfl rfl rfl ?_
  obtain ⟨_, _, ⟨T_1, L_1, k_1, n_1⟩, -, X_1, ⟨Lc_1, hQ_1, l_1, y_1, z_1⟩, st_1⟩ := X0.specialBack hx (y := (⟨"java/util/HashMap", "<init>", "()V"⟩ : MethodName)) rfl hown (mvT hZ (own_w135 hw)) (mvT hZ (own_w136 hw)) (mvT hZ (own_w138 hw)) (by decide) (backOf (W := 0) (rmh0 lL Z a0 hw [] a  h0 n0 Z0 F_loadFactor_a F_putMode_a F_accessOrder_a E_a le_n0_a) hZ (own_w138 hw) (own_w85 hw) (by decide) (by decide)) (g := (mkF mI 1 #[.val (.ref a)] [(.ref a)])) rfl (by rw [hml]; rfl) (Steps.refl _) (a := a) (argsL := []) (rest := []) (lenOf pd_0 rfl) rfl (by show 2 * 0 + _ ≤ _; exact Nat.le_of_eq rfl) (hb hby dl0_1) (fun _ _ => ⟨rfl, e0, (by decide : 0 + 0 ≤ _), (by decide : 0 + 0 ≤ _)⟩)
  dsimp only [Pt.U, Pt.locs, Pt.cells, Pt.slots] at X_1 l_1 y_1 z_1 st_1 hQ_1
  subst l_1 y_1 z_1
  obtain ⟨rfl, N_1q, K_1, G1, G2⟩ := hQ_1
  have Z0 := Nat.le_trans Z0 K_1.1
  have Z1 := Nat.le_trans Z1 K_1.1
  have K0 := K0.trans K_1 (allS (Or.inl (List.mem_of_getElem? (i := 0) rfl)) all0)
  have E_a := E_a.keep K_1
  have F_putMode_a := G1
  have F_accessOrder_a := G2
  have N_1 := Fr.app N0 N_1q
  refine hst (fun _ kt => st_1.trans kt) ?_
  show G (T_1.setTop (mkF mI 4 #[.val (.ref a)] []))
  refine o_aloadN hst X_1.here hx (hb hby dl0_4) (pc' := 5) rfl rfl rfl ?_
  refine o_iconst hst X_1.here hx (hb hby dl0_5) (pc' := 6) rfl (z := (0 : Int32)) rfl ?_
  obtain ⟨T_2, h_2, X_2, e_2, W_2, st_2⟩ := putF X_1 hx hZ hown (host := "") (Or.inl (own_w111 hw)) Via.refl rfl F_putMode_a E_a (Or.inl (own_w112 hw)) (own_w75 hw) (ty := .int) (by decide) rfl rfl (g := (mkF mI 6 #[.val (.ref a)] [(.int (0 : Int32)), (.ref a)])) rfl rfl (hb hby dl0_6)
  have Z0 := Nat.le_trans Z0 (Keep.of_wr W_2).1
  have Z1 := Nat.le_trans Z1 (Keep.of_wr W_2).1
  have K0 := K0.wr W_2 (Or.inl (List.mem_of_getElem? (i := 0) rfl))
  have E_a := E_a.wr W_2
  have F_putMode_a := F_putMode_a.same W_2
  have F_accessOrder_a := F_accessOrder_a.other W_2 (Or.inr (slot_ne (Or.inr (own_w114 hw)) (Or.inl (own_w112 hw)) (by decide) (t := .boolean) (t' := .int) (by decide) (by decide)))
  have N_2 := Fr.snoc X_2 N_1 le_n0_a
  refine hst st_2 ?_
  show G (T_2.setTop (mkF mI 9 #[.val (.ref a)] []))
  refine o_aloadN hst X_2.here hx (hb hby dl0_9) (pc' := 10) rfl rfl rfl ?_
  refine o_iconst hst X_2.here hx (hb hby dl0_10) (pc' := 11) rfl (z := (0 : Int32)) rfl ?_
  obtain ⟨T_3, h_3, X_3, e_3, W_3, st_3⟩ := putFN X_2 hx hZ hown (own_w113 hw) Via.refl e_2 F_accessOrder_a E_a (Or.inr ⟨(own_w114 hw), rfl, hnm⟩) (own_w75 hw) (ty := .boolean) (v' := (.int (0 : Int32))) (by decide) rfl rfl (g := (mkF mI 11 #[.val (.ref a)] [(.int (0 : Int32)), (.ref a)])) rfl rfl (hb hby dl0_11)
  have Z0 := Nat.le_trans Z0 (Keep.of_wr W_3).1
  have Z1 := Nat.le_trans Z1 (Keep.of_wr W_3).1
  have K0 := K0.wr W_3 (Or.inl (List.mem_of_getElem? (i := 0) rfl))
  have E_a := E_a.wr W_3
  have F_putMode_a := F_putMode_a.other W_3 (Or.inr (slot_ne (Or.inl (own_w112 hw)) (Or.inr (own_w114 hw)) (by decide) (t := .int) (t' := .boolean) (by decide) (by decide)))
  have F_accessOrder_a := F_accessOrder_a.same W_3
  have N_3 := Fr.snoc X_3 N_2 le_n0_a
  refine hst st_3 ?_
  show G (T_3.setTop (mkF mI 14 #[.val (.ref a)] []))
  exact hend (own_goVoid X_3 hx Bd.returns (hb hby dl0_14) Bd.notSynchronized (by rw [e_3]; exact ⟨rfl, N_3, K0⟩) (by decide) (by decide))
def own_Qhs (Z : State) (a : Addr) (h0 : Heap) (n0 : Nat) (v : Option Value) (h : Heap) (L : List Loc) : Prop := v = none ∧ Fr n0 L ∧ Keep h0 h [a] ∧ Exa Z h a "java/util/LinkedHashSet" ∧ ∃ m : Addr, h0.size ≤ m ∧ Fld Z h a "java/util/HashSet" "map" "Ljava/util/HashMap;" (.ref m) ∧ Exa Z h m "java/util/LinkedHashMap" ∧ Fld Z h m "java/util/HashMap" "size" "I" (.int (0 : Int32)) ∧ Fld Z h m "java/util/AbstractMap" "keySet" "Ljava/util/Set;" .null ∧ Fld Z h m "java/util/LinkedHashMap" "head" "Ljava/util/LinkedHashMap$Entry;" .null ∧ Fld Z h m "java/util/HashMap" "modCount" "I" (.int (0 : Int32))
theorem dhs_0 : decode jdk_93_method_5_code 0 = .ok (.aload_n 0, 1) := by decide +kernel
theorem dhs_1 : decode jdk_93_method_5_code 1 = .ok (.invokespecial 1, 3) := by decide +kernel
theorem dhs_4 : decode jdk_93_method_5_code 4 = .ok (.aload_n 0, 1) := by decide +kernel
theorem dhs_5 : decode jdk_93_method_5_code 5 = .ok (.new 42, 3) := by decide +kernel
theorem dhs_8 : decode jdk_93_method_5_code 8 = .ok (.dup, 1) := by decide +kernel
theorem dhs_9 : decode jdk_93_method_5_code 9 = .ok (.iload_n 1, 1) := by decide +kernel
theorem dhs_10 : decode jdk_93_method_5_code 10 = .ok (.fload_n 2, 1) := by decide +kernel
theorem dhs_11 : decode jdk_93_method_5_code 11 = .ok (.invokespecial 44, 3) := by decide +kernel
theorem dhs_14 : decode jdk_93_method_5_code 14 = .ok (.putfield 10, 3) := by decide +kernel
theorem dhs_17 : decode jdk_93_method_5_code 17 = .ok (.return_, 1) := by decide +kernel
theorem ef_hs (mI : MethodId) (a : Addr) : entryFrame mI #[(.ref a), (.int (16 : Int32)), (.float (1061158912 : UInt32)), (.int (1 : Int32))] 4 = mkF mI 0 #[.val (.ref a), .val (.int (16 : Int32)), .val (.float (1061158912 : UInt32)), .val (.int (1 : Int32))] [] := by first | (simp [entryFrame, mkF, argsToLocals, Value.category]; done) | rfl
theorem pn_hs : plainName "java/util/HashSet" = true := by first | decide +kernel | (simp [plainName, overriddenIn]; done)
set_option maxRecDepth 65536 in
set_option maxHeartbeats 40000000 in
theorem rmhs (lL : Launch) (Z : State) (a0 : Array Value) (hw : ∀ d ∈ tables_1, d.before a0 Z = true) (ws : List Jvm.Cond) (a : Addr) (h0 : Heap) (n0 : Nat) (Z0 : n0 ≤ h0.size) (F_map_a : Fld Z h0 a "java/util/HashSet" "map" "Ljava/util/HashMap;" .null) (E_a : Exa Z h0 a "java/util/LinkedHashSet") (le_n0_a : n0 ≤ a) :
    MetFree lL (⟨"java/util/HashSet", "<init>", "(IFZ)V"⟩ : MethodName) (head1 (Jvm.Cond.code (⟨"java/util/HashSet", "<init>", "(IFZ)V"⟩ : MethodName) jdk_93_method_5_code 4 none :: ws) ({ frames := 4, cells := 1, slots := 12, locals := 58 } : Room)) (fun a_ U_ => a_ = #[(.ref a), (.int (16 : Int32)), (.float (1061158912 : UInt32)), (.int (1 : Int32))] ∧ Z.Warmed39 U_.vm ∧ U_.heap = h0) (fun _ _ _ _ _ => True) (fun _ U_ o_ W_ => ∃ v_ L_, o_ = .returned v_ ∧ own_Qhs Z a h0 n0 v_ W_.heap L_ ∧ FrameEnd U_ o_ W_ L_ ({ frames := 4, cells := 1, slots := 12, locals := 58 } : Room).cells ({ frames := 4, cells := 1, slots := 12, locals := 58 } : Room).slots) := by
  refine MetFree.of_bodySF (plainFor_of_name pn_hs) hisR ?_
  intro pP eE sS mI args below meth cC s₁ Bd hml0 hP hK
  obtain ⟨rfl, hZ, hh⟩ := hP
  have hx := Bd.exec
  have hby := Bd.bytes
  have hml : cC.maxLocals = 4 := hml0
  have hown : sS.vm.findClass "java/util/HashSet" = some mI.cls := by have z := findClass_of_methodNamed Bd.named; exact z
  have hnm := (name_of_methodNamed Bd.named Bd.method).1
  have X0 : Stand pP lL eE ({ frames := 4, cells := 1, slots := 12, locals := 58 } : Room) sS mI #[(.ref a), (.int (16 : Int32)), (.float (1061158912 : UInt32)), (.int (1 : Int32))] below meth cC s₁ [] 0 0 := Stand.of_body Bd
  have e0 : s₁.heap = h0 := by rw [← hh, Bd.state]; rfl
  have N0 := Fr.nil n0
  obtain ⟨G, hG, hst, hend⟩ := own_abs pP eE below sS (own_Qhs Z a h0 n0) ({ frames := 4, cells := 1, slots := 12, locals := 58 } : Room).cells ({ frames := 4, cells := 1, slots := 12, locals := 58 } : Room).slots
  refine hG (S := s₁.setTop (entryFrame mI #[(.ref a), (.int (16 : Int32)), (.float (1061158912 : UInt32)), (.int (1 : Int32))] 4)) (hst (fun t_ kt_ => castTop (ef_hs mI a) kt_) ?_)
  have Z1 := Nat.le_refl h0.size
  have K0 := Keep.refl h0 [a]
  show G (s₁.setTop (mkF mI 0 #[.val (.ref a), .val (.int (16 : Int32)), .val (.float (1061158912 : UInt32)), .val (.int (1 : Int32))] []))
  refine o_aloadN hst X0.here hx (hb hby dhs_0) (pc' := 1) rfl rfl rfl ?_
  obtain ⟨_, _, ⟨T_1, L_1, k_1, n_1⟩, -, X_1, ⟨Lc_1, hQ_1, l_1, y_1, z_1⟩, st_1⟩ := X0.specialBack hx (y := (⟨"java/util/AbstractSet", "<init>", "()V"⟩ : MethodName)) rfl hown (mvT hZ (own_w61 hw)) (mvT hZ (own_w62 hw)) (mvT hZ (own_w66 hw)) (by decide) (backOf (W := 0) (rmAS lL Z a0 hw [] a  h0 n0 Z0) hZ (own_w66 hw) (own_w65 hw) (by decide) (by decide)) (g := (mkF mI 1 #[.val (.ref a), .val (.int (16 : Int32)), .val (.float (1061158912 : UInt32)), .val (.int (1 : Int32))] [(.ref a)])) rfl (by rw [hml]; rfl) (Steps.refl _) (a := a) (argsL := []) (rest := []) (lenOf pd_0 rfl) rfl (by show 2 * 0 + _ ≤ _; exact Nat.le_of_eq rfl) (hb hby dhs_1) (fun _ _ => ⟨rfl, e0, (by decide : 0 + 0 ≤ _), (by decide : 0 + 0 ≤ _)⟩)
  dsimp only [Pt.U, Pt.locs, Pt.cells, Pt.slots] at X_1 l_1 y_1 z_1 st_1 hQ_1
  subst l_1 y_1 z_1
  obtain ⟨rfl, N_1q, eh_1⟩ := hQ_1
  have N_1 := Fr.app N0 N_1q
  refine hst (fun _ kt => st_1.trans kt) ?_
  show G (T_1.setTop (mkF mI 4 #[.val (.ref a), .val (.int (16 : Int32)), .val (.float (1061158912 : UInt32)), .val (.int (1 : Int32))] []))
  refine o_aloadN hst X_1.here hx (hb hby dhs_4) (pc' := 5) rfl rfl rfl ?_
  obtain ⟨T_2, h_2, X_2, e_2, E_2, A_2, D_2, -, st_2⟩ := newO X_1 hx hZ hown (own_w74 hw) (own_w75 hw) (own_w76 hw) eh_1 (g := (mkF mI 5 #[.val (.ref a), .val (.int (16 : Int32)), .val (.float (1061158912 : UInt32)), .val (.int (1 : Int32))] [(.ref a)])) rfl (hb hby dhs_5) (by decide) (by decide)
  obtain ⟨m, g_m⟩ : ∃ z, z = h0.size := ⟨_, rfl⟩
  rw [← g_m] at A_2 D_2 st_2
  have ne_a_m : a ≠ m := Nat.ne_of_lt (Nat.lt_of_lt_of_le F_map_a.lt (Nat.le_of_eq g_m.symm))
  have le_n0_m : n0 ≤ m := Nat.le_trans Z0 (Nat.le_of_eq g_m.symm)
  have le_hh_m : h0.size ≤ m := Nat.le_trans Z1 (Nat.le_of_eq g_m.symm)
  have Z0 := Nat.le_trans Z0 E_2.1
  have Z1 := Nat.le_trans Z1 E_2.1
  have K0 := K0.ext E_2
  have F_map_a := F_map_a.ext E_2
  have E_a := E_a.ext E_2
  have E_m : Exa Z h_2 m "java/util/LinkedHashMap" := A_2
  have F_loadFactor_m : Fld Z h_2 m "java/util/HashMap" "loadFactor" "F" (defaultValue .float) := D_2 (Or.inr (own_w100 hw)) (ty := .float) (by decide)
  have F_threshold_m : Fld Z h_2 m "java/util/HashMap" "threshold" "I" (.int (0 : Int32)) := D_2 (Or.inl (own_w110 hw)) (ty := .int) (by decide)
  have F_putMode_m : Fld Z h_2 m "java/util/LinkedHashMap" "putMode" "I" (.int (0 : Int32)) := D_2 (Or.inl (own_w112 hw)) (ty := .int) (by decide)
  have F_accessOrder_m : Fld Z h_2 m "java/util/LinkedHashMap" "accessOrder" "Z" (.int (0 : Int32)) := D_2 (Or.inr (own_w114 hw)) (ty := .boolean) (by decide)
  have F_size_m : Fld Z h_2 m "java/util/HashMap" "size" "I" (.int (0 : Int32)) := D_2 (Or.inl (own_w207 hw)) (ty := .int) (by decide)
  have F_keySet_m : Fld Z h_2 m "java/util/AbstractMap" "keySet" "Ljava/util/Set;" .null := D_2 (Or.inl (own_w229 hw)) (ty := (.object "java/util/Set")) (by decide)
  have F_head_m : Fld Z h_2 m "java/util/LinkedHashMap" "head" "Ljava/util/LinkedHashMap$Entry;" .null := D_2 (Or.inl (own_w270 hw)) (ty := (.object "java/util/LinkedHashMap$Entry")) (by decide)
  have F_modCount_m : Fld Z h_2 m "java/util/HashMap" "modCount" "I" (.int (0 : Int32)) := D_2 (Or.inl (own_w275 hw)) (ty := .int) (by decide)
  refine hst st_2 ?_
  show G (T_2.setTop (mkF mI 8 #[.val (.ref a), .val (.int (16 : Int32)), .val (.float (1061158912 : UInt32)), .val (.int (1 : Int32))] [(.ref m), (.ref a)]))
  refine o_dup hst X_2.here hx (hb hby dhs_8) (pc' := 9) rfl rfl ?_
  refine o_iloadN hst X_2.here hx (hb hby dhs_9) (pc' := 10) rfl rfl ?_
  refine o_floadN hst X_2.here hx (hb hby dhs_10) (pc' := 11) rfl rfl ?_
  obtain ⟨_, _, ⟨T_3, L_3, k_3, n_3⟩, -, X_3, ⟨Lc_3, hQ_3, l_3, y_3, z_3⟩, st_3⟩ := X_2.specialBack hx (y := (⟨"java/util/LinkedHashMap", "<init>", "(IF)V"⟩ : MethodName)) rfl hown (mvT hZ (own_w77 hw)) (mvT hZ (own_w78 hw)) (mvT hZ (own_w80 hw)) (by decide) (backOf (W := 2) (rmlm lL Z a0 hw [] m  h_2 n0 Z0 F_loadFactor_m F_threshold_m F_putMode_m F_accessOrder_m F_size_m F_keySet_m F_head_m F_modCount_m E_m le_n0_m) hZ (own_w80 hw) (own_w76 hw) (by decide) (by decide)) (g := (mkF mI 11 #[.val (.ref a), .val (.int (16 : Int32)), .val (.float (1061158912 : UInt32)), .val (.int (1 : Int32))] [(.float (1061158912 : UInt32)), (.int (16 : Int32)), (.ref m), (.ref m), (.ref a)])) rfl (by rw [hml]; rfl) (Steps.refl _) (a := m) (argsL := [(.int (16 : Int32)), (.float (1061158912 : UInt32))]) (rest := [(.ref m), (.ref a)]) (lenOf pd_3 rfl) rfl (by show 2 * 0 + _ ≤ _; exact Nat.le_of_eq rfl) (hb hby dhs_11) (fun _ _ => ⟨rfl, e_2, (by decide : 1 + 0 ≤ _), (by decide : 12 + 0 ≤ _)⟩)
  dsimp only [Pt.U, Pt.locs, Pt.cells, Pt.slots] at X_3 l_3 y_3 z_3 st_3 hQ_3
  subst l_3 y_3 z_3
  obtain ⟨rfl, N_3q, K_3, Ex_3, GF_size_m, GF_keySet_m, GF_head_m, GF_modCount_m⟩ := hQ_3
  have Z0 := Nat.le_trans Z0 K_3.1
  have Z1 := Nat.le_trans Z1 K_3.1
  have K0 := K0.trans K_3 (allS (Or.inr le_hh_m) all0)
  have F_map_a := F_map_a.keep K_3 (ninS ne_a_m nin0)
  have E_a := E_a.keep K_3
  have E_m := E_m.keep K_3
  have F_size_m := GF_size_m
  have F_keySet_m := GF_keySet_m
  have F_head_m := GF_head_m
  have F_modCount_m := GF_modCount_m
  have N_3 := Fr.app N_1 N_3q
  refine hst (fun _ kt => st_3.trans kt) ?_
  show G (T_3.setTop (mkF mI 14 #[.val (.ref a), .val (.int (16 : Int32)), .val (.float (1061158912 : UInt32)), .val (.int (1 : Int32))] [(.ref m), (.ref a)]))
  obtain ⟨T_4, h_4, X_4, e_4, W_4, st_4⟩ := putF X_3 hx hZ hown (host := "") (Or.inl (own_w115 hw)) Via.refl rfl F_map_a E_a (Or.inl (own_w116 hw)) (own_w49 hw) (ty := (.object "java/util/HashMap")) (by decide) rfl rfl (g := (mkF mI 14 #[.val (.ref a), .val (.int (16 : Int32)), .val (.float (1061158912 : UInt32)), .val (.int (1 : Int32))] [(.ref m), (.ref a)])) rfl rfl (hb hby dhs_14)
  have Z0 := Nat.le_trans Z0 (Keep.of_wr W_4).1
  have Z1 := Nat.le_trans Z1 (Keep.of_wr W_4).1
  have K0 := K0.wr W_4 (Or.inl (List.mem_of_getElem? (i := 0) rfl))
  have F_map_a := F_map_a.same W_4
  have E_a := E_a.wr W_4
  have E_m := E_m.wr W_4
  have F_size_m := F_size_m.other W_4 (Or.inl (Ne.symm ne_a_m))
  have F_keySet_m := F_keySet_m.other W_4 (Or.inl (Ne.symm ne_a_m))
  have F_head_m := F_head_m.other W_4 (Or.inl (Ne.symm ne_a_m))
  have F_modCount_m := F_modCount_m.other W_4 (Or.inl (Ne.symm ne_a_m))
  have N_4 := Fr.snoc X_4 N_3 le_n0_a
  refine hst st_4 ?_
  show G (T_4.setTop (mkF mI 17 #[.val (.ref a), .val (.int (16 : Int32)), .val (.float (1061158912 : UInt32)), .val (.int (1 : Int32))] []))
  exact hend (own_goVoid X_4 hx Bd.returns (hb hby dhs_17) Bd.notSynchronized (by rw [e_4]; exact ⟨rfl, N_4, K0, E_a, m, le_hh_m, F_map_a, E_m, F_size_m, F_keySet_m, F_head_m, F_modCount_m⟩) (by decide) (by decide))
theorem dls_0 : decode jdk_2620_method_3_code 0 = .ok (.aload_n 0, 1) := by decide +kernel
theorem dls_1 : decode jdk_2620_method_3_code 1 = .ok (.bipush 16, 2) := by decide +kernel
theorem dls_3 : decode jdk_2620_method_3_code 3 = .ok (.ldc 7, 2) := by decide +kernel
theorem dls_5 : decode jdk_2620_method_3_code 5 = .ok (.iconst 1, 1) := by decide +kernel
theorem dls_6 : decode jdk_2620_method_3_code 6 = .ok (.invokespecial 1, 3) := by decide +kernel
theorem dls_9 : decode jdk_2620_method_3_code 9 = .ok (.return_, 1) := by decide +kernel
theorem ef_ls (mI : MethodId) (a : Addr) : entryFrame mI #[(.ref a)] 1 = mkF mI 0 #[.val (.ref a)] [] := by first | (simp [entryFrame, mkF, argsToLocals, Value.category]; done) | rfl
theorem pn_ls : plainName "java/util/LinkedHashSet" = true := by first | decide +kernel | (simp [plainName, overriddenIn]; done)
set_option maxRecDepth 65536 in
set_option maxHeartbeats 40000000 in
theorem rmls (lL : Launch) (Z : State) (a0 : Array Value) (hw : ∀ d ∈ tables_1, d.before a0 Z = true) (ws : List Jvm.Cond) (a : Addr) (h0 : Heap) (n0 : Nat) (Z0 : n0 ≤ h0.size) (F_map_a : Fld Z h0 a "java/util/HashSet" "map" "Ljava/util/HashMap;" .null) (E_a : Exa Z h0 a "java/util/LinkedHashSet") (le_n0_a : n0 ≤ a) :
    MetFree lL (⟨"java/util/LinkedHashSet", "<init>", "()V"⟩ : MethodName) (head1 (Jvm.Cond.code (⟨"java/util/LinkedHashSet", "<init>", "()V"⟩ : MethodName) jdk_2620_method_3_code 1 none :: ws) ({ frames := 5, cells := 1, slots := 12, locals := 73 } : Room)) (fun a_ U_ => a_ = #[(.ref a)] ∧ Z.Warmed39 U_.vm ∧ U_.heap = h0) (fun _ _ _ _ _ => True) (fun _ U_ o_ W_ => ∃ v_ L_, o_ = .returned v_ ∧ own_Qhs Z a h0 n0 v_ W_.heap L_ ∧ FrameEnd U_ o_ W_ L_ ({ frames := 5, cells := 1, slots := 12, locals := 73 } : Room).cells ({ frames := 5, cells := 1, slots := 12, locals := 73 } : Room).slots) := by
  refine MetFree.of_bodySF (plainFor_of_name pn_ls) hisR ?_
  intro pP eE sS mI args below meth cC s₁ Bd hml0 hP hK
  obtain ⟨rfl, hZ, hh⟩ := hP
  have hx := Bd.exec
  have hby := Bd.bytes
  have hml : cC.maxLocals = 1 := hml0
  have hown : sS.vm.findClass "java/util/LinkedHashSet" = some mI.cls := by have z := findClass_of_methodNamed Bd.named; exact z
  have hnm := (name_of_methodNamed Bd.named Bd.method).1
  have X0 : Stand pP lL eE ({ frames := 5, cells := 1, slots := 12, locals := 73 } : Room) sS mI #[(.ref a)] below meth cC s₁ [] 0 0 := Stand.of_body Bd
  have e0 : s₁.heap = h0 := by rw [← hh, Bd.state]; rfl
  have N0 := Fr.nil n0
  obtain ⟨G, hG, hst, hend⟩ := own_abs pP eE below sS (own_Qhs Z a h0 n0) ({ frames := 5, cells := 1, slots := 12, locals := 73 } : Room).cells ({ frames := 5, cells := 1, slots := 12, locals := 73 } : Room).slots
  refine hG (S := s₁.setTop (entryFrame mI #[(.ref a)] 1)) (hst (fun t_ kt_ => castTop (ef_ls mI a) kt_) ?_)
  have Z1 := Nat.le_refl h0.size
  have K0 := Keep.refl h0 [a]
  show G (s₁.setTop (mkF mI 0 #[.val (.ref a)] []))
  refine o_aloadN hst X0.here hx (hb hby dls_0) (pc' := 1) rfl rfl rfl ?_
  refine o_bipush hst X0.here hx (hb hby dls_1) (pc' := 3) rfl (z := (16 : Int32)) rfl ?_
  refine hst (X0.ldcFloatC hx hown (mvT hZ (own_w54 hw)) (g := (mkF mI 3 #[.val (.ref a)] [(.int (16 : Int32)), (.ref a)])) rfl (hb hby dls_3)) ?_
  show G (s₁.setTop (mkF mI 5 #[.val (.ref a)] [(.float (1061158912 : UInt32)), (.int (16 : Int32)), (.ref a)]))
  refine o_iconst hst X0.here hx (hb hby dls_5) (pc' := 6) rfl (z := (1 : Int32)) rfl ?_
  obtain ⟨_, _, ⟨T_1, L_1, k_1, n_1⟩, -, X_1, ⟨Lc_1, hQ_1, l_1, y_1, z_1⟩, st_1⟩ := X0.specialBack hx (y := (⟨"java/util/HashSet", "<init>", "(IFZ)V"⟩ : MethodName)) rfl hown (mvT hZ (own_w55 hw)) (mvT hZ (own_w56 hw)) (mvT hZ (own_w60 hw)) (by decide) (backOf (W := 0) (rmhs lL Z a0 hw [] a  h0 n0 Z0 F_map_a E_a le_n0_a) hZ (own_w60 hw) (own_w59 hw) (by decide) (by decide)) (g := (mkF mI 6 #[.val (.ref a)] [(.int (1 : Int32)), (.float (1061158912 : UInt32)), (.int (16 : Int32)), (.ref a)])) rfl (by rw [hml]; rfl) (Steps.refl _) (a := a) (argsL := [(.int (16 : Int32)), (.float (1061158912 : UInt32)), (.int (1 : Int32))]) (rest := []) (lenOf pd_4 rfl) rfl (by show 2 * 0 + _ ≤ _; exact Nat.le_of_eq rfl) (hb hby dls_6) (fun _ _ => ⟨rfl, e0, (by decide : 0 + 1 ≤ _), (by decide : 0 + 12 ≤ _)⟩)
  dsimp only [Pt.U, Pt.locs, Pt.cells, Pt.slots] at X_1 l_1 y_1 z_1 st_1 hQ_1
  subst l_1 y_1 z_1
  obtain ⟨rfl, N_1q, K_1, Ex_1, m, le_m, G1, E_m, F_size_m, F_keySet_m, F_head_m, F_modCount_m⟩ := hQ_1
  have Z0 := Nat.le_trans Z0 K_1.1
  have Z1 := Nat.le_trans Z1 K_1.1
  have K0 := K0.trans K_1 (allS (Or.inl (List.mem_of_getElem? (i := 0) rfl)) all0)
  have E_a := E_a.keep K_1
  have N_1 := Fr.app N0 N_1q
  refine hst (fun _ kt => st_1.trans kt) ?_
  show G (T_1.setTop (mkF mI 9 #[.val (.ref a)] []))
  exact hend (own_goVoid X_1 hx Bd.returns (hb hby dls_9) Bd.notSynchronized (by exact ⟨rfl, N_1, K0, E_a, m, le_m, G1, E_m, F_size_m, F_keySet_m, F_head_m, F_modCount_m⟩) (by decide) (by decide))
theorem dpx_0 : decode prog_25_method_1_code 0 = .ok (.aload_n 0, 1) := by decide +kernel
theorem dpx_1 : decode prog_25_method_1_code 1 = .ok (.invokespecial 1, 3) := by decide +kernel
theorem dpx_4 : decode prog_25_method_1_code 4 = .ok (.aload_n 0, 1) := by decide +kernel
theorem dpx_5 : decode prog_25_method_1_code 5 = .ok (.new 7, 3) := by decide +kernel
theorem dpx_8 : decode prog_25_method_1_code 8 = .ok (.dup, 1) := by decide +kernel
theorem dpx_9 : decode prog_25_method_1_code 9 = .ok (.invokespecial 9, 3) := by decide +kernel
theorem dpx_12 : decode prog_25_method_1_code 12 = .ok (.putfield 10, 3) := by decide +kernel
theorem dpx_15 : decode prog_25_method_1_code 15 = .ok (.return_, 1) := by decide +kernel
theorem ef_px (mI : MethodId) (a : Addr) : entryFrame mI #[(.ref a)] 1 = mkF mI 0 #[.val (.ref a)] [] := by first | (simp [entryFrame, mkF, argsToLocals, Value.category]; done) | rfl
theorem pn_px : plainName own_PX = true := by first | decide +kernel | (simp [plainName, overriddenIn]; done)
set_option maxRecDepth 65536 in
set_option maxHeartbeats 40000000 in
theorem rmpx (lL : Launch) (Z : State) (a0 : Array Value) (hw : ∀ d ∈ tables_1, d.before a0 Z = true) (ws : List Jvm.Cond) (a : Addr) (h0 : Heap) (n0 : Nat) (Z0 : n0 ≤ h0.size) (F_declarations_a : Fld Z h0 a own_PX "declarations" "Ljava/util/Map;" .null) (E_a : Exa Z h0 a own_PX) (le_n0_a : n0 ≤ a) :
    MetFree lL (⟨own_PX, "<init>", "()V"⟩ : MethodName) (head1 (Jvm.Cond.code (⟨own_PX, "<init>", "()V"⟩ : MethodName) prog_25_method_1_code 1 none :: ws) ({ frames := 4, cells := 1, slots := 12, locals := 50 } : Room)) (fun a_ U_ => a_ = #[(.ref a)] ∧ Z.Warmed39 U_.vm ∧ U_.heap = h0) (fun _ _ _ _ _ => True) (fun _ U_ o_ W_ => ∃ v_ L_, o_ = .returned v_ ∧ own_QK [a] h0 n0 v_ W_.heap L_ ∧ FrameEnd U_ o_ W_ L_ ({ frames := 4, cells := 1, slots := 12, locals := 50 } : Room).cells ({ frames := 4, cells := 1, slots := 12, locals := 50 } : Room).slots) := by
  refine MetFree.of_bodySF (plainFor_of_name pn_px) hisR ?_
  intro pP eE sS mI args below meth cC s₁ Bd hml0 hP hK
  obtain ⟨rfl, hZ, hh⟩ := hP
  have hx := Bd.exec
  have hby := Bd.bytes
  have hml : cC.maxLocals = 1 := hml0
  have hown : sS.vm.findClass own_PX = some mI.cls := by have z := findClass_of_methodNamed Bd.named; exact z
  have hnm := (name_of_methodNamed Bd.named Bd.method).1
  have X0 : Stand pP lL eE ({ frames := 4, cells := 1, slots := 12, locals := 50 } : Room) sS mI #[(.ref a)] below meth cC s₁ [] 0 0 := Stand.of_body Bd
  have e0 : s₁.heap = h0 := by rw [← hh, Bd.state]; rfl
  have N0 := Fr.nil n0
  obtain ⟨G, hG, hst, hend⟩ := own_abs pP eE below sS (own_QK [a] h0 n0) ({ frames := 4, cells := 1, slots := 12, locals := 50 } : Room).cells ({ frames := 4, cells := 1, slots := 12, locals := 50 } : Room).slots
  refine hG (S := s₁.setTop (entryFrame mI #[(.ref a)] 1)) (hst (fun t_ kt_ => castTop (ef_px mI a) kt_) ?_)
  have Z1 := Nat.le_refl h0.size
  have K0 := Keep.refl h0 [a]
  show G (s₁.setTop (mkF mI 0 #[.val (.ref a)] []))
  refine o_aloadN hst X0.here hx (hb hby dpx_0) (pc' := 1) rfl rfl rfl ?_
  obtain ⟨T_1, X_1, e_1, st_1⟩ := initO X0 hx hZ hown (own_w130 hw) (own_w26 hw) (own_w27 hw) e0 (g := (mkF mI 1 #[.val (.ref a)] [(.ref a)])) rfl (by rw [hml]; rfl) rfl (hb hby dpx_1) (by decide) (W := 0) (by show 2 * 0 + _ ≤ _; exact Nat.le_of_eq rfl) (by decide)
  refine hst st_1 ?_
  show G (T_1.setTop (mkF mI 4 #[.val (.ref a)] []))
  refine o_aloadN hst X_1.here hx (hb hby dpx_4) (pc' := 5) rfl rfl rfl ?_
  obtain ⟨T_2, h_2, X_2, e_2, E_2, A_2, D_2, -, st_2⟩ := newO X_1 hx hZ hown (own_w131 hw) (own_w75 hw) (own_w76 hw) e_1 (g := (mkF mI 5 #[.val (.ref a)] [(.ref a)])) rfl (hb hby dpx_5) (by decide) (by decide)
  obtain ⟨m, g_m⟩ : ∃ z, z = h0.size := ⟨_, rfl⟩
  rw [← g_m] at A_2 D_2 st_2
  have ne_a_m : a ≠ m := Nat.ne_of_lt (Nat.lt_of_lt_of_le F_declarations_a.lt (Nat.le_of_eq g_m.symm))
  have le_n0_m : n0 ≤ m := Nat.le_trans Z0 (Nat.le_of_eq g_m.symm)
  have le_hh_m : h0.size ≤ m := Nat.le_trans Z1 (Nat.le_of_eq g_m.symm)
  have Z0 := Nat.le_trans Z0 E_2.1
  have Z1 := Nat.le_trans Z1 E_2.1
  have K0 := K0.ext E_2
  have F_declarations_a := F_declarations_a.ext E_2
  have E_a := E_a.ext E_2
  have E_m : Exa Z h_2 m "java/util/LinkedHashMap" := A_2
  have F_loadFactor_m : Fld Z h_2 m "java/util/HashMap" "loadFactor" "F" (defaultValue .float) := D_2 (Or.inr (own_w100 hw)) (ty := .float) (by decide)
  have F_putMode_m : Fld Z h_2 m "java/util/LinkedHashMap" "putMode" "I" (.int (0 : Int32)) := D_2 (Or.inl (own_w112 hw)) (ty := .int) (by decide)
  have F_accessOrder_m : Fld Z h_2 m "java/util/LinkedHashMap" "accessOrder" "Z" (.int (0 : Int32)) := D_2 (Or.inr (own_w114 hw)) (ty := .boolean) (by decide)
  refine hst st_2 ?_
  show G (T_2.setTop (mkF mI 8 #[.val (.ref a)] [(.ref m), (.ref a)]))
  refine o_dup hst X_2.here hx (hb hby dpx_8) (pc' := 9) rfl rfl ?_
  obtain ⟨_, _, ⟨T_3, L_3, k_3, n_3⟩, -, X_3, ⟨Lc_3, hQ_3, l_3, y_3, z_3⟩, st_3⟩ := X_2.specialBack hx (y := (⟨"java/util/LinkedHashMap", "<init>", "()V"⟩ : MethodName)) rfl hown (mvT hZ (own_w132 hw)) (mvT hZ (own_w133 hw)) (mvT hZ (own_w134 hw)) (by decide) (backOf (W := 2) (rml0 lL Z a0 hw [] m  h_2 n0 Z0 F_loadFactor_m F_putMode_m F_accessOrder_m E_m le_n0_m) hZ (own_w134 hw) (own_w76 hw) (by decide) (by decide)) (g := (mkF mI 9 #[.val (.ref a)] [(.ref m), (.ref m), (.ref a)])) rfl (by rw [hml]; rfl) (Steps.refl _) (a := m) (argsL := []) (rest := [(.ref m), (.ref a)]) (lenOf pd_0 rfl) rfl (by show 2 * 0 + _ ≤ _; exact Nat.le_of_eq rfl) (hb hby dpx_9) (fun _ _ => ⟨rfl, e_2, (by decide : 1 + 0 ≤ _), (by decide : 12 + 0 ≤ _)⟩)
  dsimp only [Pt.U, Pt.locs, Pt.cells, Pt.slots] at X_3 l_3 y_3 z_3 st_3 hQ_3
  subst l_3 y_3 z_3
  obtain ⟨rfl, N_3q, K_3⟩ := hQ_3
  have Z0 := Nat.le_trans Z0 K_3.1
  have Z1 := Nat.le_trans Z1 K_3.1
  have K0 := K0.trans K_3 (allS (Or.inr le_hh_m) all0)
  have F_declarations_a := F_declarations_a.keep K_3 (ninS ne_a_m nin0)
  have E_a := E_a.keep K_3
  have E_m := E_m.keep K_3
  have N_3 := Fr.app N0 N_3q
  refine hst (fun _ kt => st_3.trans kt) ?_
  show G (T_3.setTop (mkF mI 12 #[.val (.ref a)] [(.ref m), (.ref a)]))
  obtain ⟨T_4, h_4, X_4, e_4, W_4, st_4⟩ := putF X_3 hx hZ hown (host := "") (Or.inl (own_w140 hw)) Via.refl rfl F_declarations_a E_a (Or.inr ⟨(own_w141 hw), rfl, hnm⟩) (own_w125 hw) (ty := (.object "java/util/Map")) (by decide) rfl rfl (g := (mkF mI 12 #[.val (.ref a)] [(.ref m), (.ref a)])) rfl rfl (hb hby dpx_12)
  have Z0 := Nat.le_trans Z0 (Keep.of_wr W_4).1
  have Z1 := Nat.le_trans Z1 (Keep.of_wr W_4).1
  have K0 := K0.wr W_4 (Or.inl (List.mem_of_getElem? (i := 0) rfl))
  have F_declarations_a := F_declarations_a.same W_4
  have E_a := E_a.wr W_4
  have E_m := E_m.wr W_4
  have N_4 := Fr.snoc X_4 N_3 le_n0_a
  refine hst st_4 ?_
  show G (T_4.setTop (mkF mI 15 #[.val (.ref a)] []))
  exact hend (own_goVoid X_4 hx Bd.returns (hb hby dpx_15) Bd.notSynchronized (by rw [e_4]; exact ⟨rfl, N_4, K0⟩) (by decide) (by decide))
def own_Qtt (Z : State) (t : Addr) (h0 : Heap) (n0 : Nat) (v : Option Value) (h : Heap) (L : List Loc) : Prop := v = none ∧ Fr n0 L ∧ Keep h0 h [t] ∧ ∃ (s m bs bp bo bf : Addr) (k_bs k_bp k_bo k_bf : ClassId), (h0.size ≤ s ∧ h0.size ≤ m ∧ h0.size ≤ bs ∧ h0.size ≤ bp ∧ h0.size ≤ bo ∧ h0.size ≤ bf) ∧ Exa Z h t own_TT ∧ Fld Z h t own_TT "subjects" "[I" (.ref bs) ∧ Fld Z h t own_TT "predicates" "[I" (.ref bp) ∧ Fld Z h t own_TT "objects" "[I" (.ref bo) ∧ Fld Z h t own_TT "firstGraphs" "[I" (.ref bf) ∧ Fld Z h t own_TT "otherGraphs" "Ljava/util/Set;" (.ref s) ∧ Fld Z h t own_TT "size" "I" (.int (0 : Int32)) ∧ Exa Z h s "java/util/LinkedHashSet" ∧ Fld Z h s "java/util/HashSet" "map" "Ljava/util/HashMap;" (.ref m) ∧ Exa Z h m "java/util/LinkedHashMap" ∧ Fld Z h m "java/util/HashMap" "size" "I" (.int (0 : Int32)) ∧ Fld Z h m "java/util/AbstractMap" "keySet" "Ljava/util/Set;" .null ∧ Fld Z h m "java/util/LinkedHashMap" "head" "Ljava/util/LinkedHashMap$Entry;" .null ∧ Fld Z h m "java/util/HashMap" "modCount" "I" (.int (0 : Int32)) ∧ Arv Z h bs k_bs .int (1024 : Int32) [] (.int (0 : Int32)) ∧ Arv Z h bp k_bp .int (1024 : Int32) [] (.int (0 : Int32)) ∧ Arv Z h bo k_bo .int (1024 : Int32) [] (.int (0 : Int32)) ∧ Arv Z h bf k_bf .int (1024 : Int32) [] (.int (0 : Int32))
theorem dtt_0 : decode prog_37_method_1_code 0 = .ok (.aload_n 0, 1) := by decide +kernel
theorem dtt_1 : decode prog_37_method_1_code 1 = .ok (.invokespecial 1, 3) := by decide +kernel
theorem dtt_4 : decode prog_37_method_1_code 4 = .ok (.aload_n 0, 1) := by decide +kernel
theorem dtt_5 : decode prog_37_method_1_code 5 = .ok (.sipush 1024, 3) := by decide +kernel
theorem dtt_8 : decode prog_37_method_1_code 8 = .ok (.newarray .int, 2) := by decide +kernel
theorem dtt_10 : decode prog_37_method_1_code 10 = .ok (.putfield 9, 3) := by decide +kernel
theorem dtt_13 : decode prog_37_method_1_code 13 = .ok (.aload_n 0, 1) := by decide +kernel
theorem dtt_14 : decode prog_37_method_1_code 14 = .ok (.sipush 1024, 3) := by decide +kernel
theorem dtt_17 : decode prog_37_method_1_code 17 = .ok (.newarray .int, 2) := by decide +kernel
theorem dtt_19 : decode prog_37_method_1_code 19 = .ok (.putfield 13, 3) := by decide +kernel
theorem dtt_22 : decode prog_37_method_1_code 22 = .ok (.aload_n 0, 1) := by decide +kernel
theorem dtt_23 : decode prog_37_method_1_code 23 = .ok (.sipush 1024, 3) := by decide +kernel
theorem dtt_26 : decode prog_37_method_1_code 26 = .ok (.newarray .int, 2) := by decide +kernel
theorem dtt_28 : decode prog_37_method_1_code 28 = .ok (.putfield 16, 3) := by decide +kernel
theorem dtt_31 : decode prog_37_method_1_code 31 = .ok (.aload_n 0, 1) := by decide +kernel
theorem dtt_32 : decode prog_37_method_1_code 32 = .ok (.sipush 1024, 3) := by decide +kernel
theorem dtt_35 : decode prog_37_method_1_code 35 = .ok (.newarray .int, 2) := by decide +kernel
theorem dtt_37 : decode prog_37_method_1_code 37 = .ok (.putfield 19, 3) := by decide +kernel
theorem dtt_40 : decode prog_37_method_1_code 40 = .ok (.aload_n 0, 1) := by decide +kernel
theorem dtt_41 : decode prog_37_method_1_code 41 = .ok (.new 22, 3) := by decide +kernel
theorem dtt_44 : decode prog_37_method_1_code 44 = .ok (.dup, 1) := by decide +kernel
theorem dtt_45 : decode prog_37_method_1_code 45 = .ok (.invokespecial 24, 3) := by decide +kernel
theorem dtt_48 : decode prog_37_method_1_code 48 = .ok (.putfield 25, 3) := by decide +kernel
theorem dtt_51 : decode prog_37_method_1_code 51 = .ok (.aload_n 0, 1) := by decide +kernel
theorem dtt_52 : decode prog_37_method_1_code 52 = .ok (.sipush 2048, 3) := by decide +kernel
theorem dtt_55 : decode prog_37_method_1_code 55 = .ok (.newarray .int, 2) := by decide +kernel
theorem dtt_57 : decode prog_37_method_1_code 57 = .ok (.putfield 29, 3) := by decide +kernel
theorem dtt_60 : decode prog_37_method_1_code 60 = .ok (.return_, 1) := by decide +kernel
theorem ef_tt (mI : MethodId) (t : Addr) : entryFrame mI #[(.ref t)] 1 = mkF mI 0 #[.val (.ref t)] [] := by first | (simp [entryFrame, mkF, argsToLocals, Value.category]; done) | rfl
theorem pn_tt : plainName own_TT = true := by first | decide +kernel | (simp [plainName, overriddenIn]; done)
set_option maxRecDepth 65536 in
set_option maxHeartbeats 40000000 in
theorem rmtt (lL : Launch) (Z : State) (a0 : Array Value) (hw : ∀ d ∈ tables_1, d.before a0 Z = true) (ws : List Jvm.Cond) (t : Addr) (h0 : Heap) (n0 : Nat) (Z0 : n0 ≤ h0.size) (F_subjects_t : Fld Z h0 t own_TT "subjects" "[I" .null) (F_predicates_t : Fld Z h0 t own_TT "predicates" "[I" .null) (F_objects_t : Fld Z h0 t own_TT "objects" "[I" .null) (F_firstGraphs_t : Fld Z h0 t own_TT "firstGraphs" "[I" .null) (F_table_t : Fld Z h0 t own_TT "table" "[I" .null) (F_otherGraphs_t : Fld Z h0 t own_TT "otherGraphs" "Ljava/util/Set;" .null) (F_size_t : Fld Z h0 t own_TT "size" "I" (.int (0 : Int32))) (E_t : Exa Z h0 t own_TT) (le_n0_t : n0 ≤ t) :
    MetFree lL (⟨own_TT, "<init>", "()V"⟩ : MethodName) (head1 (Jvm.Cond.code (⟨own_TT, "<init>", "()V"⟩ : MethodName) prog_37_method_1_code 1 none :: ws) ({ frames := 6, cells := 7, slots := 6157, locals := 87 } : Room)) (fun a_ U_ => a_ = #[(.ref t)] ∧ Z.Warmed39 U_.vm ∧ U_.heap = h0) (fun _ _ _ _ _ => True) (fun _ U_ o_ W_ => ∃ v_ L_, o_ = .returned v_ ∧ own_Qtt Z t h0 n0 v_ W_.heap L_ ∧ FrameEnd U_ o_ W_ L_ ({ frames := 6, cells := 7, slots := 6157, locals := 87 } : Room).cells ({ frames := 6, cells := 7, slots := 6157, locals := 87 } : Room).slots) := by
  refine MetFree.of_bodySF (plainFor_of_name pn_tt) hisR ?_
  intro pP eE sS mI args below meth cC s₁ Bd hml0 hP hK
  obtain ⟨rfl, hZ, hh⟩ := hP
  have hx := Bd.exec
  have hby := Bd.bytes
  have hml : cC.maxLocals = 1 := hml0
  have hown : sS.vm.findClass own_TT = some mI.cls := by have z := findClass_of_methodNamed Bd.named; exact z
  have hnm := (name_of_methodNamed Bd.named Bd.method).1
  have X0 : Stand pP lL eE ({ frames := 6, cells := 7, slots := 6157, locals := 87 } : Room) sS mI #[(.ref t)] below meth cC s₁ [] 0 0 := Stand.of_body Bd
  have e0 : s₁.heap = h0 := by rw [← hh, Bd.state]; rfl
  have N0 := Fr.nil n0
  obtain ⟨G, hG, hst, hend⟩ := own_abs pP eE below sS (own_Qtt Z t h0 n0) ({ frames := 6, cells := 7, slots := 6157, locals := 87 } : Room).cells ({ frames := 6, cells := 7, slots := 6157, locals := 87 } : Room).slots
  refine hG (S := s₁.setTop (entryFrame mI #[(.ref t)] 1)) (hst (fun t_ kt_ => castTop (ef_tt mI t) kt_) ?_)
  have Z1 := Nat.le_refl h0.size
  have K0 := Keep.refl h0 [t]
  show G (s₁.setTop (mkF mI 0 #[.val (.ref t)] []))
  refine o_aloadN hst X0.here hx (hb hby dtt_0) (pc' := 1) rfl rfl rfl ?_
  obtain ⟨T_1, X_1, e_1, st_1⟩ := initO X0 hx hZ hown (own_w38 hw) (own_w26 hw) (own_w27 hw) e0 (g := (mkF mI 1 #[.val (.ref t)] [(.ref t)])) rfl (by rw [hml]; rfl) rfl (hb hby dtt_1) (by decide) (W := 0) (by show 2 * 0 + _ ≤ _; exact Nat.le_of_eq rfl) (by decide)
  refine hst st_1 ?_
  show G (T_1.setTop (mkF mI 4 #[.val (.ref t)] []))
  refine o_aloadN hst X_1.here hx (hb hby dtt_4) (pc' := 5) rfl rfl rfl ?_
  refine o_sipush hst X_1.here hx (hb hby dtt_5) (pc' := 8) rfl (z := (1024 : Int32)) rfl ?_
  obtain ⟨T_2, h_2, k_bs, X_2, e_2, E_2, A_2, st_2⟩ := newP (aty := .int) X_1 hx hZ (own_w39 hw) e_1 (g := (mkF mI 8 #[.val (.ref t)] [(.int (1024 : Int32)), (.ref t)])) rfl (hb hby dtt_8) rfl (by decide) (cap := 1024) (by decide) (by decide) (by decide) (by decide)
  obtain ⟨bs, g_bs⟩ : ∃ z, z = h0.size := ⟨_, rfl⟩
  rw [← g_bs] at A_2 st_2
  have ne_t_bs : t ≠ bs := Nat.ne_of_lt (Nat.lt_of_lt_of_le F_subjects_t.lt (Nat.le_of_eq g_bs.symm))
  have le_n0_bs : n0 ≤ bs := Nat.le_trans Z0 (Nat.le_of_eq g_bs.symm)
  have le_hh_bs : h0.size ≤ bs := Nat.le_trans Z1 (Nat.le_of_eq g_bs.symm)
  have Z0 := Nat.le_trans Z0 E_2.1
  have Z1 := Nat.le_trans Z1 E_2.1
  have K0 := K0.ext E_2
  have F_subjects_t := F_subjects_t.ext E_2
  have F_predicates_t := F_predicates_t.ext E_2
  have F_objects_t := F_objects_t.ext E_2
  have F_firstGraphs_t := F_firstGraphs_t.ext E_2
  have F_table_t := F_table_t.ext E_2
  have F_otherGraphs_t := F_otherGraphs_t.ext E_2
  have F_size_t := F_size_t.ext E_2
  have E_t := E_t.ext E_2
  have V_bs : Arv Z h_2 bs k_bs .int (1024 : Int32) [] (.int (0 : Int32)) := Arv.new A_2 (by decide)
  refine hst st_2 ?_
  show G (T_2.setTop (mkF mI 10 #[.val (.ref t)] [(.ref bs), (.ref t)]))
  obtain ⟨T_3, h_3, X_3, e_3, W_3, st_3⟩ := putF X_2 hx hZ hown (host := "") (Or.inl (own_w40 hw)) Via.refl e_2 F_subjects_t E_t (Or.inl (own_w41 hw)) (own_w33 hw) (ty := (.array .int)) (by decide) rfl rfl (g := (mkF mI 10 #[.val (.ref t)] [(.ref bs), (.ref t)])) rfl rfl (hb hby dtt_10)
  have Z0 := Nat.le_trans Z0 (Keep.of_wr W_3).1
  have Z1 := Nat.le_trans Z1 (Keep.of_wr W_3).1
  have K0 := K0.wr W_3 (Or.inl (List.mem_of_getElem? (i := 0) rfl))
  have F_subjects_t := F_subjects_t.same W_3
  have F_predicates_t := F_predicates_t.other W_3 (Or.inr (slot_ne (Or.inl (own_w43 hw)) (Or.inl (own_w41 hw)) (by decide) (t := (.array .int)) (t' := (.array .int)) (by decide) (by decide)))
  have F_objects_t := F_objects_t.other W_3 (Or.inr (slot_ne (Or.inl (own_w45 hw)) (Or.inl (own_w41 hw)) (by decide) (t := (.array .int)) (t' := (.array .int)) (by decide) (by decide)))
  have F_firstGraphs_t := F_firstGraphs_t.other W_3 (Or.inr (slot_ne (Or.inl (own_w47 hw)) (Or.inl (own_w41 hw)) (by decide) (t := (.array .int)) (t' := (.array .int)) (by decide) (by decide)))
  have F_table_t := F_table_t.other W_3 (Or.inr (slot_ne (Or.inl (own_w120 hw)) (Or.inl (own_w41 hw)) (by decide) (t := (.array .int)) (t' := (.array .int)) (by decide) (by decide)))
  have F_otherGraphs_t := F_otherGraphs_t.other W_3 (Or.inr (slot_ne (Or.inr (own_w118 hw)) (Or.inl (own_w41 hw)) (by decide) (t := (.object "java/util/Set")) (t' := (.array .int)) (by decide) (by decide)))
  have F_size_t := F_size_t.other W_3 (Or.inr (slot_ne (Or.inl (own_w158 hw)) (Or.inl (own_w41 hw)) (by decide) (t := .int) (t' := (.array .int)) (by decide) (by decide)))
  have E_t := E_t.wr W_3
  have V_bs := V_bs.other W_3 (Ne.symm ne_t_bs)
  have N_3 := Fr.snoc X_3 N0 le_n0_t
  refine hst st_3 ?_
  show G (T_3.setTop (mkF mI 13 #[.val (.ref t)] []))
  refine o_aloadN hst X_3.here hx (hb hby dtt_13) (pc' := 14) rfl rfl rfl ?_
  refine o_sipush hst X_3.here hx (hb hby dtt_14) (pc' := 17) rfl (z := (1024 : Int32)) rfl ?_
  obtain ⟨T_4, h_4, k_bp, X_4, e_4, E_4, A_4, st_4⟩ := newP (aty := .int) X_3 hx hZ (own_w39 hw) e_3 (g := (mkF mI 17 #[.val (.ref t)] [(.int (1024 : Int32)), (.ref t)])) rfl (hb hby dtt_17) rfl (by decide) (cap := 1024) (by decide) (by decide) (by decide) (by decide)
  obtain ⟨bp, g_bp⟩ : ∃ z, z = h_3.size := ⟨_, rfl⟩
  rw [← g_bp] at A_4 st_4
  have ne_t_bp : t ≠ bp := Nat.ne_of_lt (Nat.lt_of_lt_of_le F_subjects_t.lt (Nat.le_of_eq g_bp.symm))
  have ne_bs_bp : bs ≠ bp := Nat.ne_of_lt (Nat.lt_of_lt_of_le V_bs.lt (Nat.le_of_eq g_bp.symm))
  have le_n0_bp : n0 ≤ bp := Nat.le_trans Z0 (Nat.le_of_eq g_bp.symm)
  have le_hh_bp : h0.size ≤ bp := Nat.le_trans Z1 (Nat.le_of_eq g_bp.symm)
  have Z0 := Nat.le_trans Z0 E_4.1
  have Z1 := Nat.le_trans Z1 E_4.1
  have K0 := K0.ext E_4
  have F_subjects_t := F_subjects_t.ext E_4
  have F_predicates_t := F_predicates_t.ext E_4
  have F_objects_t := F_objects_t.ext E_4
  have F_firstGraphs_t := F_firstGraphs_t.ext E_4
  have F_table_t := F_table_t.ext E_4
  have F_otherGraphs_t := F_otherGraphs_t.ext E_4
  have F_size_t := F_size_t.ext E_4
  have E_t := E_t.ext E_4
  have V_bs := V_bs.ext E_4
  have V_bp : Arv Z h_4 bp k_bp .int (1024 : Int32) [] (.int (0 : Int32)) := Arv.new A_4 (by decide)
  refine hst st_4 ?_
  show G (T_4.setTop (mkF mI 19 #[.val (.ref t)] [(.ref bp), (.ref t)]))
  obtain ⟨T_5, h_5, X_5, e_5, W_5, st_5⟩ := putF X_4 hx hZ hown (host := "") (Or.inl (own_w42 hw)) Via.refl e_4 F_predicates_t E_t (Or.inl (own_w43 hw)) (own_w33 hw) (ty := (.array .int)) (by decide) rfl rfl (g := (mkF mI 19 #[.val (.ref t)] [(.ref bp), (.ref t)])) rfl rfl (hb hby dtt_19)
  have Z0 := Nat.le_trans Z0 (Keep.of_wr W_5).1
  have Z1 := Nat.le_trans Z1 (Keep.of_wr W_5).1
  have K0 := K0.wr W_5 (Or.inl (List.mem_of_getElem? (i := 0) rfl))
  have F_subjects_t := F_subjects_t.other W_5 (Or.inr (slot_ne (Or.inl (own_w41 hw)) (Or.inl (own_w43 hw)) (by decide) (t := (.array .int)) (t' := (.array .int)) (by decide) (by decide)))
  have F_predicates_t := F_predicates_t.same W_5
  have F_objects_t := F_objects_t.other W_5 (Or.inr (slot_ne (Or.inl (own_w45 hw)) (Or.inl (own_w43 hw)) (by decide) (t := (.array .int)) (t' := (.array .int)) (by decide) (by decide)))
  have F_firstGraphs_t := F_firstGraphs_t.other W_5 (Or.inr (slot_ne (Or.inl (own_w47 hw)) (Or.inl (own_w43 hw)) (by decide) (t := (.array .int)) (t' := (.array .int)) (by decide) (by decide)))
  have F_table_t := F_table_t.other W_5 (Or.inr (slot_ne (Or.inl (own_w120 hw)) (Or.inl (own_w43 hw)) (by decide) (t := (.array .int)) (t' := (.array .int)) (by decide) (by decide)))
  have F_otherGraphs_t := F_otherGraphs_t.other W_5 (Or.inr (slot_ne (Or.inr (own_w118 hw)) (Or.inl (own_w43 hw)) (by decide) (t := (.object "java/util/Set")) (t' := (.array .int)) (by decide) (by decide)))
  have F_size_t := F_size_t.other W_5 (Or.inr (slot_ne (Or.inl (own_w158 hw)) (Or.inl (own_w43 hw)) (by decide) (t := .int) (t' := (.array .int)) (by decide) (by decide)))
  have E_t := E_t.wr W_5
  have V_bs := V_bs.other W_5 (Ne.symm ne_t_bs)
  have V_bp := V_bp.other W_5 (Ne.symm ne_t_bp)
  have N_5 := Fr.snoc X_5 N_3 le_n0_t
  refine hst st_5 ?_
  show G (T_5.setTop (mkF mI 22 #[.val (.ref t)] []))
  refine o_aloadN hst X_5.here hx (hb hby dtt_22) (pc' := 23) rfl rfl rfl ?_
  refine o_sipush hst X_5.here hx (hb hby dtt_23) (pc' := 26) rfl (z := (1024 : Int32)) rfl ?_
  obtain ⟨T_6, h_6, k_bo, X_6, e_6, E_6, A_6, st_6⟩ := newP (aty := .int) X_5 hx hZ (own_w39 hw) e_5 (g := (mkF mI 26 #[.val (.ref t)] [(.int (1024 : Int32)), (.ref t)])) rfl (hb hby dtt_26) rfl (by decide) (cap := 1024) (by decide) (by decide) (by decide) (by decide)
  obtain ⟨bo, g_bo⟩ : ∃ z, z = h_5.size := ⟨_, rfl⟩
  rw [← g_bo] at A_6 st_6
  have ne_t_bo : t ≠ bo := Nat.ne_of_lt (Nat.lt_of_lt_of_le F_subjects_t.lt (Nat.le_of_eq g_bo.symm))
  have ne_bs_bo : bs ≠ bo := Nat.ne_of_lt (Nat.lt_of_lt_of_le V_bs.lt (Nat.le_of_eq g_bo.symm))
  have ne_bp_bo : bp ≠ bo := Nat.ne_of_lt (Nat.lt_of_lt_of_le V_bp.lt (Nat.le_of_eq g_bo.symm))
  have le_n0_bo : n0 ≤ bo := Nat.le_trans Z0 (Nat.le_of_eq g_bo.symm)
  have le_hh_bo : h0.size ≤ bo := Nat.le_trans Z1 (Nat.le_of_eq g_bo.symm)
  have Z0 := Nat.le_trans Z0 E_6.1
  have Z1 := Nat.le_trans Z1 E_6.1
  have K0 := K0.ext E_6
  have F_subjects_t := F_subjects_t.ext E_6
  have F_predicates_t := F_predicates_t.ext E_6
  have F_objects_t := F_objects_t.ext E_6
  have F_firstGraphs_t := F_firstGraphs_t.ext E_6
  have F_table_t := F_table_t.ext E_6
  have F_otherGraphs_t := F_otherGraphs_t.ext E_6
  have F_size_t := F_size_t.ext E_6
  have E_t := E_t.ext E_6
  have V_bs := V_bs.ext E_6
  have V_bp := V_bp.ext E_6
  have V_bo : Arv Z h_6 bo k_bo .int (1024 : Int32) [] (.int (0 : Int32)) := Arv.new A_6 (by decide)
  refine hst st_6 ?_
  show G (T_6.setTop (mkF mI 28 #[.val (.ref t)] [(.ref bo), (.ref t)]))
  obtain ⟨T_7, h_7, X_7, e_7, W_7, st_7⟩ := putF X_6 hx hZ hown (host := "") (Or.inl (own_w44 hw)) Via.refl e_6 F_objects_t E_t (Or.inl (own_w45 hw)) (own_w33 hw) (ty := (.array .int)) (by decide) rfl rfl (g := (mkF mI 28 #[.val (.ref t)] [(.ref bo), (.ref t)])) rfl rfl (hb hby dtt_28)
  have Z0 := Nat.le_trans Z0 (Keep.of_wr W_7).1
  have Z1 := Nat.le_trans Z1 (Keep.of_wr W_7).1
  have K0 := K0.wr W_7 (Or.inl (List.mem_of_getElem? (i := 0) rfl))
  have F_subjects_t := F_subjects_t.other W_7 (Or.inr (slot_ne (Or.inl (own_w41 hw)) (Or.inl (own_w45 hw)) (by decide) (t := (.array .int)) (t' := (.array .int)) (by decide) (by decide)))
  have F_predicates_t := F_predicates_t.other W_7 (Or.inr (slot_ne (Or.inl (own_w43 hw)) (Or.inl (own_w45 hw)) (by decide) (t := (.array .int)) (t' := (.array .int)) (by decide) (by decide)))
  have F_objects_t := F_objects_t.same W_7
  have F_firstGraphs_t := F_firstGraphs_t.other W_7 (Or.inr (slot_ne (Or.inl (own_w47 hw)) (Or.inl (own_w45 hw)) (by decide) (t := (.array .int)) (t' := (.array .int)) (by decide) (by decide)))
  have F_table_t := F_table_t.other W_7 (Or.inr (slot_ne (Or.inl (own_w120 hw)) (Or.inl (own_w45 hw)) (by decide) (t := (.array .int)) (t' := (.array .int)) (by decide) (by decide)))
  have F_otherGraphs_t := F_otherGraphs_t.other W_7 (Or.inr (slot_ne (Or.inr (own_w118 hw)) (Or.inl (own_w45 hw)) (by decide) (t := (.object "java/util/Set")) (t' := (.array .int)) (by decide) (by decide)))
  have F_size_t := F_size_t.other W_7 (Or.inr (slot_ne (Or.inl (own_w158 hw)) (Or.inl (own_w45 hw)) (by decide) (t := .int) (t' := (.array .int)) (by decide) (by decide)))
  have E_t := E_t.wr W_7
  have V_bs := V_bs.other W_7 (Ne.symm ne_t_bs)
  have V_bp := V_bp.other W_7 (Ne.symm ne_t_bp)
  have V_bo := V_bo.other W_7 (Ne.symm ne_t_bo)
  have N_7 := Fr.snoc X_7 N_5 le_n0_t
  refine hst st_7 ?_
  show G (T_7.setTop (mkF mI 31 #[.val (.ref t)] []))
  refine o_aloadN hst X_7.here hx (hb hby dtt_31) (pc' := 32) rfl rfl rfl ?_
  refine o_sipush hst X_7.here hx (hb hby dtt_32) (pc' := 35) rfl (z := (1024 : Int32)) rfl ?_
  obtain ⟨T_8, h_8, k_bf, X_8, e_8, E_8, A_8, st_8⟩ := newP (aty := .int) X_7 hx hZ (own_w39 hw) e_7 (g := (mkF mI 35 #[.val (.ref t)] [(.int (1024 : Int32)), (.ref t)])) rfl (hb hby dtt_35) rfl (by decide) (cap := 1024) (by decide) (by decide) (by decide) (by decide)
  obtain ⟨bf, g_bf⟩ : ∃ z, z = h_7.size := ⟨_, rfl⟩
  rw [← g_bf] at A_8 st_8
  have ne_t_bf : t ≠ bf := Nat.ne_of_lt (Nat.lt_of_lt_of_le F_subjects_t.lt (Nat.le_of_eq g_bf.symm))
  have ne_bs_bf : bs ≠ bf := Nat.ne_of_lt (Nat.lt_of_lt_of_le V_bs.lt (Nat.le_of_eq g_bf.symm))
  have ne_bp_bf : bp ≠ bf := Nat.ne_of_lt (Nat.lt_of_lt_of_le V_bp.lt (Nat.le_of_eq g_bf.symm))
  have ne_bo_bf : bo ≠ bf := Nat.ne_of_lt (Nat.lt_of_lt_of_le V_bo.lt (Nat.le_of_eq g_bf.symm))
  have le_n0_bf : n0 ≤ bf := Nat.le_trans Z0 (Nat.le_of_eq g_bf.symm)
  have le_hh_bf : h0.size ≤ bf := Nat.le_trans Z1 (Nat.le_of_eq g_bf.symm)
  have Z0 := Nat.le_trans Z0 E_8.1
  have Z1 := Nat.le_trans Z1 E_8.1
  have K0 := K0.ext E_8
  have F_subjects_t := F_subjects_t.ext E_8
  have F_predicates_t := F_predicates_t.ext E_8
  have F_objects_t := F_objects_t.ext E_8
  have F_firstGraphs_t := F_firstGraphs_t.ext E_8
  have F_table_t := F_table_t.ext E_8
  have F_otherGraphs_t := F_otherGraphs_t.ext E_8
  have F_size_t := F_size_t.ext E_8
  have E_t := E_t.ext E_8
  have V_bs := V_bs.ext E_8
  have V_bp := V_bp.ext E_8
  have V_bo := V_bo.ext E_8
  have V_bf : Arv Z h_8 bf k_bf .int (1024 : Int32) [] (.int (0 : Int32)) := Arv.new A_8 (by decide)
  refine hst st_8 ?_
  show G (T_8.setTop (mkF mI 37 #[.val (.ref t)] [(.ref bf), (.ref t)]))
  obtain ⟨T_9, h_9, X_9, e_9, W_9, st_9⟩ := putF X_8 hx hZ hown (host := "") (Or.inl (own_w46 hw)) Via.refl e_8 F_firstGraphs_t E_t (Or.inl (own_w47 hw)) (own_w33 hw) (ty := (.array .int)) (by decide) rfl rfl (g := (mkF mI 37 #[.val (.ref t)] [(.ref bf), (.ref t)])) rfl rfl (hb hby dtt_37)
  have Z0 := Nat.le_trans Z0 (Keep.of_wr W_9).1
  have Z1 := Nat.le_trans Z1 (Keep.of_wr W_9).1
  have K0 := K0.wr W_9 (Or.inl (List.mem_of_getElem? (i := 0) rfl))
  have F_subjects_t := F_subjects_t.other W_9 (Or.inr (slot_ne (Or.inl (own_w41 hw)) (Or.inl (own_w47 hw)) (by decide) (t := (.array .int)) (t' := (.array .int)) (by decide) (by decide)))
  have F_predicates_t := F_predicates_t.other W_9 (Or.inr (slot_ne (Or.inl (own_w43 hw)) (Or.inl (own_w47 hw)) (by decide) (t := (.array .int)) (t' := (.array .int)) (by decide) (by decide)))
  have F_objects_t := F_objects_t.other W_9 (Or.inr (slot_ne (Or.inl (own_w45 hw)) (Or.inl (own_w47 hw)) (by decide) (t := (.array .int)) (t' := (.array .int)) (by decide) (by decide)))
  have F_firstGraphs_t := F_firstGraphs_t.same W_9
  have F_table_t := F_table_t.other W_9 (Or.inr (slot_ne (Or.inl (own_w120 hw)) (Or.inl (own_w47 hw)) (by decide) (t := (.array .int)) (t' := (.array .int)) (by decide) (by decide)))
  have F_otherGraphs_t := F_otherGraphs_t.other W_9 (Or.inr (slot_ne (Or.inr (own_w118 hw)) (Or.inl (own_w47 hw)) (by decide) (t := (.object "java/util/Set")) (t' := (.array .int)) (by decide) (by decide)))
  have F_size_t := F_size_t.other W_9 (Or.inr (slot_ne (Or.inl (own_w158 hw)) (Or.inl (own_w47 hw)) (by decide) (t := .int) (t' := (.array .int)) (by decide) (by decide)))
  have E_t := E_t.wr W_9
  have V_bs := V_bs.other W_9 (Ne.symm ne_t_bs)
  have V_bp := V_bp.other W_9 (Ne.symm ne_t_bp)
  have V_bo := V_bo.other W_9 (Ne.symm ne_t_bo)
  have V_bf := V_bf.other W_9 (Ne.symm ne_t_bf)
  have N_9 := Fr.snoc X_9 N_7 le_n0_t
  refine hst st_9 ?_
  show G (T_9.setTop (mkF mI 40 #[.val (.ref t)] []))
  refine o_aloadN hst X_9.here hx (hb hby dtt_40) (pc' := 41) rfl rfl rfl ?_
  obtain ⟨T_10, h_10, X_10, e_10, E_10, A_10, D_10, -, st_10⟩ := newO X_9 hx hZ hown (own_w48 hw) (own_w49 hw) (own_w50 hw) e_9 (g := (mkF mI 41 #[.val (.ref t)] [(.ref t)])) rfl (hb hby dtt_41) (by decide) (by decide)
  obtain ⟨s, g_s⟩ : ∃ z, z = h_9.size := ⟨_, rfl⟩
  rw [← g_s] at A_10 D_10 st_10
  have ne_t_s : t ≠ s := Nat.ne_of_lt (Nat.lt_of_lt_of_le F_subjects_t.lt (Nat.le_of_eq g_s.symm))
  have ne_bs_s : bs ≠ s := Nat.ne_of_lt (Nat.lt_of_lt_of_le V_bs.lt (Nat.le_of_eq g_s.symm))
  have ne_bp_s : bp ≠ s := Nat.ne_of_lt (Nat.lt_of_lt_of_le V_bp.lt (Nat.le_of_eq g_s.symm))
  have ne_bo_s : bo ≠ s := Nat.ne_of_lt (Nat.lt_of_lt_of_le V_bo.lt (Nat.le_of_eq g_s.symm))
  have ne_bf_s : bf ≠ s := Nat.ne_of_lt (Nat.lt_of_lt_of_le V_bf.lt (Nat.le_of_eq g_s.symm))
  have le_n0_s : n0 ≤ s := Nat.le_trans Z0 (Nat.le_of_eq g_s.symm)
  have le_hh_s : h0.size ≤ s := Nat.le_trans Z1 (Nat.le_of_eq g_s.symm)
  have Z0 := Nat.le_trans Z0 E_10.1
  have Z1 := Nat.le_trans Z1 E_10.1
  have K0 := K0.ext E_10
  have F_subjects_t := F_subjects_t.ext E_10
  have F_predicates_t := F_predicates_t.ext E_10
  have F_objects_t := F_objects_t.ext E_10
  have F_firstGraphs_t := F_firstGraphs_t.ext E_10
  have F_table_t := F_table_t.ext E_10
  have F_otherGraphs_t := F_otherGraphs_t.ext E_10
  have F_size_t := F_size_t.ext E_10
  have E_t := E_t.ext E_10
  have V_bs := V_bs.ext E_10
  have V_bp := V_bp.ext E_10
  have V_bo := V_bo.ext E_10
  have V_bf := V_bf.ext E_10
  have E_s : Exa Z h_10 s "java/util/LinkedHashSet" := A_10
  have F_map_s : Fld Z h_10 s "java/util/HashSet" "map" "Ljava/util/HashMap;" .null := D_10 (Or.inl (own_w116 hw)) (ty := (.object "java/util/HashMap")) (by decide)
  refine hst st_10 ?_
  show G (T_10.setTop (mkF mI 44 #[.val (.ref t)] [(.ref s), (.ref t)]))
  refine o_dup hst X_10.here hx (hb hby dtt_44) (pc' := 45) rfl rfl ?_
  obtain ⟨_, _, ⟨T_11, L_11, k_11, n_11⟩, -, X_11, ⟨Lc_11, hQ_11, l_11, y_11, z_11⟩, st_11⟩ := X_10.specialBack hx (y := (⟨"java/util/LinkedHashSet", "<init>", "()V"⟩ : MethodName)) rfl hown (mvT hZ (own_w51 hw)) (mvT hZ (own_w52 hw)) (mvT hZ (own_w53 hw)) (by decide) (backOf (W := 2) (rmls lL Z a0 hw [] s  h_10 n0 Z0 F_map_s E_s le_n0_s) hZ (own_w53 hw) (own_w50 hw) (by decide) (by decide)) (g := (mkF mI 45 #[.val (.ref t)] [(.ref s), (.ref s), (.ref t)])) rfl (by rw [hml]; rfl) (Steps.refl _) (a := s) (argsL := []) (rest := [(.ref s), (.ref t)]) (lenOf pd_0 rfl) rfl (by show 2 * 0 + _ ≤ _; exact Nat.le_of_eq rfl) (hb hby dtt_45) (fun _ _ => ⟨rfl, e_10, (by decide : 5 + 1 ≤ _), (by decide : 4097 + 12 ≤ _)⟩)
  dsimp only [Pt.U, Pt.locs, Pt.cells, Pt.slots] at X_11 l_11 y_11 z_11 st_11 hQ_11
  subst l_11 y_11 z_11
  obtain ⟨rfl, N_11q, K_11, Ex_11, m, le_m, G1, E_m, F_size_m, F_keySet_m, F_head_m, F_modCount_m⟩ := hQ_11
  have le_hh_m := Nat.le_trans Z1 le_m
  have Z0 := Nat.le_trans Z0 K_11.1
  have Z1 := Nat.le_trans Z1 K_11.1
  have K0 := K0.trans K_11 (allS (Or.inr le_hh_s) all0)
  have F_subjects_t := F_subjects_t.keep K_11 (ninS ne_t_s nin0)
  have F_predicates_t := F_predicates_t.keep K_11 (ninS ne_t_s nin0)
  have F_objects_t := F_objects_t.keep K_11 (ninS ne_t_s nin0)
  have F_firstGraphs_t := F_firstGraphs_t.keep K_11 (ninS ne_t_s nin0)
  have F_table_t := F_table_t.keep K_11 (ninS ne_t_s nin0)
  have F_otherGraphs_t := F_otherGraphs_t.keep K_11 (ninS ne_t_s nin0)
  have F_size_t := F_size_t.keep K_11 (ninS ne_t_s nin0)
  have E_t := E_t.keep K_11
  have V_bs := V_bs.keep K_11 (ninS ne_bs_s nin0)
  have V_bp := V_bp.keep K_11 (ninS ne_bp_s nin0)
  have V_bo := V_bo.keep K_11 (ninS ne_bo_s nin0)
  have V_bf := V_bf.keep K_11 (ninS ne_bf_s nin0)
  have E_s := E_s.keep K_11
  have F_map_s := G1
  have N_11 := Fr.app N_9 N_11q
  refine hst (fun _ kt => st_11.trans kt) ?_
  show G (T_11.setTop (mkF mI 48 #[.val (.ref t)] [(.ref s), (.ref t)]))
  obtain ⟨T_12, h_12, X_12, e_12, W_12, st_12⟩ := putF X_11 hx hZ hown (host := "") (Or.inl (own_w117 hw)) Via.refl rfl F_otherGraphs_t E_t (Or.inr ⟨(own_w118 hw), rfl, hnm⟩) (own_w33 hw) (ty := (.object "java/util/Set")) (by decide) rfl rfl (g := (mkF mI 48 #[.val (.ref t)] [(.ref s), (.ref t)])) rfl rfl (hb hby dtt_48)
  have ne_m_t : m ≠ t := ne_exa E_m E_t (by decide)
  have Z0 := Nat.le_trans Z0 (Keep.of_wr W_12).1
  have Z1 := Nat.le_trans Z1 (Keep.of_wr W_12).1
  have K0 := K0.wr W_12 (Or.inl (List.mem_of_getElem? (i := 0) rfl))
  have F_subjects_t := F_subjects_t.other W_12 (Or.inr (slot_ne (Or.inl (own_w41 hw)) (Or.inr (own_w118 hw)) (by decide) (t := (.array .int)) (t' := (.object "java/util/Set")) (by decide) (by decide)))
  have F_predicates_t := F_predicates_t.other W_12 (Or.inr (slot_ne (Or.inl (own_w43 hw)) (Or.inr (own_w118 hw)) (by decide) (t := (.array .int)) (t' := (.object "java/util/Set")) (by decide) (by decide)))
  have F_objects_t := F_objects_t.other W_12 (Or.inr (slot_ne (Or.inl (own_w45 hw)) (Or.inr (own_w118 hw)) (by decide) (t := (.array .int)) (t' := (.object "java/util/Set")) (by decide) (by decide)))
  have F_firstGraphs_t := F_firstGraphs_t.other W_12 (Or.inr (slot_ne (Or.inl (own_w47 hw)) (Or.inr (own_w118 hw)) (by decide) (t := (.array .int)) (t' := (.object "java/util/Set")) (by decide) (by decide)))
  have F_table_t := F_table_t.other W_12 (Or.inr (slot_ne (Or.inl (own_w120 hw)) (Or.inr (own_w118 hw)) (by decide) (t := (.array .int)) (t' := (.object "java/util/Set")) (by decide) (by decide)))
  have F_otherGraphs_t := F_otherGraphs_t.same W_12
  have F_size_t := F_size_t.other W_12 (Or.inr (slot_ne (Or.inl (own_w158 hw)) (Or.inr (own_w118 hw)) (by decide) (t := .int) (t' := (.object "java/util/Set")) (by decide) (by decide)))
  have E_t := E_t.wr W_12
  have V_bs := V_bs.other W_12 (Ne.symm ne_t_bs)
  have V_bp := V_bp.other W_12 (Ne.symm ne_t_bp)
  have V_bo := V_bo.other W_12 (Ne.symm ne_t_bo)
  have V_bf := V_bf.other W_12 (Ne.symm ne_t_bf)
  have E_s := E_s.wr W_12
  have F_map_s := F_map_s.other W_12 (Or.inl (Ne.symm ne_t_s))
  have E_m := E_m.wr W_12
  have F_size_m := F_size_m.other W_12 (Or.inl ne_m_t)
  have F_keySet_m := F_keySet_m.other W_12 (Or.inl ne_m_t)
  have F_head_m := F_head_m.other W_12 (Or.inl ne_m_t)
  have F_modCount_m := F_modCount_m.other W_12 (Or.inl ne_m_t)
  have N_12 := Fr.snoc X_12 N_11 le_n0_t
  refine hst st_12 ?_
  show G (T_12.setTop (mkF mI 51 #[.val (.ref t)] []))
  refine o_aloadN hst X_12.here hx (hb hby dtt_51) (pc' := 52) rfl rfl rfl ?_
  refine o_sipush hst X_12.here hx (hb hby dtt_52) (pc' := 55) rfl (z := (2048 : Int32)) rfl ?_
  obtain ⟨T_13, h_13, k_bt, X_13, e_13, E_13, A_13, st_13⟩ := newP (aty := .int) X_12 hx hZ (own_w39 hw) e_12 (g := (mkF mI 55 #[.val (.ref t)] [(.int (2048 : Int32)), (.ref t)])) rfl (hb hby dtt_55) rfl (by decide) (cap := 2048) (by decide) (by decide) (by decide) (by decide)
  obtain ⟨bt, g_bt⟩ : ∃ z, z = h_12.size := ⟨_, rfl⟩
  rw [← g_bt] at A_13 st_13
  have ne_t_bt : t ≠ bt := Nat.ne_of_lt (Nat.lt_of_lt_of_le F_subjects_t.lt (Nat.le_of_eq g_bt.symm))
  have ne_bs_bt : bs ≠ bt := Nat.ne_of_lt (Nat.lt_of_lt_of_le V_bs.lt (Nat.le_of_eq g_bt.symm))
  have ne_bp_bt : bp ≠ bt := Nat.ne_of_lt (Nat.lt_of_lt_of_le V_bp.lt (Nat.le_of_eq g_bt.symm))
  have ne_bo_bt : bo ≠ bt := Nat.ne_of_lt (Nat.lt_of_lt_of_le V_bo.lt (Nat.le_of_eq g_bt.symm))
  have ne_bf_bt : bf ≠ bt := Nat.ne_of_lt (Nat.lt_of_lt_of_le V_bf.lt (Nat.le_of_eq g_bt.symm))
  have ne_s_bt : s ≠ bt := Nat.ne_of_lt (Nat.lt_of_lt_of_le E_s.lt (Nat.le_of_eq g_bt.symm))
  have ne_m_bt : m ≠ bt := Nat.ne_of_lt (Nat.lt_of_lt_of_le E_m.lt (Nat.le_of_eq g_bt.symm))
  have le_n0_bt : n0 ≤ bt := Nat.le_trans Z0 (Nat.le_of_eq g_bt.symm)
  have le_hh_bt : h0.size ≤ bt := Nat.le_trans Z1 (Nat.le_of_eq g_bt.symm)
  have Z0 := Nat.le_trans Z0 E_13.1
  have Z1 := Nat.le_trans Z1 E_13.1
  have K0 := K0.ext E_13
  have F_subjects_t := F_subjects_t.ext E_13
  have F_predicates_t := F_predicates_t.ext E_13
  have F_objects_t := F_objects_t.ext E_13
  have F_firstGraphs_t := F_firstGraphs_t.ext E_13
  have F_table_t := F_table_t.ext E_13
  have F_otherGraphs_t := F_otherGraphs_t.ext E_13
  have F_size_t := F_size_t.ext E_13
  have E_t := E_t.ext E_13
  have V_bs := V_bs.ext E_13
  have V_bp := V_bp.ext E_13
  have V_bo := V_bo.ext E_13
  have V_bf := V_bf.ext E_13
  have E_s := E_s.ext E_13
  have F_map_s := F_map_s.ext E_13
  have E_m := E_m.ext E_13
  have F_size_m := F_size_m.ext E_13
  have F_keySet_m := F_keySet_m.ext E_13
  have F_head_m := F_head_m.ext E_13
  have F_modCount_m := F_modCount_m.ext E_13
  have V_bt : Arv Z h_13 bt k_bt .int (2048 : Int32) [] (.int (0 : Int32)) := Arv.new A_13 (by decide)
  refine hst st_13 ?_
  show G (T_13.setTop (mkF mI 57 #[.val (.ref t)] [(.ref bt), (.ref t)]))
  obtain ⟨T_14, h_14, X_14, e_14, W_14, st_14⟩ := putF X_13 hx hZ hown (host := "") (Or.inl (own_w119 hw)) Via.refl e_13 F_table_t E_t (Or.inl (own_w120 hw)) (own_w33 hw) (ty := (.array .int)) (by decide) rfl rfl (g := (mkF mI 57 #[.val (.ref t)] [(.ref bt), (.ref t)])) rfl rfl (hb hby dtt_57)
  have Z0 := Nat.le_trans Z0 (Keep.of_wr W_14).1
  have Z1 := Nat.le_trans Z1 (Keep.of_wr W_14).1
  have K0 := K0.wr W_14 (Or.inl (List.mem_of_getElem? (i := 0) rfl))
  have F_subjects_t := F_subjects_t.other W_14 (Or.inr (slot_ne (Or.inl (own_w41 hw)) (Or.inl (own_w120 hw)) (by decide) (t := (.array .int)) (t' := (.array .int)) (by decide) (by decide)))
  have F_predicates_t := F_predicates_t.other W_14 (Or.inr (slot_ne (Or.inl (own_w43 hw)) (Or.inl (own_w120 hw)) (by decide) (t := (.array .int)) (t' := (.array .int)) (by decide) (by decide)))
  have F_objects_t := F_objects_t.other W_14 (Or.inr (slot_ne (Or.inl (own_w45 hw)) (Or.inl (own_w120 hw)) (by decide) (t := (.array .int)) (t' := (.array .int)) (by decide) (by decide)))
  have F_firstGraphs_t := F_firstGraphs_t.other W_14 (Or.inr (slot_ne (Or.inl (own_w47 hw)) (Or.inl (own_w120 hw)) (by decide) (t := (.array .int)) (t' := (.array .int)) (by decide) (by decide)))
  have F_table_t := F_table_t.same W_14
  have F_otherGraphs_t := F_otherGraphs_t.other W_14 (Or.inr (slot_ne (Or.inr (own_w118 hw)) (Or.inl (own_w120 hw)) (by decide) (t := (.object "java/util/Set")) (t' := (.array .int)) (by decide) (by decide)))
  have F_size_t := F_size_t.other W_14 (Or.inr (slot_ne (Or.inl (own_w158 hw)) (Or.inl (own_w120 hw)) (by decide) (t := .int) (t' := (.array .int)) (by decide) (by decide)))
  have E_t := E_t.wr W_14
  have V_bs := V_bs.other W_14 (Ne.symm ne_t_bs)
  have V_bp := V_bp.other W_14 (Ne.symm ne_t_bp)
  have V_bo := V_bo.other W_14 (Ne.symm ne_t_bo)
  have V_bf := V_bf.other W_14 (Ne.symm ne_t_bf)
  have E_s := E_s.wr W_14
  have F_map_s := F_map_s.other W_14 (Or.inl (Ne.symm ne_t_s))
  have E_m := E_m.wr W_14
  have F_size_m := F_size_m.other W_14 (Or.inl ne_m_t)
  have F_keySet_m := F_keySet_m.other W_14 (Or.inl ne_m_t)
  have F_head_m := F_head_m.other W_14 (Or.inl ne_m_t)
  have F_modCount_m := F_modCount_m.other W_14 (Or.inl ne_m_t)
  have V_bt := V_bt.other W_14 (Ne.symm ne_t_bt)
  have N_14 := Fr.snoc X_14 N_12 le_n0_t
  refine hst st_14 ?_
  show G (T_14.setTop (mkF mI 60 #[.val (.ref t)] []))
  exact hend (own_goVoid X_14 hx Bd.returns (hb hby dtt_60) Bd.notSynchronized (by rw [e_14]; exact ⟨rfl, N_14, K0, s, m, bs, bp, bo, bf, k_bs, k_bp, k_bo, k_bf, ⟨le_hh_s, le_hh_m, le_hh_bs, le_hh_bp, le_hh_bo, le_hh_bf⟩, E_t, F_subjects_t, F_predicates_t, F_objects_t, F_firstGraphs_t, F_otherGraphs_t, F_size_t, E_s, F_map_s, E_m, F_size_m, F_keySet_m, F_head_m, F_modCount_m, V_bs, V_bp, V_bo, V_bf⟩) (by decide) (by decide))
theorem dmn0_0 : decode jdk_29_method_69_code 0 = .ok (.iload_n 0, 1) := by decide +kernel
theorem dmn0_1 : decode jdk_29_method_69_code 1 = .ok (.iload_n 1, 1) := by decide +kernel
theorem dmn0_2 : decode jdk_29_method_69_code 2 = .ok (.if_icmp .gt 7, 3) := by decide +kernel
theorem dmn0_9 : decode jdk_29_method_69_code 9 = .ok (.iload_n 1, 1) := by decide +kernel
theorem dmn0_10 : decode jdk_29_method_69_code 10 = .ok (.ireturn, 1) := by decide +kernel
theorem ef_mn0 (mI : MethodId)  : entryFrame mI #[(.int (1024 : Int32)), (.int (0 : Int32))] 2 = mkF mI 0 #[.val (.int (1024 : Int32)), .val (.int (0 : Int32))] [] := by first | (simp [entryFrame, mkF, argsToLocals, Value.category]; done) | rfl
set_option maxRecDepth 65536 in
set_option maxHeartbeats 40000000 in
theorem rmmn0 (lL : Launch) (Z : State) (a0 : Array Value) (hw : ∀ d ∈ tables_1, d.before a0 Z = true) (ws : List Jvm.Cond)  (h0 : Heap) (n0 : Nat) (Z0 : n0 ≤ h0.size) :
    MetFree lL (⟨"java/lang/Math", "min", "(II)I"⟩ : MethodName) (head1 (Jvm.Cond.code (⟨"java/lang/Math", "min", "(II)I"⟩ : MethodName) jdk_29_method_69_code 2 (some .int) :: ws) ({ frames := 0, cells := 0, slots := 0, locals := 0 } : Room)) (fun a_ U_ => a_ = #[(.int (1024 : Int32)), (.int (0 : Int32))] ∧ Z.Warmed39 U_.vm ∧ U_.heap = h0) (fun _ _ _ _ _ => True) (fun _ U_ o_ W_ => ∃ v_ L_, o_ = .returned v_ ∧ own_QI (0 : Int32) h0 n0 v_ W_.heap L_ ∧ FrameEnd U_ o_ W_ L_ ({ frames := 0, cells := 0, slots := 0, locals := 0 } : Room).cells ({ frames := 0, cells := 0, slots := 0, locals := 0 } : Room).slots) := by
  refine MetFree.of_bodySF (Jvm.Free.JP.mathPlain rfl (by decide +kernel)) hisR ?_
  intro pP eE sS mI args below meth cC s₁ Bd hml0 hP hK
  obtain ⟨rfl, hZ, hh⟩ := hP
  have hx := Bd.exec
  have hby := Bd.bytes
  have hml : cC.maxLocals = 2 := hml0
  have hown : sS.vm.findClass "java/lang/Math" = some mI.cls := by have z := findClass_of_methodNamed Bd.named; exact z
  have hnm := (name_of_methodNamed Bd.named Bd.method).1
  have X0 : Stand pP lL eE ({ frames := 0, cells := 0, slots := 0, locals := 0 } : Room) sS mI #[(.int (1024 : Int32)), (.int (0 : Int32))] below meth cC s₁ [] 0 0 := Stand.of_body Bd
  have e0 : s₁.heap = h0 := by rw [← hh, Bd.state]; rfl
  have N0 := Fr.nil n0
  obtain ⟨G, hG, hst, hend⟩ := own_abs pP eE below sS (own_QI (0 : Int32) h0 n0) ({ frames := 0, cells := 0, slots := 0, locals := 0 } : Room).cells ({ frames := 0, cells := 0, slots := 0, locals := 0 } : Room).slots
  refine hG (S := s₁.setTop (entryFrame mI #[(.int (1024 : Int32)), (.int (0 : Int32))] 2)) (hst (fun t_ kt_ => castTop (ef_mn0 mI ) kt_) ?_)
  show G (s₁.setTop (mkF mI 0 #[.val (.int (1024 : Int32)), .val (.int (0 : Int32))] []))
  refine o_iloadN hst X0.here hx (hb hby dmn0_0) (pc' := 1) rfl rfl ?_
  refine o_iloadN hst X0.here hx (hb hby dmn0_1) (pc' := 2) rfl rfl ?_
  have hc2 : (0 : Int32) < (1024 : Int32) := by decide
  refine hst (fun _ kt => XS.icmpYes X0.here hx rfl (pc0 := 2) (pc' := 9) rfl (hb hby dmn0_2) rfl (tlt hc2).2.2.1 (by decide) (by decide) kt) ?_
  show G (s₁.setTop (mkF mI 9 #[.val (.int (1024 : Int32)), .val (.int (0 : Int32))] []))
  refine o_iloadN hst X0.here hx (hb hby dmn0_9) (pc' := 10) rfl rfl ?_
  exact hend (own_goRet X0 hx Bd.returns rfl (Or.inl ⟨rfl, by simp, _, rfl⟩) (hb hby dmn0_10) Bd.notSynchronized (by rw [e0]; exact ⟨rfl, N0, rfl⟩) (by decide) (by decide))
def own_Qco (Z : State) (k : Int32) (us : List Value) (h0 : Heap) (n0 : Nat) (v : Option Value) (h : Heap) (L : List Loc) : Prop := ∃ (c : Addr) (kc : ClassId), v = some (.ref c) ∧ Fr n0 L ∧ Keep h0 h [] ∧ h0.size ≤ c ∧ Arv Z h c kc .int k us (.int (0 : Int32))
theorem dco0_0 : decode jdk_65_method_123_code 0 = .ok (.iload_n 1, 1) := by decide +kernel
theorem dco0_1 : decode jdk_65_method_123_code 1 = .ok (.aload_n 0, 1) := by decide +kernel
theorem dco0_2 : decode jdk_65_method_123_code 2 = .ok (.arraylength, 1) := by decide +kernel
theorem dco0_3 : decode jdk_65_method_123_code 3 = .ok (.if_icmp .ne 11, 3) := by decide +kernel
theorem dco0_14 : decode jdk_65_method_123_code 14 = .ok (.iload_n 1, 1) := by decide +kernel
theorem dco0_15 : decode jdk_65_method_123_code 15 = .ok (.newarray .int, 2) := by decide +kernel
theorem dco0_17 : decode jdk_65_method_123_code 17 = .ok (.astore_n 2, 1) := by decide +kernel
theorem dco0_18 : decode jdk_65_method_123_code 18 = .ok (.aload_n 0, 1) := by decide +kernel
theorem dco0_19 : decode jdk_65_method_123_code 19 = .ok (.iconst 0, 1) := by decide +kernel
theorem dco0_20 : decode jdk_65_method_123_code 20 = .ok (.aload_n 2, 1) := by decide +kernel
theorem dco0_21 : decode jdk_65_method_123_code 21 = .ok (.iconst 0, 1) := by decide +kernel
theorem dco0_22 : decode jdk_65_method_123_code 22 = .ok (.aload_n 0, 1) := by decide +kernel
theorem dco0_23 : decode jdk_65_method_123_code 23 = .ok (.arraylength, 1) := by decide +kernel
theorem dco0_24 : decode jdk_65_method_123_code 24 = .ok (.iload_n 1, 1) := by decide +kernel
theorem dco0_25 : decode jdk_65_method_123_code 25 = .ok (.invokestatic 304, 3) := by decide +kernel
theorem dco0_28 : decode jdk_65_method_123_code 28 = .ok (.invokestatic 150, 3) := by decide +kernel
theorem dco0_31 : decode jdk_65_method_123_code 31 = .ok (.aload_n 2, 1) := by decide +kernel
theorem dco0_32 : decode jdk_65_method_123_code 32 = .ok (.areturn, 1) := by decide +kernel
theorem ef_co0 (mI : MethodId) (b : Addr) : entryFrame mI #[(.ref b), (.int (0 : Int32))] 3 = mkF mI 0 #[.val (.ref b), .val (.int (0 : Int32)), .unset] [] := by first | (simp [entryFrame, mkF, argsToLocals, Value.category]; done) | rfl
theorem pn_co0 : plainName "java/util/Arrays" = true := by first | decide +kernel | (simp [plainName, overriddenIn]; done)
set_option maxRecDepth 65536 in
set_option maxHeartbeats 40000000 in
theorem rmco0 (lL : Launch) (Z : State) (a0 : Array Value) (hw : ∀ d ∈ tables_1, d.before a0 Z = true) (ws : List Jvm.Cond) (b : Addr) (kb : ClassId) (h0 : Heap) (n0 : Nat) (Z0 : n0 ≤ h0.size) (V_b : Arv Z h0 b kb .int (1024 : Int32) [] (.int (0 : Int32))) :
    MetFree lL (⟨"java/util/Arrays", "copyOf", "([II)[I"⟩ : MethodName) (head1 (Jvm.Cond.code (⟨"java/util/Arrays", "copyOf", "([II)[I"⟩ : MethodName) jdk_65_method_123_code 3 (some (.array .int)) :: ws) ({ frames := 1, cells := 1, slots := 0, locals := 48 } : Room)) (fun a_ U_ => a_ = #[(.ref b), (.int (0 : Int32))] ∧ Z.Warmed39 U_.vm ∧ U_.heap = h0) (fun _ _ _ _ _ => True) (fun _ U_ o_ W_ => ∃ v_ L_, o_ = .returned v_ ∧ own_Qco Z (0 : Int32) [] h0 n0 v_ W_.heap L_ ∧ FrameEnd U_ o_ W_ L_ ({ frames := 1, cells := 1, slots := 0, locals := 48 } : Room).cells ({ frames := 1, cells := 1, slots := 0, locals := 48 } : Room).slots) := by
  refine MetFree.of_bodySF (plainFor_of_name pn_co0) hisR ?_
  intro pP eE sS mI args below meth cC s₁ Bd hml0 hP hK
  obtain ⟨rfl, hZ, hh⟩ := hP
  have hx := Bd.exec
  have hby := Bd.bytes
  have hml : cC.maxLocals = 3 := hml0
  have hown : sS.vm.findClass "java/util/Arrays" = some mI.cls := by have z := findClass_of_methodNamed Bd.named; exact z
  have hnm := (name_of_methodNamed Bd.named Bd.method).1
  have X0 : Stand pP lL eE ({ frames := 1, cells := 1, slots := 0, locals := 48 } : Room) sS mI #[(.ref b), (.int (0 : Int32))] below meth cC s₁ [] 0 0 := Stand.of_body Bd
  have e0 : s₁.heap = h0 := by rw [← hh, Bd.state]; rfl
  have N0 := Fr.nil n0
  obtain ⟨G, hG, hst, hend⟩ := own_abs pP eE below sS (own_Qco Z (0 : Int32) [] h0 n0) ({ frames := 1, cells := 1, slots := 0, locals := 48 } : Room).cells ({ frames := 1, cells := 1, slots := 0, locals := 48 } : Room).slots
  refine hG (S := s₁.setTop (entryFrame mI #[(.ref b), (.int (0 : Int32))] 3)) (hst (fun t_ kt_ => castTop (ef_co0 mI b) kt_) ?_)
  have Z1 := Nat.le_refl h0.size
  have K0 := Keep.refl h0 []
  show G (s₁.setTop (mkF mI 0 #[.val (.ref b), .val (.int (0 : Int32)), .unset] []))
  refine o_iloadN hst X0.here hx (hb hby dco0_0) (pc' := 1) rfl rfl ?_
  refine o_aloadN hst X0.here hx (hb hby dco0_1) (pc' := 2) rfl rfl rfl ?_
  obtain ⟨cl_1, Ar_1, -, S_1, M_1, -, -⟩ := id V_b
  refine hst (X0.arraylength hx (by rw [e0]; exact Ar_1.1) (State.isArrayOf_alike hZ.alike Ar_1.2.1) (g := (mkF mI 2 #[.val (.ref b), .val (.int (0 : Int32)), .unset] [(.ref b), (.int (0 : Int32))])) rfl rfl (hb hby dco0_2)) ?_
  rw [len_of S_1 M_1]
  show G (s₁.setTop (mkF mI 3 #[.val (.ref b), .val (.int (0 : Int32)), .unset] [(.int (1024 : Int32)), (.int (0 : Int32))]))
  have hc3 : ¬ ((0 : Int32) = (1024 : Int32)) := by decide
  refine hst (fun _ kt => XS.icmpYes X0.here hx rfl (pc0 := 3) (pc' := 14) rfl (hb hby dco0_3) rfl (feq hc3).2 (by decide) (by decide) kt) ?_
  show G (s₁.setTop (mkF mI 14 #[.val (.ref b), .val (.int (0 : Int32)), .unset] []))
  refine o_iloadN hst X0.here hx (hb hby dco0_14) (pc' := 15) rfl rfl ?_
  obtain ⟨T_2, h_2, k_c, X_2, e_2, E_2, A_2, st_2⟩ := newP (aty := .int) X0 hx hZ (own_w39 hw) e0 (g := (mkF mI 15 #[.val (.ref b), .val (.int (0 : Int32)), .unset] [(.int (0 : Int32))])) rfl (hb hby dco0_15) rfl (by decide) (cap := 0) (by decide) (by decide) (by decide) (by decide)
  obtain ⟨c, g_c⟩ : ∃ z, z = h0.size := ⟨_, rfl⟩
  rw [← g_c] at A_2 st_2
  have ne_b_c : b ≠ c := Nat.ne_of_lt (Nat.lt_of_lt_of_le V_b.lt (Nat.le_of_eq g_c.symm))
  have le_n0_c : n0 ≤ c := Nat.le_trans Z0 (Nat.le_of_eq g_c.symm)
  have le_hh_c : h0.size ≤ c := Nat.le_trans Z1 (Nat.le_of_eq g_c.symm)
  have Z0 := Nat.le_trans Z0 E_2.1
  have Z1 := Nat.le_trans Z1 E_2.1
  have K0 := K0.ext E_2
  have V_b := V_b.ext E_2
  have V_c : Arv Z h_2 c k_c .int (0 : Int32) [] (.int (0 : Int32)) := Arv.new A_2 (by decide)
  refine hst st_2 ?_
  show G (T_2.setTop (mkF mI 17 #[.val (.ref b), .val (.int (0 : Int32)), .unset] [(.ref c)]))
  refine o_astoreN hst X_2.here hx (hb hby dco0_17) (pc' := 18) rfl (Lt := #[.val (.ref b), .val (.int (0 : Int32)), .val (.ref c)]) rfl rfl ?_
  refine o_aloadN hst X_2.here hx (hb hby dco0_18) (pc' := 19) rfl rfl rfl ?_
  refine o_iconst hst X_2.here hx (hb hby dco0_19) (pc' := 20) rfl (z := (0 : Int32)) rfl ?_
  refine o_aloadN hst X_2.here hx (hb hby dco0_20) (pc' := 21) rfl rfl rfl ?_
  refine o_iconst hst X_2.here hx (hb hby dco0_21) (pc' := 22) rfl (z := (0 : Int32)) rfl ?_
  refine o_aloadN hst X_2.here hx (hb hby dco0_22) (pc' := 23) rfl rfl rfl ?_
  obtain ⟨cl_3, Ar_3, -, S_3, M_3, -, -⟩ := id V_b
  refine hst (X_2.arraylength hx (by rw [e_2]; exact Ar_3.1) (State.isArrayOf_alike hZ.alike Ar_3.2.1) (g := (mkF mI 23 #[.val (.ref b), .val (.int (0 : Int32)), .val (.ref c)] [(.ref b), (.int (0 : Int32)), (.ref c), (.int (0 : Int32)), (.ref b)])) rfl rfl (hb hby dco0_23)) ?_
  rw [len_of S_3 M_3]
  show G (T_2.setTop (mkF mI 24 #[.val (.ref b), .val (.int (0 : Int32)), .val (.ref c)] [(.int (1024 : Int32)), (.int (0 : Int32)), (.ref c), (.int (0 : Int32)), (.ref b)]))
  refine o_iloadN hst X_2.here hx (hb hby dco0_24) (pc' := 25) rfl rfl ?_
  obtain ⟨_, _, ⟨T_4, L_4, k_4, n_4⟩, -, X_4, ⟨Lc_4, hQ_4, l_4, y_4, z_4⟩, st_4⟩ := Jvm.LawKit.callS X_2 hx (y := (⟨"java/lang/Math", "min", "(II)I"⟩ : MethodName)) hown (mvT hZ (own_w163 hw)) (mvT hZ (own_w164 hw)) (mvT hZ (own_w165 hw)) (mvT hZ (own_w166 hw)) (by decide) (backOf (W := 4) (rmmn0 lL Z a0 hw []   h_2 n0 Z0) hZ (own_w166 hw) (own_w165 hw) (by decide) (by decide)) (g := (mkF mI 25 #[.val (.ref b), .val (.int (0 : Int32)), .val (.ref c)] [(.int (0 : Int32)), (.int (1024 : Int32)), (.int (0 : Int32)), (.ref c), (.int (0 : Int32)), (.ref b)])) rfl (by rw [hml]; rfl) (argsL := [(.int (1024 : Int32)), (.int (0 : Int32))]) (rest := [(.int (0 : Int32)), (.ref c), (.int (0 : Int32)), (.ref b)]) (lenOf pd_5 rfl) rfl (by show 2 * 0 + _ ≤ _; exact Nat.le_of_eq rfl) (hb hby dco0_25) (fun _ _ => ⟨rfl, e_2, (by decide : 1 + 0 ≤ _), (by decide : 0 + 0 ≤ _)⟩)
  dsimp only [Pt.U, Pt.locs, Pt.cells, Pt.slots] at X_4 l_4 y_4 z_4 st_4 hQ_4
  subst l_4 y_4 z_4
  obtain ⟨rfl, N_4q, eh_4⟩ := hQ_4
  have N_4 := Fr.app N0 N_4q
  refine hst (fun _ kt => st_4 _ kt) ?_
  show G (T_4.setTop (mkF mI 28 #[.val (.ref b), .val (.int (0 : Int32)), .val (.ref c)] [(.int (0 : Int32)), (.int (0 : Int32)), (.ref c), (.int (0 : Int32)), (.ref b)]))
  obtain ⟨T_5, h_5, L_5, X_5, e_5, N_5, Kc_5, Vc_5, st_5⟩ := cpA X_4 hx hZ hown (own_w167 hw) (own_w170 hw) (own_w168 hw) (own_w169 hw) eh_4 V_b V_c (us := []) (Or.inl ⟨rfl, rfl⟩) (by decide) (by decide) (by decide) (by decide) (by decide) rfl (by decide) N_4 le_n0_c (g := (mkF mI 28 #[.val (.ref b), .val (.int (0 : Int32)), .val (.ref c)] [(.int (0 : Int32)), (.int (0 : Int32)), (.ref c), (.int (0 : Int32)), (.ref b)])) rfl (by rw [hml]; rfl) rfl (hb hby dco0_28) (by decide) (W := 0) (by show 2 * 0 + _ ≤ _; exact Nat.le_of_eq rfl) (by decide)
  have Z0 := Nat.le_trans Z0 Kc_5.1
  have Z1 := Nat.le_trans Z1 Kc_5.1
  have K0 := K0.trans Kc_5 (allS (Or.inr le_hh_c) all0)
  have V_b := V_b.keep Kc_5 (ninS ne_b_c nin0)
  have V_c : Arv Z h_5 c k_c .int (0 : Int32) [] (.int (0 : Int32)) := Vc_5
  refine hst st_5 ?_
  show G (T_5.setTop (mkF mI 31 #[.val (.ref b), .val (.int (0 : Int32)), .val (.ref c)] []))
  refine o_aloadN hst X_5.here hx (hb hby dco0_31) (pc' := 32) rfl rfl rfl ?_
  exact hend (own_goRet X_5 hx Bd.returns rfl (Or.inr (Or.inr (Or.inr (Or.inr ⟨rfl, rfl, rfl⟩)))) (hb hby dco0_32) Bd.notSynchronized (by rw [e_5]; exact ⟨c, k_c, rfl, N_5, K0, le_hh_c, V_c⟩) (by decide) (by decide))
theorem dgbs0_0 : decode prog_37_method_3_code 0 = .ok (.aload_n 0, 1) := by decide +kernel
theorem dgbs0_1 : decode prog_37_method_3_code 1 = .ok (.getfield 9, 3) := by decide +kernel
theorem dgbs0_4 : decode prog_37_method_3_code 4 = .ok (.aload_n 0, 1) := by decide +kernel
theorem dgbs0_5 : decode prog_37_method_3_code 5 = .ok (.getfield 48, 3) := by decide +kernel
theorem dgbs0_8 : decode prog_37_method_3_code 8 = .ok (.invokestatic 52, 3) := by decide +kernel
theorem dgbs0_11 : decode prog_37_method_3_code 11 = .ok (.areturn, 1) := by decide +kernel
theorem ef_gbs0 (mI : MethodId) (t : Addr) : entryFrame mI #[(.ref t)] 1 = mkF mI 0 #[.val (.ref t)] [] := by first | (simp [entryFrame, mkF, argsToLocals, Value.category]; done) | rfl
theorem pn_gbs0 : plainName own_TT = true := by first | decide +kernel | (simp [plainName, overriddenIn]; done)
set_option maxRecDepth 65536 in
set_option maxHeartbeats 40000000 in
theorem rmgbs0 (lL : Launch) (Z : State) (a0 : Array Value) (hw : ∀ d ∈ tables_1, d.before a0 Z = true) (ws : List Jvm.Cond) (t : Addr) (b : Addr) (kb : ClassId) (h0 : Heap) (n0 : Nat) (Z0 : n0 ≤ h0.size) (F_subjects_t : Fld Z h0 t own_TT "subjects" "[I" (.ref b)) (F_size_t : Fld Z h0 t own_TT "size" "I" (.int (0 : Int32))) (V_b : Arv Z h0 b kb .int (1024 : Int32) [] (.int (0 : Int32))) :
    MetFree lL (⟨own_TT, "subjects", "()[I"⟩ : MethodName) (head1 (Jvm.Cond.code (⟨own_TT, "subjects", "()[I"⟩ : MethodName) prog_37_method_3_code 1 (some (.array .int)) :: ws) ({ frames := 2, cells := 1, slots := 0, locals := 62 } : Room)) (fun a_ U_ => a_ = #[(.ref t)] ∧ Z.Warmed39 U_.vm ∧ U_.heap = h0) (fun _ _ _ _ _ => True) (fun _ U_ o_ W_ => ∃ v_ L_, o_ = .returned v_ ∧ own_Qco Z (0 : Int32) [] h0 n0 v_ W_.heap L_ ∧ FrameEnd U_ o_ W_ L_ ({ frames := 2, cells := 1, slots := 0, locals := 62 } : Room).cells ({ frames := 2, cells := 1, slots := 0, locals := 62 } : Room).slots) := by
  refine MetFree.of_bodySF (plainFor_of_name pn_gbs0) hisR ?_
  intro pP eE sS mI args below meth cC s₁ Bd hml0 hP hK
  obtain ⟨rfl, hZ, hh⟩ := hP
  have hx := Bd.exec
  have hby := Bd.bytes
  have hml : cC.maxLocals = 1 := hml0
  have hown : sS.vm.findClass own_TT = some mI.cls := by have z := findClass_of_methodNamed Bd.named; exact z
  have hnm := (name_of_methodNamed Bd.named Bd.method).1
  have X0 : Stand pP lL eE ({ frames := 2, cells := 1, slots := 0, locals := 62 } : Room) sS mI #[(.ref t)] below meth cC s₁ [] 0 0 := Stand.of_body Bd
  have e0 : s₁.heap = h0 := by rw [← hh, Bd.state]; rfl
  have N0 := Fr.nil n0
  obtain ⟨G, hG, hst, hend⟩ := own_abs pP eE below sS (own_Qco Z (0 : Int32) [] h0 n0) ({ frames := 2, cells := 1, slots := 0, locals := 62 } : Room).cells ({ frames := 2, cells := 1, slots := 0, locals := 62 } : Room).slots
  refine hG (S := s₁.setTop (entryFrame mI #[(.ref t)] 1)) (hst (fun t_ kt_ => castTop (ef_gbs0 mI t) kt_) ?_)
  show G (s₁.setTop (mkF mI 0 #[.val (.ref t)] []))
  refine o_aloadN hst X0.here hx (hb hby dgbs0_0) (pc' := 1) rfl rfl rfl ?_
  obtain ⟨T_1, X_1, e_1, st_1⟩ := getF X0 hx hZ hown (host := "") (Or.inl (own_w40 hw)) Via.refl e0 F_subjects_t (g := (mkF mI 1 #[.val (.ref t)] [(.ref t)])) rfl rfl (hb hby dgbs0_1)
  refine hst st_1 ?_
  show G (T_1.setTop (mkF mI 4 #[.val (.ref t)] [(.ref b)]))
  refine o_aloadN hst X_1.here hx (hb hby dgbs0_4) (pc' := 5) rfl rfl rfl ?_
  obtain ⟨T_2, X_2, e_2, st_2⟩ := getF X_1 hx hZ hown (host := "") (Or.inl (own_w157 hw)) Via.refl e_1 F_size_t (g := (mkF mI 5 #[.val (.ref t)] [(.ref t), (.ref b)])) rfl rfl (hb hby dgbs0_5)
  refine hst st_2 ?_
  show G (T_2.setTop (mkF mI 8 #[.val (.ref t)] [(.int (0 : Int32)), (.ref b)]))
  obtain ⟨_, _, ⟨T_3, L_3, k_3, n_3⟩, -, X_3, ⟨Lc_3, hQ_3, l_3, y_3, z_3⟩, st_3⟩ := Jvm.LawKit.callS X_2 hx (y := (⟨"java/util/Arrays", "copyOf", "([II)[I"⟩ : MethodName)) hown (mvT hZ (own_w159 hw)) (mvT hZ (own_w160 hw)) (mvT hZ (own_w161 hw)) (mvT hZ (own_w162 hw)) (by decide) (backOf (W := 0) (rmco0 lL Z a0 hw [] b kb  h0 n0 Z0 V_b) hZ (own_w162 hw) (own_w161 hw) (by decide) (by decide)) (g := (mkF mI 8 #[.val (.ref t)] [(.int (0 : Int32)), (.ref b)])) rfl (by rw [hml]; rfl) (argsL := [(.ref b), (.int (0 : Int32))]) (rest := []) (lenOf pd_6 rfl) rfl (by show 2 * 0 + _ ≤ _; exact Nat.le_of_eq rfl) (hb hby dgbs0_8) (fun _ _ => ⟨rfl, e_2, (by decide : 0 + 1 ≤ _), (by decide : 0 + 0 ≤ _)⟩)
  dsimp only [Pt.U, Pt.locs, Pt.cells, Pt.slots] at X_3 l_3 y_3 z_3 st_3 hQ_3
  subst l_3 y_3 z_3
  obtain ⟨c, kc, rfl, N_3q, K_3, le_c, V_c⟩ := hQ_3
  have N_3 := Fr.app N0 N_3q
  refine hst (fun _ kt => st_3 _ kt) ?_
  show G (T_3.setTop (mkF mI 11 #[.val (.ref t)] [(.ref c)]))
  exact hend (own_goRet X_3 hx Bd.returns rfl (Or.inr (Or.inr (Or.inr (Or.inr ⟨rfl, rfl, rfl⟩)))) (hb hby dgbs0_11) Bd.notSynchronized (by exact ⟨c, kc, rfl, N_3, K_3, le_c, V_c⟩) (by decide) (by decide))
theorem dgbp0_0 : decode prog_37_method_4_code 0 = .ok (.aload_n 0, 1) := by decide +kernel
theorem dgbp0_1 : decode prog_37_method_4_code 1 = .ok (.getfield 13, 3) := by decide +kernel
theorem dgbp0_4 : decode prog_37_method_4_code 4 = .ok (.aload_n 0, 1) := by decide +kernel
theorem dgbp0_5 : decode prog_37_method_4_code 5 = .ok (.getfield 48, 3) := by decide +kernel
theorem dgbp0_8 : decode prog_37_method_4_code 8 = .ok (.invokestatic 52, 3) := by decide +kernel
theorem dgbp0_11 : decode prog_37_method_4_code 11 = .ok (.areturn, 1) := by decide +kernel
theorem ef_gbp0 (mI : MethodId) (t : Addr) : entryFrame mI #[(.ref t)] 1 = mkF mI 0 #[.val (.ref t)] [] := by first | (simp [entryFrame, mkF, argsToLocals, Value.category]; done) | rfl
theorem pn_gbp0 : plainName own_TT = true := by first | decide +kernel | (simp [plainName, overriddenIn]; done)
set_option maxRecDepth 65536 in
set_option maxHeartbeats 40000000 in
theorem rmgbp0 (lL : Launch) (Z : State) (a0 : Array Value) (hw : ∀ d ∈ tables_1, d.before a0 Z = true) (ws : List Jvm.Cond) (t : Addr) (b : Addr) (kb : ClassId) (h0 : Heap) (n0 : Nat) (Z0 : n0 ≤ h0.size) (F_predicates_t : Fld Z h0 t own_TT "predicates" "[I" (.ref b)) (F_size_t : Fld Z h0 t own_TT "size" "I" (.int (0 : Int32))) (V_b : Arv Z h0 b kb .int (1024 : Int32) [] (.int (0 : Int32))) :
    MetFree lL (⟨own_TT, "predicates", "()[I"⟩ : MethodName) (head1 (Jvm.Cond.code (⟨own_TT, "predicates", "()[I"⟩ : MethodName) prog_37_method_4_code 1 (some (.array .int)) :: ws) ({ frames := 2, cells := 1, slots := 0, locals := 62 } : Room)) (fun a_ U_ => a_ = #[(.ref t)] ∧ Z.Warmed39 U_.vm ∧ U_.heap = h0) (fun _ _ _ _ _ => True) (fun _ U_ o_ W_ => ∃ v_ L_, o_ = .returned v_ ∧ own_Qco Z (0 : Int32) [] h0 n0 v_ W_.heap L_ ∧ FrameEnd U_ o_ W_ L_ ({ frames := 2, cells := 1, slots := 0, locals := 62 } : Room).cells ({ frames := 2, cells := 1, slots := 0, locals := 62 } : Room).slots) := by
  refine MetFree.of_bodySF (plainFor_of_name pn_gbp0) hisR ?_
  intro pP eE sS mI args below meth cC s₁ Bd hml0 hP hK
  obtain ⟨rfl, hZ, hh⟩ := hP
  have hx := Bd.exec
  have hby := Bd.bytes
  have hml : cC.maxLocals = 1 := hml0
  have hown : sS.vm.findClass own_TT = some mI.cls := by have z := findClass_of_methodNamed Bd.named; exact z
  have hnm := (name_of_methodNamed Bd.named Bd.method).1
  have X0 : Stand pP lL eE ({ frames := 2, cells := 1, slots := 0, locals := 62 } : Room) sS mI #[(.ref t)] below meth cC s₁ [] 0 0 := Stand.of_body Bd
  have e0 : s₁.heap = h0 := by rw [← hh, Bd.state]; rfl
  have N0 := Fr.nil n0
  obtain ⟨G, hG, hst, hend⟩ := own_abs pP eE below sS (own_Qco Z (0 : Int32) [] h0 n0) ({ frames := 2, cells := 1, slots := 0, locals := 62 } : Room).cells ({ frames := 2, cells := 1, slots := 0, locals := 62 } : Room).slots
  refine hG (S := s₁.setTop (entryFrame mI #[(.ref t)] 1)) (hst (fun t_ kt_ => castTop (ef_gbp0 mI t) kt_) ?_)
  show G (s₁.setTop (mkF mI 0 #[.val (.ref t)] []))
  refine o_aloadN hst X0.here hx (hb hby dgbp0_0) (pc' := 1) rfl rfl rfl ?_
  obtain ⟨T_1, X_1, e_1, st_1⟩ := getF X0 hx hZ hown (host := "") (Or.inl (own_w42 hw)) Via.refl e0 F_predicates_t (g := (mkF mI 1 #[.val (.ref t)] [(.ref t)])) rfl rfl (hb hby dgbp0_1)
  refine hst st_1 ?_
  show G (T_1.setTop (mkF mI 4 #[.val (.ref t)] [(.ref b)]))
  refine o_aloadN hst X_1.here hx (hb hby dgbp0_4) (pc' := 5) rfl rfl rfl ?_
  obtain ⟨T_2, X_2, e_2, st_2⟩ := getF X_1 hx hZ hown (host := "") (Or.inl (own_w157 hw)) Via.refl e_1 F_size_t (g := (mkF mI 5 #[.val (.ref t)] [(.ref t), (.ref b)])) rfl rfl (hb hby dgbp0_5)
  refine hst st_2 ?_
  show G (T_2.setTop (mkF mI 8 #[.val (.ref t)] [(.int (0 : Int32)), (.ref b)]))
  obtain ⟨_, _, ⟨T_3, L_3, k_3, n_3⟩, -, X_3, ⟨Lc_3, hQ_3, l_3, y_3, z_3⟩, st_3⟩ := Jvm.LawKit.callS X_2 hx (y := (⟨"java/util/Arrays", "copyOf", "([II)[I"⟩ : MethodName)) hown (mvT hZ (own_w159 hw)) (mvT hZ (own_w160 hw)) (mvT hZ (own_w161 hw)) (mvT hZ (own_w162 hw)) (by decide) (backOf (W := 0) (rmco0 lL Z a0 hw [] b kb  h0 n0 Z0 V_b) hZ (own_w162 hw) (own_w161 hw) (by decide) (by decide)) (g := (mkF mI 8 #[.val (.ref t)] [(.int (0 : Int32)), (.ref b)])) rfl (by rw [hml]; rfl) (argsL := [(.ref b), (.int (0 : Int32))]) (rest := []) (lenOf pd_6 rfl) rfl (by show 2 * 0 + _ ≤ _; exact Nat.le_of_eq rfl) (hb hby dgbp0_8) (fun _ _ => ⟨rfl, e_2, (by decide : 0 + 1 ≤ _), (by decide : 0 + 0 ≤ _)⟩)
  dsimp only [Pt.U, Pt.locs, Pt.cells, Pt.slots] at X_3 l_3 y_3 z_3 st_3 hQ_3
  subst l_3 y_3 z_3
  obtain ⟨c, kc, rfl, N_3q, K_3, le_c, V_c⟩ := hQ_3
  have N_3 := Fr.app N0 N_3q
  refine hst (fun _ kt => st_3 _ kt) ?_
  show G (T_3.setTop (mkF mI 11 #[.val (.ref t)] [(.ref c)]))
  exact hend (own_goRet X_3 hx Bd.returns rfl (Or.inr (Or.inr (Or.inr (Or.inr ⟨rfl, rfl, rfl⟩)))) (hb hby dgbp0_11) Bd.notSynchronized (by exact ⟨c, kc, rfl, N_3, K_3, le_c, V_c⟩) (by decide) (by decide))
theorem dgbo0_0 : decode prog_37_method_5_code 0 = .ok (.aload_n 0, 1) := by decide +kernel
theorem dgbo0_1 : decode prog_37_method_5_code 1 = .ok (.getfield 16, 3) := by decide +kernel
theorem dgbo0_4 : decode prog_37_method_5_code 4 = .ok (.aload_n 0, 1) := by decide +kernel
theorem dgbo0_5 : decode prog_37_method_5_code 5 = .ok (.getfield 48, 3) := by decide +kernel
theorem dgbo0_8 : decode prog_37_method_5_code 8 = .ok (.invokestatic 52, 3) := by decide +kernel
theorem dgbo0_11 : decode prog_37_method_5_code 11 = .ok (.areturn, 1) := by decide +kernel
theorem ef_gbo0 (mI : MethodId) (t : Addr) : entryFrame mI #[(.ref t)] 1 = mkF mI 0 #[.val (.ref t)] [] := by first | (simp [entryFrame, mkF, argsToLocals, Value.category]; done) | rfl
theorem pn_gbo0 : plainName own_TT = true := by first | decide +kernel | (simp [plainName, overriddenIn]; done)
set_option maxRecDepth 65536 in
set_option maxHeartbeats 40000000 in
theorem rmgbo0 (lL : Launch) (Z : State) (a0 : Array Value) (hw : ∀ d ∈ tables_1, d.before a0 Z = true) (ws : List Jvm.Cond) (t : Addr) (b : Addr) (kb : ClassId) (h0 : Heap) (n0 : Nat) (Z0 : n0 ≤ h0.size) (F_objects_t : Fld Z h0 t own_TT "objects" "[I" (.ref b)) (F_size_t : Fld Z h0 t own_TT "size" "I" (.int (0 : Int32))) (V_b : Arv Z h0 b kb .int (1024 : Int32) [] (.int (0 : Int32))) :
    MetFree lL (⟨own_TT, "objects", "()[I"⟩ : MethodName) (head1 (Jvm.Cond.code (⟨own_TT, "objects", "()[I"⟩ : MethodName) prog_37_method_5_code 1 (some (.array .int)) :: ws) ({ frames := 2, cells := 1, slots := 0, locals := 62 } : Room)) (fun a_ U_ => a_ = #[(.ref t)] ∧ Z.Warmed39 U_.vm ∧ U_.heap = h0) (fun _ _ _ _ _ => True) (fun _ U_ o_ W_ => ∃ v_ L_, o_ = .returned v_ ∧ own_Qco Z (0 : Int32) [] h0 n0 v_ W_.heap L_ ∧ FrameEnd U_ o_ W_ L_ ({ frames := 2, cells := 1, slots := 0, locals := 62 } : Room).cells ({ frames := 2, cells := 1, slots := 0, locals := 62 } : Room).slots) := by
  refine MetFree.of_bodySF (plainFor_of_name pn_gbo0) hisR ?_
  intro pP eE sS mI args below meth cC s₁ Bd hml0 hP hK
  obtain ⟨rfl, hZ, hh⟩ := hP
  have hx := Bd.exec
  have hby := Bd.bytes
  have hml : cC.maxLocals = 1 := hml0
  have hown : sS.vm.findClass own_TT = some mI.cls := by have z := findClass_of_methodNamed Bd.named; exact z
  have hnm := (name_of_methodNamed Bd.named Bd.method).1
  have X0 : Stand pP lL eE ({ frames := 2, cells := 1, slots := 0, locals := 62 } : Room) sS mI #[(.ref t)] below meth cC s₁ [] 0 0 := Stand.of_body Bd
  have e0 : s₁.heap = h0 := by rw [← hh, Bd.state]; rfl
  have N0 := Fr.nil n0
  obtain ⟨G, hG, hst, hend⟩ := own_abs pP eE below sS (own_Qco Z (0 : Int32) [] h0 n0) ({ frames := 2, cells := 1, slots := 0, locals := 62 } : Room).cells ({ frames := 2, cells := 1, slots := 0, locals := 62 } : Room).slots
  refine hG (S := s₁.setTop (entryFrame mI #[(.ref t)] 1)) (hst (fun t_ kt_ => castTop (ef_gbo0 mI t) kt_) ?_)
  show G (s₁.setTop (mkF mI 0 #[.val (.ref t)] []))
  refine o_aloadN hst X0.here hx (hb hby dgbo0_0) (pc' := 1) rfl rfl rfl ?_
  obtain ⟨T_1, X_1, e_1, st_1⟩ := getF X0 hx hZ hown (host := "") (Or.inl (own_w44 hw)) Via.refl e0 F_objects_t (g := (mkF mI 1 #[.val (.ref t)] [(.ref t)])) rfl rfl (hb hby dgbo0_1)
  refine hst st_1 ?_
  show G (T_1.setTop (mkF mI 4 #[.val (.ref t)] [(.ref b)]))
  refine o_aloadN hst X_1.here hx (hb hby dgbo0_4) (pc' := 5) rfl rfl rfl ?_
  obtain ⟨T_2, X_2, e_2, st_2⟩ := getF X_1 hx hZ hown (host := "") (Or.inl (own_w157 hw)) Via.refl e_1 F_size_t (g := (mkF mI 5 #[.val (.ref t)] [(.ref t), (.ref b)])) rfl rfl (hb hby dgbo0_5)
  refine hst st_2 ?_
  show G (T_2.setTop (mkF mI 8 #[.val (.ref t)] [(.int (0 : Int32)), (.ref b)]))
  obtain ⟨_, _, ⟨T_3, L_3, k_3, n_3⟩, -, X_3, ⟨Lc_3, hQ_3, l_3, y_3, z_3⟩, st_3⟩ := Jvm.LawKit.callS X_2 hx (y := (⟨"java/util/Arrays", "copyOf", "([II)[I"⟩ : MethodName)) hown (mvT hZ (own_w159 hw)) (mvT hZ (own_w160 hw)) (mvT hZ (own_w161 hw)) (mvT hZ (own_w162 hw)) (by decide) (backOf (W := 0) (rmco0 lL Z a0 hw [] b kb  h0 n0 Z0 V_b) hZ (own_w162 hw) (own_w161 hw) (by decide) (by decide)) (g := (mkF mI 8 #[.val (.ref t)] [(.int (0 : Int32)), (.ref b)])) rfl (by rw [hml]; rfl) (argsL := [(.ref b), (.int (0 : Int32))]) (rest := []) (lenOf pd_6 rfl) rfl (by show 2 * 0 + _ ≤ _; exact Nat.le_of_eq rfl) (hb hby dgbo0_8) (fun _ _ => ⟨rfl, e_2, (by decide : 0 + 1 ≤ _), (by decide : 0 + 0 ≤ _)⟩)
  dsimp only [Pt.U, Pt.locs, Pt.cells, Pt.slots] at X_3 l_3 y_3 z_3 st_3 hQ_3
  subst l_3 y_3 z_3
  obtain ⟨c, kc, rfl, N_3q, K_3, le_c, V_c⟩ := hQ_3
  have N_3 := Fr.app N0 N_3q
  refine hst (fun _ kt => st_3 _ kt) ?_
  show G (T_3.setTop (mkF mI 11 #[.val (.ref t)] [(.ref c)]))
  exact hend (own_goRet X_3 hx Bd.returns rfl (Or.inr (Or.inr (Or.inr (Or.inr ⟨rfl, rfl, rfl⟩)))) (hb hby dgbo0_11) Bd.notSynchronized (by exact ⟨c, kc, rfl, N_3, K_3, le_c, V_c⟩) (by decide) (by decide))
theorem dms_0 : decode jdk_69_method_10_code 0 = .ok (.aload_n 0, 1) := by decide +kernel
theorem dms_1 : decode jdk_69_method_10_code 1 = .ok (.getfield 156, 3) := by decide +kernel
theorem dms_4 : decode jdk_69_method_10_code 4 = .ok (.ireturn, 1) := by decide +kernel
theorem ef_ms (mI : MethodId) (m : Addr) : entryFrame mI #[(.ref m)] 1 = mkF mI 0 #[.val (.ref m)] [] := by first | (simp [entryFrame, mkF, argsToLocals, Value.category]; done) | rfl
theorem pn_ms : plainName "java/util/HashMap" = true := by first | decide +kernel | (simp [plainName, overriddenIn]; done)
set_option maxRecDepth 65536 in
set_option maxHeartbeats 40000000 in
theorem rmms (lL : Launch) (Z : State) (a0 : Array Value) (hw : ∀ d ∈ tables_1, d.before a0 Z = true) (ws : List Jvm.Cond) (m : Addr) (h0 : Heap) (n0 : Nat) (Z0 : n0 ≤ h0.size) (F_size_m : Fld Z h0 m "java/util/HashMap" "size" "I" (.int (0 : Int32))) :
    MetFree lL (⟨"java/util/HashMap", "size", "()I"⟩ : MethodName) (head1 (Jvm.Cond.code (⟨"java/util/HashMap", "size", "()I"⟩ : MethodName) jdk_69_method_10_code 1 (some .int) :: ws) ({ frames := 0, cells := 0, slots := 0, locals := 0 } : Room)) (fun a_ U_ => a_ = #[(.ref m)] ∧ Z.Warmed39 U_.vm ∧ U_.heap = h0) (fun _ _ _ _ _ => True) (fun _ U_ o_ W_ => ∃ v_ L_, o_ = .returned v_ ∧ own_QI (0 : Int32) h0 n0 v_ W_.heap L_ ∧ FrameEnd U_ o_ W_ L_ ({ frames := 0, cells := 0, slots := 0, locals := 0 } : Room).cells ({ frames := 0, cells := 0, slots := 0, locals := 0 } : Room).slots) := by
  refine MetFree.of_bodySF (plainFor_of_name pn_ms) hisR ?_
  intro pP eE sS mI args below meth cC s₁ Bd hml0 hP hK
  obtain ⟨rfl, hZ, hh⟩ := hP
  have hx := Bd.exec
  have hby := Bd.bytes
  have hml : cC.maxLocals = 1 := hml0
  have hown : sS.vm.findClass "java/util/HashMap" = some mI.cls := by have z := findClass_of_methodNamed Bd.named; exact z
  have hnm := (name_of_methodNamed Bd.named Bd.method).1
  have X0 : Stand pP lL eE ({ frames := 0, cells := 0, slots := 0, locals := 0 } : Room) sS mI #[(.ref m)] below meth cC s₁ [] 0 0 := Stand.of_body Bd
  have e0 : s₁.heap = h0 := by rw [← hh, Bd.state]; rfl
  have N0 := Fr.nil n0
  obtain ⟨G, hG, hst, hend⟩ := own_abs pP eE below sS (own_QI (0 : Int32) h0 n0) ({ frames := 0, cells := 0, slots := 0, locals := 0 } : Room).cells ({ frames := 0, cells := 0, slots := 0, locals := 0 } : Room).slots
  refine hG (S := s₁.setTop (entryFrame mI #[(.ref m)] 1)) (hst (fun t_ kt_ => castTop (ef_ms mI m) kt_) ?_)
  show G (s₁.setTop (mkF mI 0 #[.val (.ref m)] []))
  refine o_aloadN hst X0.here hx (hb hby dms_0) (pc' := 1) rfl rfl rfl ?_
  obtain ⟨T_1, X_1, e_1, st_1⟩ := getF X0 hx hZ hown (host := "") (Or.inl (own_w206 hw)) Via.refl e0 F_size_m (g := (mkF mI 1 #[.val (.ref m)] [(.ref m)])) rfl rfl (hb hby dms_1)
  refine hst st_1 ?_
  show G (T_1.setTop (mkF mI 4 #[.val (.ref m)] [(.int (0 : Int32))]))
  exact hend (own_goRet X_1 hx Bd.returns rfl (Or.inl ⟨rfl, by simp, _, rfl⟩) (hb hby dms_4) Bd.notSynchronized (by rw [e_1]; exact ⟨rfl, N0, rfl⟩) (by decide) (by decide))
theorem dss_0 : decode jdk_93_method_7_code 0 = .ok (.aload_n 0, 1) := by decide +kernel
theorem dss_1 : decode jdk_93_method_7_code 1 = .ok (.getfield 10, 3) := by decide +kernel
theorem dss_4 : decode jdk_93_method_7_code 4 = .ok (.invokevirtual 55, 3) := by decide +kernel
theorem dss_7 : decode jdk_93_method_7_code 7 = .ok (.ireturn, 1) := by decide +kernel
theorem ef_ss (mI : MethodId) (s : Addr) : entryFrame mI #[(.ref s)] 1 = mkF mI 0 #[.val (.ref s)] [] := by first | (simp [entryFrame, mkF, argsToLocals, Value.category]; done) | rfl
theorem pn_ss : plainName "java/util/HashSet" = true := by first | decide +kernel | (simp [plainName, overriddenIn]; done)
set_option maxRecDepth 65536 in
set_option maxHeartbeats 40000000 in
theorem rmss (lL : Launch) (Z : State) (a0 : Array Value) (hw : ∀ d ∈ tables_1, d.before a0 Z = true) (ws : List Jvm.Cond) (s : Addr) (m : Addr) (h0 : Heap) (n0 : Nat) (Z0 : n0 ≤ h0.size) (F_map_s : Fld Z h0 s "java/util/HashSet" "map" "Ljava/util/HashMap;" (.ref m)) (E_m : Exa Z h0 m "java/util/LinkedHashMap") (F_size_m : Fld Z h0 m "java/util/HashMap" "size" "I" (.int (0 : Int32))) :
    MetFree lL (⟨"java/util/HashSet", "size", "()I"⟩ : MethodName) (head1 (Jvm.Cond.code (⟨"java/util/HashSet", "size", "()I"⟩ : MethodName) jdk_93_method_7_code 1 (some .int) :: ws) ({ frames := 1, cells := 0, slots := 0, locals := 12 } : Room)) (fun a_ U_ => a_ = #[(.ref s)] ∧ Z.Warmed39 U_.vm ∧ U_.heap = h0) (fun _ _ _ _ _ => True) (fun _ U_ o_ W_ => ∃ v_ L_, o_ = .returned v_ ∧ own_QI (0 : Int32) h0 n0 v_ W_.heap L_ ∧ FrameEnd U_ o_ W_ L_ ({ frames := 1, cells := 0, slots := 0, locals := 12 } : Room).cells ({ frames := 1, cells := 0, slots := 0, locals := 12 } : Room).slots) := by
  refine MetFree.of_bodySF (plainFor_of_name pn_ss) hisR ?_
  intro pP eE sS mI args below meth cC s₁ Bd hml0 hP hK
  obtain ⟨rfl, hZ, hh⟩ := hP
  have hx := Bd.exec
  have hby := Bd.bytes
  have hml : cC.maxLocals = 1 := hml0
  have hown : sS.vm.findClass "java/util/HashSet" = some mI.cls := by have z := findClass_of_methodNamed Bd.named; exact z
  have hnm := (name_of_methodNamed Bd.named Bd.method).1
  have X0 : Stand pP lL eE ({ frames := 1, cells := 0, slots := 0, locals := 12 } : Room) sS mI #[(.ref s)] below meth cC s₁ [] 0 0 := Stand.of_body Bd
  have e0 : s₁.heap = h0 := by rw [← hh, Bd.state]; rfl
  have N0 := Fr.nil n0
  obtain ⟨G, hG, hst, hend⟩ := own_abs pP eE below sS (own_QI (0 : Int32) h0 n0) ({ frames := 1, cells := 0, slots := 0, locals := 12 } : Room).cells ({ frames := 1, cells := 0, slots := 0, locals := 12 } : Room).slots
  refine hG (S := s₁.setTop (entryFrame mI #[(.ref s)] 1)) (hst (fun t_ kt_ => castTop (ef_ss mI s) kt_) ?_)
  show G (s₁.setTop (mkF mI 0 #[.val (.ref s)] []))
  refine o_aloadN hst X0.here hx (hb hby dss_0) (pc' := 1) rfl rfl rfl ?_
  obtain ⟨T_1, X_1, e_1, st_1⟩ := getF X0 hx hZ hown (host := "") (Or.inl (own_w115 hw)) Via.refl e0 F_map_s (g := (mkF mI 1 #[.val (.ref s)] [(.ref s)])) rfl rfl (hb hby dss_1)
  refine hst st_1 ?_
  show G (T_1.setTop (mkF mI 4 #[.val (.ref s)] [(.ref m)]))
  obtain ⟨cq_2, kq_2, q_2a, q_2b, q_2c⟩ := isOf hZ e_1 E_m
  obtain ⟨_, _, ⟨T_2, L_2, k_2, n_2⟩, -, X_2, ⟨Lc_2, hQ_2, l_2, y_2, z_2⟩, st_2⟩ := X_1.virtualBack hx (y := (⟨"java/util/HashMap", "size", "()I"⟩ : MethodName)) (z := (⟨"java/util/HashMap", "size", "()I"⟩ : MethodName)) hown (mvT hZ (own_w201 hw)) (mvT hZ (own_w202 hw)) (notFace_of_selects (args := #[]) (mvT hZ (own_w204 hw))) (mvT hZ (own_w204 hw)) (mvT hZ (own_w203 hw)) (by decide) (backOf (W := 0) (rmms lL Z a0 hw [] m  h0 n0 Z0 F_size_m) hZ (own_w205 hw) (own_w85 hw) (by decide) (by decide)) q_2a q_2c (g := (mkF mI 4 #[.val (.ref s)] [(.ref m)])) rfl (by rw [hml]; rfl) (Steps.refl _) (argsL := []) (rest := []) (lenOf pd_7 rfl) rfl (by show 2 * 0 + _ ≤ _; exact Nat.le_of_eq rfl) (hb hby dss_4) (fun _ _ => ⟨rfl, e_1, (by decide : 0 + 0 ≤ _), (by decide : 0 + 0 ≤ _)⟩)
  dsimp only [Pt.U, Pt.locs, Pt.cells, Pt.slots] at X_2 l_2 y_2 z_2 st_2 hQ_2
  subst l_2 y_2 z_2
  obtain ⟨rfl, N_2q, eh_2⟩ := hQ_2
  have N_2 := Fr.app N0 N_2q
  refine hst (fun _ kt => st_2.trans kt) ?_
  show G (T_2.setTop (mkF mI 7 #[.val (.ref s)] [(.int (0 : Int32))]))
  exact hend (own_goRet X_2 hx Bd.returns rfl (Or.inl ⟨rfl, by simp, _, rfl⟩) (hb hby dss_7) Bd.notSynchronized (by rw [eh_2]; exact ⟨rfl, N_2, rfl⟩) (by decide) (by decide))
def own_Qki (Z : State) (ks m : Addr) (h0 : Heap) (n0 : Nat) (v : Option Value) (h : Heap) (L : List Loc) : Prop := v = none ∧ Fr n0 L ∧ Keep h0 h [ks] ∧ Exa Z h ks "java/util/LinkedHashMap$LinkedKeySet" ∧ Fld Z h ks "java/util/LinkedHashMap$LinkedKeySet" "this$0" "Ljava/util/LinkedHashMap;" (.ref m) ∧ Fld Z h ks "java/util/LinkedHashMap$LinkedKeySet" "reversed" "Z" (.int (0 : Int32))
theorem dki_0 : decode jdk_112_method_1_code 0 = .ok (.aload_n 0, 1) := by decide +kernel
theorem dki_1 : decode jdk_112_method_1_code 1 = .ok (.aload_n 1, 1) := by decide +kernel
theorem dki_2 : decode jdk_112_method_1_code 2 = .ok (.putfield 1, 3) := by decide +kernel
theorem dki_5 : decode jdk_112_method_1_code 5 = .ok (.aload_n 0, 1) := by decide +kernel
theorem dki_6 : decode jdk_112_method_1_code 6 = .ok (.invokespecial 7, 3) := by decide +kernel
theorem dki_9 : decode jdk_112_method_1_code 9 = .ok (.aload_n 0, 1) := by decide +kernel
theorem dki_10 : decode jdk_112_method_1_code 10 = .ok (.iload_n 2, 1) := by decide +kernel
theorem dki_11 : decode jdk_112_method_1_code 11 = .ok (.putfield 13, 3) := by decide +kernel
theorem dki_14 : decode jdk_112_method_1_code 14 = .ok (.return_, 1) := by decide +kernel
theorem ef_ki (mI : MethodId) (ks : Addr) (m : Addr) : entryFrame mI #[(.ref ks), (.ref m), (.int (0 : Int32))] 3 = mkF mI 0 #[.val (.ref ks), .val (.ref m), .val (.int (0 : Int32))] [] := by first | (simp [entryFrame, mkF, argsToLocals, Value.category]; done) | rfl
theorem pn_ki : plainName "java/util/LinkedHashMap$LinkedKeySet" = true := by first | decide +kernel | (simp [plainName, overriddenIn]; done)
set_option maxRecDepth 65536 in
set_option maxHeartbeats 40000000 in
theorem rmki (lL : Launch) (Z : State) (a0 : Array Value) (hw : ∀ d ∈ tables_1, d.before a0 Z = true) (ws : List Jvm.Cond) (ks : Addr) (m : Addr) (h0 : Heap) (n0 : Nat) (Z0 : n0 ≤ h0.size) (F_this_0_ks : Fld Z h0 ks "java/util/LinkedHashMap$LinkedKeySet" "this$0" "Ljava/util/LinkedHashMap;" .null) (F_reversed_ks : Fld Z h0 ks "java/util/LinkedHashMap$LinkedKeySet" "reversed" "Z" (.int (0 : Int32))) (E_ks : Exa Z h0 ks "java/util/LinkedHashMap$LinkedKeySet") (le_n0_ks : n0 ≤ ks) :
    MetFree lL (⟨"java/util/LinkedHashMap$LinkedKeySet", "<init>", "(Ljava/util/LinkedHashMap;Z)V"⟩ : MethodName) (head1 (Jvm.Cond.code (⟨"java/util/LinkedHashMap$LinkedKeySet", "<init>", "(Ljava/util/LinkedHashMap;Z)V"⟩ : MethodName) jdk_112_method_1_code 3 none :: ws) ({ frames := 3, cells := 0, slots := 0, locals := 36 } : Room)) (fun a_ U_ => a_ = #[(.ref ks), (.ref m), (.int (0 : Int32))] ∧ Z.Warmed39 U_.vm ∧ U_.heap = h0) (fun _ _ _ _ _ => True) (fun _ U_ o_ W_ => ∃ v_ L_, o_ = .returned v_ ∧ own_Qki Z ks m h0 n0 v_ W_.heap L_ ∧ FrameEnd U_ o_ W_ L_ ({ frames := 3, cells := 0, slots := 0, locals := 36 } : Room).cells ({ frames := 3, cells := 0, slots := 0, locals := 36 } : Room).slots) := by
  refine MetFree.of_bodySF (plainFor_of_name pn_ki) hisR ?_
  intro pP eE sS mI args below meth cC s₁ Bd hml0 hP hK
  obtain ⟨rfl, hZ, hh⟩ := hP
  have hx := Bd.exec
  have hby := Bd.bytes
  have hml : cC.maxLocals = 3 := hml0
  have hown : sS.vm.findClass "java/util/LinkedHashMap$LinkedKeySet" = some mI.cls := by have z := findClass_of_methodNamed Bd.named; exact z
  have hnm := (name_of_methodNamed Bd.named Bd.method).1
  have X0 : Stand pP lL eE ({ frames := 3, cells := 0, slots := 0, locals := 36 } : Room) sS mI #[(.ref ks), (.ref m), (.int (0 : Int32))] below meth cC s₁ [] 0 0 := Stand.of_body Bd
  have e0 : s₁.heap = h0 := by rw [← hh, Bd.state]; rfl
  have N0 := Fr.nil n0
  obtain ⟨G, hG, hst, hend⟩ := own_abs pP eE below sS (own_Qki Z ks m h0 n0) ({ frames := 3, cells := 0, slots := 0, locals := 36 } : Room).cells ({ frames := 3, cells := 0, slots := 0, locals := 36 } : Room).slots
  refine hG (S := s₁.setTop (entryFrame mI #[(.ref ks), (.ref m), (.int (0 : Int32))] 3)) (hst (fun t_ kt_ => castTop (ef_ki mI ks m) kt_) ?_)
  have Z1 := Nat.le_refl h0.size
  have K0 := Keep.refl h0 [ks]
  show G (s₁.setTop (mkF mI 0 #[.val (.ref ks), .val (.ref m), .val (.int (0 : Int32))] []))
  refine o_aloadN hst X0.here hx (hb hby dki_0) (pc' := 1) rfl rfl rfl ?_
  refine o_aloadN hst X0.here hx (hb hby dki_1) (pc' := 2) rfl rfl rfl ?_
  obtain ⟨T_1, h_1, X_1, e_1, W_1, st_1⟩ := putF X0 hx hZ hown (host := "") (Or.inl (own_w237 hw)) Via.refl e0 F_this_0_ks E_ks (Or.inr ⟨(own_w238 hw), rfl, hnm⟩) (own_w231 hw) (ty := (.object "java/util/LinkedHashMap")) (by decide) rfl rfl (g := (mkF mI 2 #[.val (.ref ks), .val (.ref m), .val (.int (0 : Int32))] [(.ref m), (.ref ks)])) rfl rfl (hb hby dki_2)
  have Z0 := Nat.le_trans Z0 (Keep.of_wr W_1).1
  have Z1 := Nat.le_trans Z1 (Keep.of_wr W_1).1
  have K0 := K0.wr W_1 (Or.inl (List.mem_of_getElem? (i := 0) rfl))
  have F_this_0_ks := F_this_0_ks.same W_1
  have F_reversed_ks := F_reversed_ks.other W_1 (Or.inr (slot_ne (Or.inr (own_w243 hw)) (Or.inr (own_w238 hw)) (by decide) (t := .boolean) (t' := (.object "java/util/LinkedHashMap")) (by decide) (by decide)))
  have E_ks := E_ks.wr W_1
  have N_1 := Fr.snoc X_1 N0 le_n0_ks
  refine hst st_1 ?_
  show G (T_1.setTop (mkF mI 5 #[.val (.ref ks), .val (.ref m), .val (.int (0 : Int32))] []))
  refine o_aloadN hst X_1.here hx (hb hby dki_5) (pc' := 6) rfl rfl rfl ?_
  obtain ⟨_, _, ⟨T_2, L_2, k_2, n_2⟩, -, X_2, ⟨Lc_2, hQ_2, l_2, y_2, z_2⟩, st_2⟩ := X_1.specialBack hx (y := (⟨"java/util/AbstractSet", "<init>", "()V"⟩ : MethodName)) rfl hown (mvT hZ (own_w239 hw)) (mvT hZ (own_w62 hw)) (mvT hZ (own_w66 hw)) (by decide) (backOf (W := 0) (rmAS lL Z a0 hw [] ks  h_1 n0 Z0) hZ (own_w66 hw) (own_w65 hw) (by decide) (by decide)) (g := (mkF mI 6 #[.val (.ref ks), .val (.ref m), .val (.int (0 : Int32))] [(.ref ks)])) rfl (by rw [hml]; rfl) (Steps.refl _) (a := ks) (argsL := []) (rest := []) (lenOf pd_0 rfl) rfl (by show 2 * 0 + _ ≤ _; exact Nat.le_of_eq rfl) (hb hby dki_6) (fun _ _ => ⟨rfl, e_1, (by decide : 0 + 0 ≤ _), (by decide : 0 + 0 ≤ _)⟩)
  dsimp only [Pt.U, Pt.locs, Pt.cells, Pt.slots] at X_2 l_2 y_2 z_2 st_2 hQ_2
  subst l_2 y_2 z_2
  obtain ⟨rfl, N_2q, eh_2⟩ := hQ_2
  have N_2 := Fr.app N_1 N_2q
  refine hst (fun _ kt => st_2.trans kt) ?_
  show G (T_2.setTop (mkF mI 9 #[.val (.ref ks), .val (.ref m), .val (.int (0 : Int32))] []))
  refine o_aloadN hst X_2.here hx (hb hby dki_9) (pc' := 10) rfl rfl rfl ?_
  refine o_iloadN hst X_2.here hx (hb hby dki_10) (pc' := 11) rfl rfl ?_
  obtain ⟨T_3, h_3, X_3, e_3, W_3, st_3⟩ := putFN X_2 hx hZ hown (own_w242 hw) Via.refl eh_2 F_reversed_ks E_ks (Or.inr ⟨(own_w243 hw), rfl, hnm⟩) (own_w231 hw) (ty := .boolean) (v' := (.int (0 : Int32))) (by decide) rfl rfl (g := (mkF mI 11 #[.val (.ref ks), .val (.ref m), .val (.int (0 : Int32))] [(.int (0 : Int32)), (.ref ks)])) rfl rfl (hb hby dki_11)
  have Z0 := Nat.le_trans Z0 (Keep.of_wr W_3).1
  have Z1 := Nat.le_trans Z1 (Keep.of_wr W_3).1
  have K0 := K0.wr W_3 (Or.inl (List.mem_of_getElem? (i := 0) rfl))
  have F_this_0_ks := F_this_0_ks.other W_3 (Or.inr (slot_ne (Or.inr (own_w238 hw)) (Or.inr (own_w243 hw)) (by decide) (t := (.object "java/util/LinkedHashMap")) (t' := .boolean) (by decide) (by decide)))
  have F_reversed_ks := F_reversed_ks.same W_3
  have E_ks := E_ks.wr W_3
  have N_3 := Fr.snoc X_3 N_2 le_n0_ks
  refine hst st_3 ?_
  show G (T_3.setTop (mkF mI 14 #[.val (.ref ks), .val (.ref m), .val (.int (0 : Int32))] []))
  exact hend (own_goVoid X_3 hx Bd.returns (hb hby dki_14) Bd.notSynchronized (by rw [e_3]; exact ⟨rfl, N_3, K0, E_ks, F_this_0_ks, F_reversed_ks⟩) (by decide) (by decide))
def own_Qsk (Z : State) (m : Addr) (h0 : Heap) (n0 : Nat) (v : Option Value) (h : Heap) (L : List Loc) : Prop := ∃ ks : Addr, v = some (.ref ks) ∧ Fr n0 L ∧ Keep h0 h [m] ∧ h0.size ≤ ks ∧ Fld Z h m "java/util/HashMap" "size" "I" (.int (0 : Int32)) ∧ Fld Z h m "java/util/AbstractMap" "keySet" "Ljava/util/Set;" (.ref ks) ∧ Fld Z h m "java/util/LinkedHashMap" "head" "Ljava/util/LinkedHashMap$Entry;" .null ∧ Fld Z h m "java/util/HashMap" "modCount" "I" (.int (0 : Int32)) ∧ Exa Z h ks "java/util/LinkedHashMap$LinkedKeySet" ∧ Fld Z h ks "java/util/LinkedHashMap$LinkedKeySet" "this$0" "Ljava/util/LinkedHashMap;" (.ref m) ∧ Fld Z h ks "java/util/LinkedHashMap$LinkedKeySet" "reversed" "Z" (.int (0 : Int32))
theorem dsk_0 : decode jdk_94_method_25_code 0 = .ok (.aload_n 0, 1) := by decide +kernel
theorem dsk_1 : decode jdk_94_method_25_code 1 = .ok (.getfield 117, 3) := by decide +kernel
theorem dsk_4 : decode jdk_94_method_25_code 4 = .ok (.astore_n 1, 1) := by decide +kernel
theorem dsk_5 : decode jdk_94_method_25_code 5 = .ok (.aload_n 1, 1) := by decide +kernel
theorem dsk_6 : decode jdk_94_method_25_code 6 = .ok (.ifnonnull 20, 3) := by decide +kernel
theorem dsk_9 : decode jdk_94_method_25_code 9 = .ok (.new 121, 3) := by decide +kernel
theorem dsk_12 : decode jdk_94_method_25_code 12 = .ok (.dup, 1) := by decide +kernel
theorem dsk_13 : decode jdk_94_method_25_code 13 = .ok (.aload_n 0, 1) := by decide +kernel
theorem dsk_14 : decode jdk_94_method_25_code 14 = .ok (.iconst 0, 1) := by decide +kernel
theorem dsk_15 : decode jdk_94_method_25_code 15 = .ok (.invokespecial 123, 3) := by decide +kernel
theorem dsk_18 : decode jdk_94_method_25_code 18 = .ok (.astore_n 2, 1) := by decide +kernel
theorem dsk_19 : decode jdk_94_method_25_code 19 = .ok (.aload_n 0, 1) := by decide +kernel
theorem dsk_20 : decode jdk_94_method_25_code 20 = .ok (.aload_n 2, 1) := by decide +kernel
theorem dsk_21 : decode jdk_94_method_25_code 21 = .ok (.putfield 117, 3) := by decide +kernel
theorem dsk_24 : decode jdk_94_method_25_code 24 = .ok (.aload_n 2, 1) := by decide +kernel
theorem dsk_25 : decode jdk_94_method_25_code 25 = .ok (.areturn, 1) := by decide +kernel
theorem ef_sk (mI : MethodId) (m : Addr) : entryFrame mI #[(.ref m)] 3 = mkF mI 0 #[.val (.ref m), .unset, .unset] [] := by first | (simp [entryFrame, mkF, argsToLocals, Value.category]; done) | rfl
theorem pn_sk : plainName "java/util/LinkedHashMap" = true := by first | decide +kernel | (simp [plainName, overriddenIn]; done)
set_option maxRecDepth 65536 in
set_option maxHeartbeats 40000000 in
theorem rmsk (lL : Launch) (Z : State) (a0 : Array Value) (hw : ∀ d ∈ tables_1, d.before a0 Z = true) (ws : List Jvm.Cond) (m : Addr) (h0 : Heap) (n0 : Nat) (Z0 : n0 ≤ h0.size) (F_size_m : Fld Z h0 m "java/util/HashMap" "size" "I" (.int (0 : Int32))) (F_keySet_m : Fld Z h0 m "java/util/AbstractMap" "keySet" "Ljava/util/Set;" .null) (F_head_m : Fld Z h0 m "java/util/LinkedHashMap" "head" "Ljava/util/LinkedHashMap$Entry;" .null) (F_modCount_m : Fld Z h0 m "java/util/HashMap" "modCount" "I" (.int (0 : Int32))) (E_m : Exa Z h0 m "java/util/LinkedHashMap") (le_n0_m : n0 ≤ m) :
    MetFree lL (⟨"java/util/LinkedHashMap", "sequencedKeySet", "()Ljava/util/SequencedSet;"⟩ : MethodName) (head1 (Jvm.Cond.code (⟨"java/util/LinkedHashMap", "sequencedKeySet", "()Ljava/util/SequencedSet;"⟩ : MethodName) jdk_94_method_25_code 3 (some (.object "java/util/SequencedSet")) :: ws) ({ frames := 4, cells := 1, slots := 2, locals := 51 } : Room)) (fun a_ U_ => a_ = #[(.ref m)] ∧ Z.Warmed39 U_.vm ∧ U_.heap = h0) (fun _ _ _ _ _ => True) (fun _ U_ o_ W_ => ∃ v_ L_, o_ = .returned v_ ∧ own_Qsk Z m h0 n0 v_ W_.heap L_ ∧ FrameEnd U_ o_ W_ L_ ({ frames := 4, cells := 1, slots := 2, locals := 51 } : Room).cells ({ frames := 4, cells := 1, slots := 2, locals := 51 } : Room).slots) := by
  refine MetFree.of_bodySF (plainFor_of_name pn_sk) hisR ?_
  intro pP eE sS mI args below meth cC s₁ Bd hml0 hP hK
  obtain ⟨rfl, hZ, hh⟩ := hP
  have hx := Bd.exec
  have hby := Bd.bytes
  have hml : cC.maxLocals = 3 := hml0
  have hown : sS.vm.findClass "java/util/LinkedHashMap" = some mI.cls := by have z := findClass_of_methodNamed Bd.named; exact z
  have hnm := (name_of_methodNamed Bd.named Bd.method).1
  have X0 : Stand pP lL eE ({ frames := 4, cells := 1, slots := 2, locals := 51 } : Room) sS mI #[(.ref m)] below meth cC s₁ [] 0 0 := Stand.of_body Bd
  have e0 : s₁.heap = h0 := by rw [← hh, Bd.state]; rfl
  have N0 := Fr.nil n0
  obtain ⟨G, hG, hst, hend⟩ := own_abs pP eE below sS (own_Qsk Z m h0 n0) ({ frames := 4, cells := 1, slots := 2, locals := 51 } : Room).cells ({ frames := 4, cells := 1, slots := 2, locals := 51 } : Room).slots
  refine hG (S := s₁.setTop (entryFrame mI #[(.ref m)] 3)) (hst (fun t_ kt_ => castTop (ef_sk mI m) kt_) ?_)
  have Z1 := Nat.le_refl h0.size
  have K0 := Keep.refl h0 [m]
  show G (s₁.setTop (mkF mI 0 #[.val (.ref m), .unset, .unset] []))
  refine o_aloadN hst X0.here hx (hb hby dsk_0) (pc' := 1) rfl rfl rfl ?_
  obtain ⟨T_1, X_1, e_1, st_1⟩ := getF X0 hx hZ hown (host := "") (Or.inl (own_w227 hw)) (Via.of (own_w228 hw)) e0 F_keySet_m (g := (mkF mI 1 #[.val (.ref m), .unset, .unset] [(.ref m)])) rfl rfl (hb hby dsk_1)
  refine hst st_1 ?_
  show G (T_1.setTop (mkF mI 4 #[.val (.ref m), .unset, .unset] [.null]))
  refine o_astoreN hst X_1.here hx (hb hby dsk_4) (pc' := 5) rfl (Lt := #[.val (.ref m), .val .null, .unset]) rfl rfl ?_
  refine o_aloadN hst X_1.here hx (hb hby dsk_5) (pc' := 6) rfl rfl rfl ?_
  refine hst (fun _ kt => XS.ifnonnullNo X_1.here hx rfl (hb hby dsk_6) rfl kt) ?_
  show G (T_1.setTop (mkF mI 9 #[.val (.ref m), .val .null, .unset] []))
  obtain ⟨T_2, h_2, X_2, e_2, E_2, A_2, D_2, -, st_2⟩ := newO X_1 hx hZ hown (own_w230 hw) (own_w231 hw) (own_w232 hw) e_1 (g := (mkF mI 9 #[.val (.ref m), .val .null, .unset] [])) rfl (hb hby dsk_9) (by decide) (by decide)
  obtain ⟨ks, g_ks⟩ : ∃ z, z = h0.size := ⟨_, rfl⟩
  rw [← g_ks] at A_2 D_2 st_2
  have ne_m_ks : m ≠ ks := Nat.ne_of_lt (Nat.lt_of_lt_of_le F_size_m.lt (Nat.le_of_eq g_ks.symm))
  have le_n0_ks : n0 ≤ ks := Nat.le_trans Z0 (Nat.le_of_eq g_ks.symm)
  have le_hh_ks : h0.size ≤ ks := Nat.le_trans Z1 (Nat.le_of_eq g_ks.symm)
  have Z0 := Nat.le_trans Z0 E_2.1
  have Z1 := Nat.le_trans Z1 E_2.1
  have K0 := K0.ext E_2
  have F_size_m := F_size_m.ext E_2
  have F_keySet_m := F_keySet_m.ext E_2
  have F_head_m := F_head_m.ext E_2
  have F_modCount_m := F_modCount_m.ext E_2
  have E_m := E_m.ext E_2
  have E_ks : Exa Z h_2 ks "java/util/LinkedHashMap$LinkedKeySet" := A_2
  have F_this_0_ks : Fld Z h_2 ks "java/util/LinkedHashMap$LinkedKeySet" "this$0" "Ljava/util/LinkedHashMap;" .null := D_2 (Or.inr (own_w238 hw)) (ty := (.object "java/util/LinkedHashMap")) (by decide)
  have F_reversed_ks : Fld Z h_2 ks "java/util/LinkedHashMap$LinkedKeySet" "reversed" "Z" (.int (0 : Int32)) := D_2 (Or.inr (own_w243 hw)) (ty := .boolean) (by decide)
  refine hst st_2 ?_
  show G (T_2.setTop (mkF mI 12 #[.val (.ref m), .val .null, .unset] [(.ref ks)]))
  refine o_dup hst X_2.here hx (hb hby dsk_12) (pc' := 13) rfl rfl ?_
  refine o_aloadN hst X_2.here hx (hb hby dsk_13) (pc' := 14) rfl rfl rfl ?_
  refine o_iconst hst X_2.here hx (hb hby dsk_14) (pc' := 15) rfl (z := (0 : Int32)) rfl ?_
  obtain ⟨_, _, ⟨T_3, L_3, k_3, n_3⟩, -, X_3, ⟨Lc_3, hQ_3, l_3, y_3, z_3⟩, st_3⟩ := X_2.specialBack hx (y := (⟨"java/util/LinkedHashMap$LinkedKeySet", "<init>", "(Ljava/util/LinkedHashMap;Z)V"⟩ : MethodName)) rfl hown (mvT hZ (own_w233 hw)) (mvT hZ (own_w234 hw)) (mvT hZ (own_w236 hw)) (by decide) (backOf (W := 1) (rmki lL Z a0 hw [] ks m  h_2 n0 Z0 F_this_0_ks F_reversed_ks E_ks le_n0_ks) hZ (own_w236 hw) (own_w232 hw) (by decide) (by decide)) (g := (mkF mI 15 #[.val (.ref m), .val .null, .unset] [(.int (0 : Int32)), (.ref m), (.ref ks), (.ref ks)])) rfl (by rw [hml]; rfl) (Steps.refl _) (a := ks) (argsL := [(.ref m), (.int (0 : Int32))]) (rest := [(.ref ks)]) (lenOf pd_8 rfl) rfl (by show 2 * 0 + _ ≤ _; exact Nat.le_of_eq rfl) (hb hby dsk_15) (fun _ _ => ⟨rfl, e_2, (by decide : 1 + 0 ≤ _), (by decide : 2 + 0 ≤ _)⟩)
  dsimp only [Pt.U, Pt.locs, Pt.cells, Pt.slots] at X_3 l_3 y_3 z_3 st_3 hQ_3
  subst l_3 y_3 z_3
  obtain ⟨rfl, N_3q, K_3, Ex_3, G1, G2⟩ := hQ_3
  have Z0 := Nat.le_trans Z0 K_3.1
  have Z1 := Nat.le_trans Z1 K_3.1
  have K0 := K0.trans K_3 (allS (Or.inr le_hh_ks) all0)
  have F_size_m := F_size_m.keep K_3 (ninS ne_m_ks nin0)
  have F_keySet_m := F_keySet_m.keep K_3 (ninS ne_m_ks nin0)
  have F_head_m := F_head_m.keep K_3 (ninS ne_m_ks nin0)
  have F_modCount_m := F_modCount_m.keep K_3 (ninS ne_m_ks nin0)
  have E_m := E_m.keep K_3
  have E_ks := E_ks.keep K_3
  have F_this_0_ks := G1
  have F_reversed_ks := G2
  have N_3 := Fr.app N0 N_3q
  refine hst (fun _ kt => st_3.trans kt) ?_
  show G (T_3.setTop (mkF mI 18 #[.val (.ref m), .val .null, .unset] [(.ref ks)]))
  refine o_astoreN hst X_3.here hx (hb hby dsk_18) (pc' := 19) rfl (Lt := #[.val (.ref m), .val .null, .val (.ref ks)]) rfl rfl ?_
  refine o_aloadN hst X_3.here hx (hb hby dsk_19) (pc' := 20) rfl rfl rfl ?_
  refine o_aloadN hst X_3.here hx (hb hby dsk_20) (pc' := 21) rfl rfl rfl ?_
  obtain ⟨T_4, h_4, X_4, e_4, W_4, st_4⟩ := putF X_3 hx hZ hown (host := "") (Or.inl (own_w227 hw)) (Via.of (own_w228 hw)) rfl F_keySet_m E_m (Or.inl (own_w229 hw)) (own_w75 hw) (ty := (.object "java/util/Set")) (by decide) rfl rfl (g := (mkF mI 21 #[.val (.ref m), .val .null, .val (.ref ks)] [(.ref ks), (.ref m)])) rfl rfl (hb hby dsk_21)
  have Z0 := Nat.le_trans Z0 (Keep.of_wr W_4).1
  have Z1 := Nat.le_trans Z1 (Keep.of_wr W_4).1
  have K0 := K0.wr W_4 (Or.inl (List.mem_of_getElem? (i := 0) rfl))
  have F_size_m := F_size_m.other W_4 (Or.inr (slot_ne (Or.inl (own_w207 hw)) (Or.inl (own_w229 hw)) (by decide) (t := .int) (t' := (.object "java/util/Set")) (by decide) (by decide)))
  have F_keySet_m := F_keySet_m.same W_4
  have F_head_m := F_head_m.other W_4 (Or.inr (slot_ne (Or.inl (own_w270 hw)) (Or.inl (own_w229 hw)) (by decide) (t := (.object "java/util/LinkedHashMap$Entry")) (t' := (.object "java/util/Set")) (by decide) (by decide)))
  have F_modCount_m := F_modCount_m.other W_4 (Or.inr (slot_ne (Or.inl (own_w275 hw)) (Or.inl (own_w229 hw)) (by decide) (t := .int) (t' := (.object "java/util/Set")) (by decide) (by decide)))
  have E_m := E_m.wr W_4
  have E_ks := E_ks.wr W_4
  have F_this_0_ks := F_this_0_ks.other W_4 (Or.inl (Ne.symm ne_m_ks))
  have F_reversed_ks := F_reversed_ks.other W_4 (Or.inl (Ne.symm ne_m_ks))
  have N_4 := Fr.snoc X_4 N_3 le_n0_m
  refine hst st_4 ?_
  show G (T_4.setTop (mkF mI 24 #[.val (.ref m), .val .null, .val (.ref ks)] []))
  refine o_aloadN hst X_4.here hx (hb hby dsk_24) (pc' := 25) rfl rfl rfl ?_
  exact hend (own_goRet X_4 hx Bd.returns rfl (Or.inr (Or.inr (Or.inr (Or.inr ⟨rfl, rfl, rfl⟩)))) (hb hby dsk_25) Bd.notSynchronized (by rw [e_4]; exact ⟨ks, rfl, N_4, K0, le_hh_ks, F_size_m, F_keySet_m, F_head_m, F_modCount_m, E_ks, F_this_0_ks, F_reversed_ks⟩) (by decide) (by decide))
theorem dkk_0 : decode jdk_94_method_24_code 0 = .ok (.aload_n 0, 1) := by decide +kernel
theorem dkk_1 : decode jdk_94_method_24_code 1 = .ok (.invokevirtual 113, 3) := by decide +kernel
theorem dkk_4 : decode jdk_94_method_24_code 4 = .ok (.areturn, 1) := by decide +kernel
theorem ef_kk (mI : MethodId) (m : Addr) : entryFrame mI #[(.ref m)] 1 = mkF mI 0 #[.val (.ref m)] [] := by first | (simp [entryFrame, mkF, argsToLocals, Value.category]; done) | rfl
theorem pn_kk : plainName "java/util/LinkedHashMap" = true := by first | decide +kernel | (simp [plainName, overriddenIn]; done)
set_option maxRecDepth 65536 in
set_option maxHeartbeats 40000000 in
theorem rmkk (lL : Launch) (Z : State) (a0 : Array Value) (hw : ∀ d ∈ tables_1, d.before a0 Z = true) (ws : List Jvm.Cond) (m : Addr) (h0 : Heap) (n0 : Nat) (Z0 : n0 ≤ h0.size) (F_size_m : Fld Z h0 m "java/util/HashMap" "size" "I" (.int (0 : Int32))) (F_keySet_m : Fld Z h0 m "java/util/AbstractMap" "keySet" "Ljava/util/Set;" .null) (F_head_m : Fld Z h0 m "java/util/LinkedHashMap" "head" "Ljava/util/LinkedHashMap$Entry;" .null) (F_modCount_m : Fld Z h0 m "java/util/HashMap" "modCount" "I" (.int (0 : Int32))) (E_m : Exa Z h0 m "java/util/LinkedHashMap") (le_n0_m : n0 ≤ m) :
    MetFree lL (⟨"java/util/LinkedHashMap", "keySet", "()Ljava/util/Set;"⟩ : MethodName) (head1 (Jvm.Cond.code (⟨"java/util/LinkedHashMap", "keySet", "()Ljava/util/Set;"⟩ : MethodName) jdk_94_method_24_code 1 (some (.object "java/util/Set")) :: ws) ({ frames := 5, cells := 1, slots := 2, locals := 65 } : Room)) (fun a_ U_ => a_ = #[(.ref m)] ∧ Z.Warmed39 U_.vm ∧ U_.heap = h0) (fun _ _ _ _ _ => True) (fun _ U_ o_ W_ => ∃ v_ L_, o_ = .returned v_ ∧ own_Qsk Z m h0 n0 v_ W_.heap L_ ∧ FrameEnd U_ o_ W_ L_ ({ frames := 5, cells := 1, slots := 2, locals := 65 } : Room).cells ({ frames := 5, cells := 1, slots := 2, locals := 65 } : Room).slots) := by
  refine MetFree.of_bodySF (plainFor_of_name pn_kk) hisR ?_
  intro pP eE sS mI args below meth cC s₁ Bd hml0 hP hK
  obtain ⟨rfl, hZ, hh⟩ := hP
  have hx := Bd.exec
  have hby := Bd.bytes
  have hml : cC.maxLocals = 1 := hml0
  have hown : sS.vm.findClass "java/util/LinkedHashMap" = some mI.cls := by have z := findClass_of_methodNamed Bd.named; exact z
  have hnm := (name_of_methodNamed Bd.named Bd.method).1
  have X0 : Stand pP lL eE ({ frames := 5, cells := 1, slots := 2, locals := 65 } : Room) sS mI #[(.ref m)] below meth cC s₁ [] 0 0 := Stand.of_body Bd
  have e0 : s₁.heap = h0 := by rw [← hh, Bd.state]; rfl
  have N0 := Fr.nil n0
  obtain ⟨G, hG, hst, hend⟩ := own_abs pP eE below sS (own_Qsk Z m h0 n0) ({ frames := 5, cells := 1, slots := 2, locals := 65 } : Room).cells ({ frames := 5, cells := 1, slots := 2, locals := 65 } : Room).slots
  refine hG (S := s₁.setTop (entryFrame mI #[(.ref m)] 1)) (hst (fun t_ kt_ => castTop (ef_kk mI m) kt_) ?_)
  show G (s₁.setTop (mkF mI 0 #[.val (.ref m)] []))
  refine o_aloadN hst X0.here hx (hb hby dkk_0) (pc' := 1) rfl rfl rfl ?_
  obtain ⟨cq_1, kq_1, q_1a, q_1b, q_1c⟩ := isOf hZ e0 E_m
  obtain ⟨_, _, ⟨T_1, L_1, k_1, n_1⟩, -, X_1, ⟨Lc_1, hQ_1, l_1, y_1, z_1⟩, st_1⟩ := X0.virtualBack hx (y := (⟨"java/util/LinkedHashMap", "sequencedKeySet", "()Ljava/util/SequencedSet;"⟩ : MethodName)) (z := (⟨"java/util/LinkedHashMap", "sequencedKeySet", "()Ljava/util/SequencedSet;"⟩ : MethodName)) hown (mvT hZ (own_w222 hw)) (mvT hZ (own_w223 hw)) (notFace_of_selects (args := #[]) (mvT hZ (own_w225 hw))) (mvT hZ (own_w225 hw)) (mvT hZ (own_w224 hw)) (by decide) (backOf (W := 0) (rmsk lL Z a0 hw [] m  h0 n0 Z0 F_size_m F_keySet_m F_head_m F_modCount_m E_m le_n0_m) hZ (own_w226 hw) (own_w76 hw) (by decide) (by decide)) q_1a q_1c (g := (mkF mI 1 #[.val (.ref m)] [(.ref m)])) rfl (by rw [hml]; rfl) (Steps.refl _) (argsL := []) (rest := []) (lenOf pd_9 rfl) rfl (by show 2 * 0 + _ ≤ _; exact Nat.le_of_eq rfl) (hb hby dkk_1) (fun _ _ => ⟨rfl, e0, (by decide : 0 + 1 ≤ _), (by decide : 0 + 2 ≤ _)⟩)
  dsimp only [Pt.U, Pt.locs, Pt.cells, Pt.slots] at X_1 l_1 y_1 z_1 st_1 hQ_1
  subst l_1 y_1 z_1
  obtain ⟨ks, rfl, N_1q, R_1⟩ := hQ_1
  have N_1 := Fr.app N0 N_1q
  refine hst (fun _ kt => st_1.trans kt) ?_
  show G (T_1.setTop (mkF mI 4 #[.val (.ref m)] [(.ref ks)]))
  exact hend (own_goRet X_1 hx Bd.returns rfl (Or.inr (Or.inr (Or.inr (Or.inr ⟨rfl, rfl, rfl⟩)))) (hb hby dkk_4) Bd.notSynchronized (by exact ⟨ks, rfl, N_1, R_1⟩) (by decide) (by decide))
def own_Qit (Z : State) (it : Addr) (h0 : Heap) (n0 : Nat) (v : Option Value) (h : Heap) (L : List Loc) : Prop := v = none ∧ Fr n0 L ∧ Keep h0 h [it] ∧ Fld Z h it "java/util/LinkedHashMap$LinkedHashIterator" "next" "Ljava/util/LinkedHashMap$Entry;" .null
theorem dhi_0 : decode jdk_2616_method_1_code 0 = .ok (.aload_n 0, 1) := by decide +kernel
theorem dhi_1 : decode jdk_2616_method_1_code 1 = .ok (.aload_n 1, 1) := by decide +kernel
theorem dhi_2 : decode jdk_2616_method_1_code 2 = .ok (.putfield 1, 3) := by decide +kernel
theorem dhi_5 : decode jdk_2616_method_1_code 5 = .ok (.aload_n 0, 1) := by decide +kernel
theorem dhi_6 : decode jdk_2616_method_1_code 6 = .ok (.invokespecial 7, 3) := by decide +kernel
theorem dhi_9 : decode jdk_2616_method_1_code 9 = .ok (.aload_n 0, 1) := by decide +kernel
theorem dhi_10 : decode jdk_2616_method_1_code 10 = .ok (.iload_n 2, 1) := by decide +kernel
theorem dhi_11 : decode jdk_2616_method_1_code 11 = .ok (.putfield 13, 3) := by decide +kernel
theorem dhi_14 : decode jdk_2616_method_1_code 14 = .ok (.aload_n 0, 1) := by decide +kernel
theorem dhi_15 : decode jdk_2616_method_1_code 15 = .ok (.iload_n 2, 1) := by decide +kernel
theorem dhi_16 : decode jdk_2616_method_1_code 16 = .ok (.ifCond .eq 10, 3) := by decide +kernel
theorem dhi_26 : decode jdk_2616_method_1_code 26 = .ok (.aload_n 1, 1) := by decide +kernel
theorem dhi_27 : decode jdk_2616_method_1_code 27 = .ok (.getfield 23, 3) := by decide +kernel
theorem dhi_30 : decode jdk_2616_method_1_code 30 = .ok (.putfield 26, 3) := by decide +kernel
theorem dhi_33 : decode jdk_2616_method_1_code 33 = .ok (.aload_n 0, 1) := by decide +kernel
theorem dhi_34 : decode jdk_2616_method_1_code 34 = .ok (.aload_n 1, 1) := by decide +kernel
theorem dhi_35 : decode jdk_2616_method_1_code 35 = .ok (.getfield 29, 3) := by decide +kernel
theorem dhi_38 : decode jdk_2616_method_1_code 38 = .ok (.putfield 33, 3) := by decide +kernel
theorem dhi_41 : decode jdk_2616_method_1_code 41 = .ok (.aload_n 0, 1) := by decide +kernel
theorem dhi_42 : decode jdk_2616_method_1_code 42 = .ok (.aconst_null, 1) := by decide +kernel
theorem dhi_43 : decode jdk_2616_method_1_code 43 = .ok (.putfield 36, 3) := by decide +kernel
theorem dhi_46 : decode jdk_2616_method_1_code 46 = .ok (.return_, 1) := by decide +kernel
theorem ef_hi (mI : MethodId) (it : Addr) (m : Addr) : entryFrame mI #[(.ref it), (.ref m), (.int (0 : Int32))] 3 = mkF mI 0 #[.val (.ref it), .val (.ref m), .val (.int (0 : Int32))] [] := by first | (simp [entryFrame, mkF, argsToLocals, Value.category]; done) | rfl
theorem pn_hi : plainName "java/util/LinkedHashMap$LinkedHashIterator" = true := by first | decide +kernel | (simp [plainName, overriddenIn]; done)
set_option maxRecDepth 65536 in
set_option maxHeartbeats 40000000 in
theorem rmhi (lL : Launch) (Z : State) (a0 : Array Value) (hw : ∀ d ∈ tables_1, d.before a0 Z = true) (ws : List Jvm.Cond) (it : Addr) (m : Addr) (h0 : Heap) (n0 : Nat) (Z0 : n0 ≤ h0.size) (F_this_0_it : Fld Z h0 it "java/util/LinkedHashMap$LinkedHashIterator" "this$0" "Ljava/util/LinkedHashMap;" .null) (F_reversed_it : Fld Z h0 it "java/util/LinkedHashMap$LinkedHashIterator" "reversed" "Z" (.int (0 : Int32))) (F_next_it : Fld Z h0 it "java/util/LinkedHashMap$LinkedHashIterator" "next" "Ljava/util/LinkedHashMap$Entry;" .null) (F_expectedModCount_it : Fld Z h0 it "java/util/LinkedHashMap$LinkedHashIterator" "expectedModCount" "I" (.int (0 : Int32))) (F_current_it : Fld Z h0 it "java/util/LinkedHashMap$LinkedHashIterator" "current" "Ljava/util/LinkedHashMap$Entry;" .null) (F_head_m : Fld Z h0 m "java/util/LinkedHashMap" "head" "Ljava/util/LinkedHashMap$Entry;" .null) (F_modCount_m : Fld Z h0 m "java/util/HashMap" "modCount" "I" (.int (0 : Int32))) (E_it : Exa Z h0 it "java/util/LinkedHashMap$LinkedKeyIterator") (le_n0_it : n0 ≤ it) (ne_m_it : m ≠ it) :
    MetFree lL (⟨"java/util/LinkedHashMap$LinkedHashIterator", "<init>", "(Ljava/util/LinkedHashMap;Z)V"⟩ : MethodName) (head1 (Jvm.Cond.code (⟨"java/util/LinkedHashMap$LinkedHashIterator", "<init>", "(Ljava/util/LinkedHashMap;Z)V"⟩ : MethodName) jdk_2616_method_1_code 3 none :: ws) ({ frames := 1, cells := 0, slots := 0, locals := 12 } : Room)) (fun a_ U_ => a_ = #[(.ref it), (.ref m), (.int (0 : Int32))] ∧ Z.Warmed39 U_.vm ∧ U_.heap = h0) (fun _ _ _ _ _ => True) (fun _ U_ o_ W_ => ∃ v_ L_, o_ = .returned v_ ∧ own_Qit Z it h0 n0 v_ W_.heap L_ ∧ FrameEnd U_ o_ W_ L_ ({ frames := 1, cells := 0, slots := 0, locals := 12 } : Room).cells ({ frames := 1, cells := 0, slots := 0, locals := 12 } : Room).slots) := by
  refine MetFree.of_bodySF (plainFor_of_name pn_hi) hisR ?_
  intro pP eE sS mI args below meth cC s₁ Bd hml0 hP hK
  obtain ⟨rfl, hZ, hh⟩ := hP
  have hx := Bd.exec
  have hby := Bd.bytes
  have hml : cC.maxLocals = 3 := hml0
  have hown : sS.vm.findClass "java/util/LinkedHashMap$LinkedHashIterator" = some mI.cls := by have z := findClass_of_methodNamed Bd.named; exact z
  have hnm := (name_of_methodNamed Bd.named Bd.method).1
  have X0 : Stand pP lL eE ({ frames := 1, cells := 0, slots := 0, locals := 12 } : Room) sS mI #[(.ref it), (.ref m), (.int (0 : Int32))] below meth cC s₁ [] 0 0 := Stand.of_body Bd
  have e0 : s₁.heap = h0 := by rw [← hh, Bd.state]; rfl
  have N0 := Fr.nil n0
  obtain ⟨G, hG, hst, hend⟩ := own_abs pP eE below sS (own_Qit Z it h0 n0) ({ frames := 1, cells := 0, slots := 0, locals := 12 } : Room).cells ({ frames := 1, cells := 0, slots := 0, locals := 12 } : Room).slots
  refine hG (S := s₁.setTop (entryFrame mI #[(.ref it), (.ref m), (.int (0 : Int32))] 3)) (hst (fun t_ kt_ => castTop (ef_hi mI it m) kt_) ?_)
  have Z1 := Nat.le_refl h0.size
  have K0 := Keep.refl h0 [it]
  show G (s₁.setTop (mkF mI 0 #[.val (.ref it), .val (.ref m), .val (.int (0 : Int32))] []))
  refine o_aloadN hst X0.here hx (hb hby dhi_0) (pc' := 1) rfl rfl rfl ?_
  refine o_aloadN hst X0.here hx (hb hby dhi_1) (pc' := 2) rfl rfl rfl ?_
  obtain ⟨T_1, h_1, X_1, e_1, W_1, st_1⟩ := putF X0 hx hZ hown (host := "") (Or.inl (own_w264 hw)) Via.refl e0 F_this_0_it E_it (Or.inr ⟨(own_w265 hw), rfl, hnm⟩) (own_w252 hw) (ty := (.object "java/util/LinkedHashMap")) (by decide) rfl rfl (g := (mkF mI 2 #[.val (.ref it), .val (.ref m), .val (.int (0 : Int32))] [(.ref m), (.ref it)])) rfl rfl (hb hby dhi_2)
  have Z0 := Nat.le_trans Z0 (Keep.of_wr W_1).1
  have Z1 := Nat.le_trans Z1 (Keep.of_wr W_1).1
  have K0 := K0.wr W_1 (Or.inl (List.mem_of_getElem? (i := 0) rfl))
  have F_this_0_it := F_this_0_it.same W_1
  have F_reversed_it := F_reversed_it.other W_1 (Or.inr (slot_ne (Or.inl (own_w268 hw)) (Or.inr (own_w265 hw)) (by decide) (t := .boolean) (t' := (.object "java/util/LinkedHashMap")) (by decide) (by decide)))
  have F_next_it := F_next_it.other W_1 (Or.inr (slot_ne (Or.inl (own_w272 hw)) (Or.inr (own_w265 hw)) (by decide) (t := (.object "java/util/LinkedHashMap$Entry")) (t' := (.object "java/util/LinkedHashMap")) (by decide) (by decide)))
  have F_expectedModCount_it := F_expectedModCount_it.other W_1 (Or.inr (slot_ne (Or.inl (own_w277 hw)) (Or.inr (own_w265 hw)) (by decide) (t := .int) (t' := (.object "java/util/LinkedHashMap")) (by decide) (by decide)))
  have F_current_it := F_current_it.other W_1 (Or.inr (slot_ne (Or.inl (own_w279 hw)) (Or.inr (own_w265 hw)) (by decide) (t := (.object "java/util/LinkedHashMap$Entry")) (t' := (.object "java/util/LinkedHashMap")) (by decide) (by decide)))
  have F_head_m := F_head_m.other W_1 (Or.inl ne_m_it)
  have F_modCount_m := F_modCount_m.other W_1 (Or.inl ne_m_it)
  have E_it := E_it.wr W_1
  have N_1 := Fr.snoc X_1 N0 le_n0_it
  refine hst st_1 ?_
  show G (T_1.setTop (mkF mI 5 #[.val (.ref it), .val (.ref m), .val (.int (0 : Int32))] []))
  refine o_aloadN hst X_1.here hx (hb hby dhi_5) (pc' := 6) rfl rfl rfl ?_
  obtain ⟨T_2, X_2, e_2, st_2⟩ := initO X_1 hx hZ hown (own_w266 hw) (own_w26 hw) (own_w27 hw) e_1 (g := (mkF mI 6 #[.val (.ref it), .val (.ref m), .val (.int (0 : Int32))] [(.ref it)])) rfl (by rw [hml]; rfl) rfl (hb hby dhi_6) (by decide) (W := 0) (by show 2 * 0 + _ ≤ _; exact Nat.le_of_eq rfl) (by decide)
  refine hst st_2 ?_
  show G (T_2.setTop (mkF mI 9 #[.val (.ref it), .val (.ref m), .val (.int (0 : Int32))] []))
  refine o_aloadN hst X_2.here hx (hb hby dhi_9) (pc' := 10) rfl rfl rfl ?_
  refine o_iloadN hst X_2.here hx (hb hby dhi_10) (pc' := 11) rfl rfl ?_
  obtain ⟨T_3, h_3, X_3, e_3, W_3, st_3⟩ := putFN X_2 hx hZ hown (own_w267 hw) Via.refl e_2 F_reversed_it E_it (Or.inl (own_w268 hw)) (own_w252 hw) (ty := .boolean) (v' := (.int (0 : Int32))) (by decide) rfl rfl (g := (mkF mI 11 #[.val (.ref it), .val (.ref m), .val (.int (0 : Int32))] [(.int (0 : Int32)), (.ref it)])) rfl rfl (hb hby dhi_11)
  have Z0 := Nat.le_trans Z0 (Keep.of_wr W_3).1
  have Z1 := Nat.le_trans Z1 (Keep.of_wr W_3).1
  have K0 := K0.wr W_3 (Or.inl (List.mem_of_getElem? (i := 0) rfl))
  have F_this_0_it := F_this_0_it.other W_3 (Or.inr (slot_ne (Or.inr (own_w265 hw)) (Or.inl (own_w268 hw)) (by decide) (t := (.object "java/util/LinkedHashMap")) (t' := .boolean) (by decide) (by decide)))
  have F_reversed_it := F_reversed_it.same W_3
  have F_next_it := F_next_it.other W_3 (Or.inr (slot_ne (Or.inl (own_w272 hw)) (Or.inl (own_w268 hw)) (by decide) (t := (.object "java/util/LinkedHashMap$Entry")) (t' := .boolean) (by decide) (by decide)))
  have F_expectedModCount_it := F_expectedModCount_it.other W_3 (Or.inr (slot_ne (Or.inl (own_w277 hw)) (Or.inl (own_w268 hw)) (by decide) (t := .int) (t' := .boolean) (by decide) (by decide)))
  have F_current_it := F_current_it.other W_3 (Or.inr (slot_ne (Or.inl (own_w279 hw)) (Or.inl (own_w268 hw)) (by decide) (t := (.object "java/util/LinkedHashMap$Entry")) (t' := .boolean) (by decide) (by decide)))
  have F_head_m := F_head_m.other W_3 (Or.inl ne_m_it)
  have F_modCount_m := F_modCount_m.other W_3 (Or.inl ne_m_it)
  have E_it := E_it.wr W_3
  have N_3 := Fr.snoc X_3 N_1 le_n0_it
  refine hst st_3 ?_
  show G (T_3.setTop (mkF mI 14 #[.val (.ref it), .val (.ref m), .val (.int (0 : Int32))] []))
  refine o_aloadN hst X_3.here hx (hb hby dhi_14) (pc' := 15) rfl rfl rfl ?_
  refine o_iloadN hst X_3.here hx (hb hby dhi_15) (pc' := 16) rfl rfl ?_
  have hc16 : (0 : Int32) = (0 : Int32) := rfl
  refine hst (fun _ kt => XS.ifYes X_3.here hx rfl (pc0 := 16) (pc' := 26) rfl (hb hby dhi_16) rfl ((if0 _ _).trans (teq hc16).1) (by decide) (by decide) kt) ?_
  show G (T_3.setTop (mkF mI 26 #[.val (.ref it), .val (.ref m), .val (.int (0 : Int32))] [(.ref it)]))
  refine o_aloadN hst X_3.here hx (hb hby dhi_26) (pc' := 27) rfl rfl rfl ?_
  obtain ⟨T_4, X_4, e_4, st_4⟩ := getF X_3 hx hZ hown (host := "") (Or.inl (own_w269 hw)) Via.refl e_3 F_head_m (g := (mkF mI 27 #[.val (.ref it), .val (.ref m), .val (.int (0 : Int32))] [(.ref m), (.ref it)])) rfl rfl (hb hby dhi_27)
  refine hst st_4 ?_
  show G (T_4.setTop (mkF mI 30 #[.val (.ref it), .val (.ref m), .val (.int (0 : Int32))] [.null, (.ref it)]))
  obtain ⟨T_5, h_5, X_5, e_5, W_5, st_5⟩ := putF X_4 hx hZ hown (host := "") (Or.inl (own_w271 hw)) Via.refl e_4 F_next_it E_it (Or.inl (own_w272 hw)) (own_w252 hw) (ty := (.object "java/util/LinkedHashMap$Entry")) (by decide) rfl rfl (g := (mkF mI 30 #[.val (.ref it), .val (.ref m), .val (.int (0 : Int32))] [.null, (.ref it)])) rfl rfl (hb hby dhi_30)
  have Z0 := Nat.le_trans Z0 (Keep.of_wr W_5).1
  have Z1 := Nat.le_trans Z1 (Keep.of_wr W_5).1
  have K0 := K0.wr W_5 (Or.inl (List.mem_of_getElem? (i := 0) rfl))
  have F_this_0_it := F_this_0_it.other W_5 (Or.inr (slot_ne (Or.inr (own_w265 hw)) (Or.inl (own_w272 hw)) (by decide) (t := (.object "java/util/LinkedHashMap")) (t' := (.object "java/util/LinkedHashMap$Entry")) (by decide) (by decide)))
  have F_reversed_it := F_reversed_it.other W_5 (Or.inr (slot_ne (Or.inl (own_w268 hw)) (Or.inl (own_w272 hw)) (by decide) (t := .boolean) (t' := (.object "java/util/LinkedHashMap$Entry")) (by decide) (by decide)))
  have F_next_it := F_next_it.same W_5
  have F_expectedModCount_it := F_expectedModCount_it.other W_5 (Or.inr (slot_ne (Or.inl (own_w277 hw)) (Or.inl (own_w272 hw)) (by decide) (t := .int) (t' := (.object "java/util/LinkedHashMap$Entry")) (by decide) (by decide)))
  have F_current_it := F_current_it.other W_5 (Or.inr (slot_ne (Or.inl (own_w279 hw)) (Or.inl (own_w272 hw)) (by decide) (t := (.object "java/util/LinkedHashMap$Entry")) (t' := (.object "java/util/LinkedHashMap$Entry")) (by decide) (by decide)))
  have F_head_m := F_head_m.other W_5 (Or.inl ne_m_it)
  have F_modCount_m := F_modCount_m.other W_5 (Or.inl ne_m_it)
  have E_it := E_it.wr W_5
  have N_5 := Fr.snoc X_5 N_3 le_n0_it
  refine hst st_5 ?_
  show G (T_5.setTop (mkF mI 33 #[.val (.ref it), .val (.ref m), .val (.int (0 : Int32))] []))
  refine o_aloadN hst X_5.here hx (hb hby dhi_33) (pc' := 34) rfl rfl rfl ?_
  refine o_aloadN hst X_5.here hx (hb hby dhi_34) (pc' := 35) rfl rfl rfl ?_
  obtain ⟨T_6, X_6, e_6, st_6⟩ := getF X_5 hx hZ hown (host := "") (Or.inl (own_w273 hw)) (Via.of (own_w274 hw)) e_5 F_modCount_m (g := (mkF mI 35 #[.val (.ref it), .val (.ref m), .val (.int (0 : Int32))] [(.ref m), (.ref it)])) rfl rfl (hb hby dhi_35)
  refine hst st_6 ?_
  show G (T_6.setTop (mkF mI 38 #[.val (.ref it), .val (.ref m), .val (.int (0 : Int32))] [(.int (0 : Int32)), (.ref it)]))
  obtain ⟨T_7, h_7, X_7, e_7, W_7, st_7⟩ := putF X_6 hx hZ hown (host := "") (Or.inl (own_w276 hw)) Via.refl e_6 F_expectedModCount_it E_it (Or.inl (own_w277 hw)) (own_w252 hw) (ty := .int) (by decide) rfl rfl (g := (mkF mI 38 #[.val (.ref it), .val (.ref m), .val (.int (0 : Int32))] [(.int (0 : Int32)), (.ref it)])) rfl rfl (hb hby dhi_38)
  have Z0 := Nat.le_trans Z0 (Keep.of_wr W_7).1
  have Z1 := Nat.le_trans Z1 (Keep.of_wr W_7).1
  have K0 := K0.wr W_7 (Or.inl (List.mem_of_getElem? (i := 0) rfl))
  have F_this_0_it := F_this_0_it.other W_7 (Or.inr (slot_ne (Or.inr (own_w265 hw)) (Or.inl (own_w277 hw)) (by decide) (t := (.object "java/util/LinkedHashMap")) (t' := .int) (by decide) (by decide)))
  have F_reversed_it := F_reversed_it.other W_7 (Or.inr (slot_ne (Or.inl (own_w268 hw)) (Or.inl (own_w277 hw)) (by decide) (t := .boolean) (t' := .int) (by decide) (by decide)))
  have F_next_it := F_next_it.other W_7 (Or.inr (slot_ne (Or.inl (own_w272 hw)) (Or.inl (own_w277 hw)) (by decide) (t := (.object "java/util/LinkedHashMap$Entry")) (t' := .int) (by decide) (by decide)))
  have F_expectedModCount_it := F_expectedModCount_it.same W_7
  have F_current_it := F_current_it.other W_7 (Or.inr (slot_ne (Or.inl (own_w279 hw)) (Or.inl (own_w277 hw)) (by decide) (t := (.object "java/util/LinkedHashMap$Entry")) (t' := .int) (by decide) (by decide)))
  have F_head_m := F_head_m.other W_7 (Or.inl ne_m_it)
  have F_modCount_m := F_modCount_m.other W_7 (Or.inl ne_m_it)
  have E_it := E_it.wr W_7
  have N_7 := Fr.snoc X_7 N_5 le_n0_it
  refine hst st_7 ?_
  show G (T_7.setTop (mkF mI 41 #[.val (.ref it), .val (.ref m), .val (.int (0 : Int32))] []))
  refine o_aloadN hst X_7.here hx (hb hby dhi_41) (pc' := 42) rfl rfl rfl ?_
  refine o_aconstNull hst X_7.here hx (hb hby dhi_42) (pc' := 43) rfl ?_
  obtain ⟨T_8, h_8, X_8, e_8, W_8, st_8⟩ := putF X_7 hx hZ hown (host := "") (Or.inl (own_w278 hw)) Via.refl e_7 F_current_it E_it (Or.inl (own_w279 hw)) (own_w252 hw) (ty := (.object "java/util/LinkedHashMap$Entry")) (by decide) rfl rfl (g := (mkF mI 43 #[.val (.ref it), .val (.ref m), .val (.int (0 : Int32))] [.null, (.ref it)])) rfl rfl (hb hby dhi_43)
  have Z0 := Nat.le_trans Z0 (Keep.of_wr W_8).1
  have Z1 := Nat.le_trans Z1 (Keep.of_wr W_8).1
  have K0 := K0.wr W_8 (Or.inl (List.mem_of_getElem? (i := 0) rfl))
  have F_this_0_it := F_this_0_it.other W_8 (Or.inr (slot_ne (Or.inr (own_w265 hw)) (Or.inl (own_w279 hw)) (by decide) (t := (.object "java/util/LinkedHashMap")) (t' := (.object "java/util/LinkedHashMap$Entry")) (by decide) (by decide)))
  have F_reversed_it := F_reversed_it.other W_8 (Or.inr (slot_ne (Or.inl (own_w268 hw)) (Or.inl (own_w279 hw)) (by decide) (t := .boolean) (t' := (.object "java/util/LinkedHashMap$Entry")) (by decide) (by decide)))
  have F_next_it := F_next_it.other W_8 (Or.inr (slot_ne (Or.inl (own_w272 hw)) (Or.inl (own_w279 hw)) (by decide) (t := (.object "java/util/LinkedHashMap$Entry")) (t' := (.object "java/util/LinkedHashMap$Entry")) (by decide) (by decide)))
  have F_expectedModCount_it := F_expectedModCount_it.other W_8 (Or.inr (slot_ne (Or.inl (own_w277 hw)) (Or.inl (own_w279 hw)) (by decide) (t := .int) (t' := (.object "java/util/LinkedHashMap$Entry")) (by decide) (by decide)))
  have F_current_it := F_current_it.same W_8
  have F_head_m := F_head_m.other W_8 (Or.inl ne_m_it)
  have F_modCount_m := F_modCount_m.other W_8 (Or.inl ne_m_it)
  have E_it := E_it.wr W_8
  have N_8 := Fr.snoc X_8 N_7 le_n0_it
  refine hst st_8 ?_
  show G (T_8.setTop (mkF mI 46 #[.val (.ref it), .val (.ref m), .val (.int (0 : Int32))] []))
  exact hend (own_goVoid X_8 hx Bd.returns (hb hby dhi_46) Bd.notSynchronized (by rw [e_8]; exact ⟨rfl, N_8, K0, F_next_it⟩) (by decide) (by decide))
theorem dli_0 : decode jdk_2617_method_1_code 0 = .ok (.aload_n 0, 1) := by decide +kernel
theorem dli_1 : decode jdk_2617_method_1_code 1 = .ok (.aload_n 1, 1) := by decide +kernel
theorem dli_2 : decode jdk_2617_method_1_code 2 = .ok (.iload_n 2, 1) := by decide +kernel
theorem dli_3 : decode jdk_2617_method_1_code 3 = .ok (.invokespecial 1, 3) := by decide +kernel
theorem dli_6 : decode jdk_2617_method_1_code 6 = .ok (.return_, 1) := by decide +kernel
theorem ef_li (mI : MethodId) (it : Addr) (m : Addr) : entryFrame mI #[(.ref it), (.ref m), (.int (0 : Int32))] 3 = mkF mI 0 #[.val (.ref it), .val (.ref m), .val (.int (0 : Int32))] [] := by first | (simp [entryFrame, mkF, argsToLocals, Value.category]; done) | rfl
theorem pn_li : plainName "java/util/LinkedHashMap$LinkedKeyIterator" = true := by first | decide +kernel | (simp [plainName, overriddenIn]; done)
set_option maxRecDepth 65536 in
set_option maxHeartbeats 40000000 in
theorem rmli (lL : Launch) (Z : State) (a0 : Array Value) (hw : ∀ d ∈ tables_1, d.before a0 Z = true) (ws : List Jvm.Cond) (it : Addr) (m : Addr) (h0 : Heap) (n0 : Nat) (Z0 : n0 ≤ h0.size) (F_this_0_it : Fld Z h0 it "java/util/LinkedHashMap$LinkedHashIterator" "this$0" "Ljava/util/LinkedHashMap;" .null) (F_reversed_it : Fld Z h0 it "java/util/LinkedHashMap$LinkedHashIterator" "reversed" "Z" (.int (0 : Int32))) (F_next_it : Fld Z h0 it "java/util/LinkedHashMap$LinkedHashIterator" "next" "Ljava/util/LinkedHashMap$Entry;" .null) (F_expectedModCount_it : Fld Z h0 it "java/util/LinkedHashMap$LinkedHashIterator" "expectedModCount" "I" (.int (0 : Int32))) (F_current_it : Fld Z h0 it "java/util/LinkedHashMap$LinkedHashIterator" "current" "Ljava/util/LinkedHashMap$Entry;" .null) (F_head_m : Fld Z h0 m "java/util/LinkedHashMap" "head" "Ljava/util/LinkedHashMap$Entry;" .null) (F_modCount_m : Fld Z h0 m "java/util/HashMap" "modCount" "I" (.int (0 : Int32))) (E_it : Exa Z h0 it "java/util/LinkedHashMap$LinkedKeyIterator") (le_n0_it : n0 ≤ it) (ne_m_it : m ≠ it) :
    MetFree lL (⟨"java/util/LinkedHashMap$LinkedKeyIterator", "<init>", "(Ljava/util/LinkedHashMap;Z)V"⟩ : MethodName) (head1 (Jvm.Cond.code (⟨"java/util/LinkedHashMap$LinkedKeyIterator", "<init>", "(Ljava/util/LinkedHashMap;Z)V"⟩ : MethodName) jdk_2617_method_1_code 3 none :: ws) ({ frames := 2, cells := 0, slots := 0, locals := 26 } : Room)) (fun a_ U_ => a_ = #[(.ref it), (.ref m), (.int (0 : Int32))] ∧ Z.Warmed39 U_.vm ∧ U_.heap = h0) (fun _ _ _ _ _ => True) (fun _ U_ o_ W_ => ∃ v_ L_, o_ = .returned v_ ∧ own_Qit Z it h0 n0 v_ W_.heap L_ ∧ FrameEnd U_ o_ W_ L_ ({ frames := 2, cells := 0, slots := 0, locals := 26 } : Room).cells ({ frames := 2, cells := 0, slots := 0, locals := 26 } : Room).slots) := by
  refine MetFree.of_bodySF (plainFor_of_name pn_li) hisR ?_
  intro pP eE sS mI args below meth cC s₁ Bd hml0 hP hK
  obtain ⟨rfl, hZ, hh⟩ := hP
  have hx := Bd.exec
  have hby := Bd.bytes
  have hml : cC.maxLocals = 3 := hml0
  have hown : sS.vm.findClass "java/util/LinkedHashMap$LinkedKeyIterator" = some mI.cls := by have z := findClass_of_methodNamed Bd.named; exact z
  have hnm := (name_of_methodNamed Bd.named Bd.method).1
  have X0 : Stand pP lL eE ({ frames := 2, cells := 0, slots := 0, locals := 26 } : Room) sS mI #[(.ref it), (.ref m), (.int (0 : Int32))] below meth cC s₁ [] 0 0 := Stand.of_body Bd
  have e0 : s₁.heap = h0 := by rw [← hh, Bd.state]; rfl
  have N0 := Fr.nil n0
  obtain ⟨G, hG, hst, hend⟩ := own_abs pP eE below sS (own_Qit Z it h0 n0) ({ frames := 2, cells := 0, slots := 0, locals := 26 } : Room).cells ({ frames := 2, cells := 0, slots := 0, locals := 26 } : Room).slots
  refine hG (S := s₁.setTop (entryFrame mI #[(.ref it), (.ref m), (.int (0 : Int32))] 3)) (hst (fun t_ kt_ => castTop (ef_li mI it m) kt_) ?_)
  have Z1 := Nat.le_refl h0.size
  have K0 := Keep.refl h0 [it]
  show G (s₁.setTop (mkF mI 0 #[.val (.ref it), .val (.ref m), .val (.int (0 : Int32))] []))
  refine o_aloadN hst X0.here hx (hb hby dli_0) (pc' := 1) rfl rfl rfl ?_
  refine o_aloadN hst X0.here hx (hb hby dli_1) (pc' := 2) rfl rfl rfl ?_
  refine o_iloadN hst X0.here hx (hb hby dli_2) (pc' := 3) rfl rfl ?_
  obtain ⟨_, _, ⟨T_1, L_1, k_1, n_1⟩, -, X_1, ⟨Lc_1, hQ_1, l_1, y_1, z_1⟩, st_1⟩ := X0.specialBack hx (y := (⟨"java/util/LinkedHashMap$LinkedHashIterator", "<init>", "(Ljava/util/LinkedHashMap;Z)V"⟩ : MethodName)) rfl hown (mvT hZ (own_w258 hw)) (mvT hZ (own_w259 hw)) (mvT hZ (own_w263 hw)) (by decide) (backOf (W := 0) (rmhi lL Z a0 hw [] it m  h0 n0 Z0 F_this_0_it F_reversed_it F_next_it F_expectedModCount_it F_current_it F_head_m F_modCount_m E_it le_n0_it ne_m_it) hZ (own_w263 hw) (own_w262 hw) (by decide) (by decide)) (g := (mkF mI 3 #[.val (.ref it), .val (.ref m), .val (.int (0 : Int32))] [(.int (0 : Int32)), (.ref m), (.ref it)])) rfl (by rw [hml]; rfl) (Steps.refl _) (a := it) (argsL := [(.ref m), (.int (0 : Int32))]) (rest := []) (lenOf pd_8 rfl) rfl (by show 2 * 0 + _ ≤ _; exact Nat.le_of_eq rfl) (hb hby dli_3) (fun _ _ => ⟨rfl, e0, (by decide : 0 + 0 ≤ _), (by decide : 0 + 0 ≤ _)⟩)
  dsimp only [Pt.U, Pt.locs, Pt.cells, Pt.slots] at X_1 l_1 y_1 z_1 st_1 hQ_1
  subst l_1 y_1 z_1
  obtain ⟨rfl, N_1q, K_1, G1⟩ := hQ_1
  have N_1 := Fr.app N0 N_1q
  refine hst (fun _ kt => st_1.trans kt) ?_
  show G (T_1.setTop (mkF mI 6 #[.val (.ref it), .val (.ref m), .val (.int (0 : Int32))] []))
  exact hend (own_goVoid X_1 hx Bd.returns (hb hby dli_6) Bd.notSynchronized (by exact ⟨rfl, N_1, K_1, G1⟩) (by decide) (by decide))
def own_Qke (Z : State) (h0 : Heap) (n0 : Nat) (v : Option Value) (h : Heap) (L : List Loc) : Prop := ∃ it : Addr, v = some (.ref it) ∧ Fr n0 L ∧ Keep h0 h [] ∧ Exa Z h it "java/util/LinkedHashMap$LinkedKeyIterator" ∧ Fld Z h it "java/util/LinkedHashMap$LinkedHashIterator" "next" "Ljava/util/LinkedHashMap$Entry;" .null
theorem dke_0 : decode jdk_112_method_4_code 0 = .ok (.new 26, 3) := by decide +kernel
theorem dke_3 : decode jdk_112_method_4_code 3 = .ok (.dup, 1) := by decide +kernel
theorem dke_4 : decode jdk_112_method_4_code 4 = .ok (.aload_n 0, 1) := by decide +kernel
theorem dke_5 : decode jdk_112_method_4_code 5 = .ok (.getfield 1, 3) := by decide +kernel
theorem dke_8 : decode jdk_112_method_4_code 8 = .ok (.aload_n 0, 1) := by decide +kernel
theorem dke_9 : decode jdk_112_method_4_code 9 = .ok (.getfield 13, 3) := by decide +kernel
theorem dke_12 : decode jdk_112_method_4_code 12 = .ok (.invokespecial 28, 3) := by decide +kernel
theorem dke_15 : decode jdk_112_method_4_code 15 = .ok (.areturn, 1) := by decide +kernel
theorem ef_ke (mI : MethodId) (ks : Addr) : entryFrame mI #[(.ref ks)] 1 = mkF mI 0 #[.val (.ref ks)] [] := by first | (simp [entryFrame, mkF, argsToLocals, Value.category]; done) | rfl
theorem pn_ke : plainName "java/util/LinkedHashMap$LinkedKeySet" = true := by first | decide +kernel | (simp [plainName, overriddenIn]; done)
set_option maxRecDepth 65536 in
set_option maxHeartbeats 40000000 in
theorem rmke (lL : Launch) (Z : State) (a0 : Array Value) (hw : ∀ d ∈ tables_1, d.before a0 Z = true) (ws : List Jvm.Cond) (ks : Addr) (m : Addr) (h0 : Heap) (n0 : Nat) (Z0 : n0 ≤ h0.size) (F_this_0_ks : Fld Z h0 ks "java/util/LinkedHashMap$LinkedKeySet" "this$0" "Ljava/util/LinkedHashMap;" (.ref m)) (F_reversed_ks : Fld Z h0 ks "java/util/LinkedHashMap$LinkedKeySet" "reversed" "Z" (.int (0 : Int32))) (F_head_m : Fld Z h0 m "java/util/LinkedHashMap" "head" "Ljava/util/LinkedHashMap$Entry;" .null) (F_modCount_m : Fld Z h0 m "java/util/HashMap" "modCount" "I" (.int (0 : Int32))) :
    MetFree lL (⟨"java/util/LinkedHashMap$LinkedKeySet", "iterator", "()Ljava/util/Iterator;"⟩ : MethodName) (head1 (Jvm.Cond.code (⟨"java/util/LinkedHashMap$LinkedKeySet", "iterator", "()Ljava/util/Iterator;"⟩ : MethodName) jdk_112_method_4_code 1 (some (.object "java/util/Iterator")) :: ws) ({ frames := 3, cells := 1, slots := 5, locals := 41 } : Room)) (fun a_ U_ => a_ = #[(.ref ks)] ∧ Z.Warmed39 U_.vm ∧ U_.heap = h0) (fun _ _ _ _ _ => True) (fun _ U_ o_ W_ => ∃ v_ L_, o_ = .returned v_ ∧ own_Qke Z h0 n0 v_ W_.heap L_ ∧ FrameEnd U_ o_ W_ L_ ({ frames := 3, cells := 1, slots := 5, locals := 41 } : Room).cells ({ frames := 3, cells := 1, slots := 5, locals := 41 } : Room).slots) := by
  refine MetFree.of_bodySF (plainFor_of_name pn_ke) hisR ?_
  intro pP eE sS mI args below meth cC s₁ Bd hml0 hP hK
  obtain ⟨rfl, hZ, hh⟩ := hP
  have hx := Bd.exec
  have hby := Bd.bytes
  have hml : cC.maxLocals = 1 := hml0
  have hown : sS.vm.findClass "java/util/LinkedHashMap$LinkedKeySet" = some mI.cls := by have z := findClass_of_methodNamed Bd.named; exact z
  have hnm := (name_of_methodNamed Bd.named Bd.method).1
  have X0 : Stand pP lL eE ({ frames := 3, cells := 1, slots := 5, locals := 41 } : Room) sS mI #[(.ref ks)] below meth cC s₁ [] 0 0 := Stand.of_body Bd
  have e0 : s₁.heap = h0 := by rw [← hh, Bd.state]; rfl
  have N0 := Fr.nil n0
  obtain ⟨G, hG, hst, hend⟩ := own_abs pP eE below sS (own_Qke Z h0 n0) ({ frames := 3, cells := 1, slots := 5, locals := 41 } : Room).cells ({ frames := 3, cells := 1, slots := 5, locals := 41 } : Room).slots
  refine hG (S := s₁.setTop (entryFrame mI #[(.ref ks)] 1)) (hst (fun t_ kt_ => castTop (ef_ke mI ks) kt_) ?_)
  have Z1 := Nat.le_refl h0.size
  have K0 := Keep.refl h0 []
  show G (s₁.setTop (mkF mI 0 #[.val (.ref ks)] []))
  obtain ⟨T_1, h_1, X_1, e_1, E_1, A_1, D_1, -, st_1⟩ := newO X0 hx hZ hown (own_w251 hw) (own_w252 hw) (own_w253 hw) e0 (g := (mkF mI 0 #[.val (.ref ks)] [])) rfl (hb hby dke_0) (by decide) (by decide)
  obtain ⟨it, g_it⟩ : ∃ z, z = h0.size := ⟨_, rfl⟩
  rw [← g_it] at A_1 D_1 st_1
  have ne_ks_it : ks ≠ it := Nat.ne_of_lt (Nat.lt_of_lt_of_le F_this_0_ks.lt (Nat.le_of_eq g_it.symm))
  have ne_m_it : m ≠ it := Nat.ne_of_lt (Nat.lt_of_lt_of_le F_head_m.lt (Nat.le_of_eq g_it.symm))
  have le_n0_it : n0 ≤ it := Nat.le_trans Z0 (Nat.le_of_eq g_it.symm)
  have le_hh_it : h0.size ≤ it := Nat.le_trans Z1 (Nat.le_of_eq g_it.symm)
  have Z0 := Nat.le_trans Z0 E_1.1
  have Z1 := Nat.le_trans Z1 E_1.1
  have K0 := K0.ext E_1
  have F_this_0_ks := F_this_0_ks.ext E_1
  have F_reversed_ks := F_reversed_ks.ext E_1
  have F_head_m := F_head_m.ext E_1
  have F_modCount_m := F_modCount_m.ext E_1
  have E_it : Exa Z h_1 it "java/util/LinkedHashMap$LinkedKeyIterator" := A_1
  have F_this_0_it : Fld Z h_1 it "java/util/LinkedHashMap$LinkedHashIterator" "this$0" "Ljava/util/LinkedHashMap;" .null := D_1 (Or.inr (own_w265 hw)) (ty := (.object "java/util/LinkedHashMap")) (by decide)
  have F_reversed_it : Fld Z h_1 it "java/util/LinkedHashMap$LinkedHashIterator" "reversed" "Z" (.int (0 : Int32)) := D_1 (Or.inl (own_w268 hw)) (ty := .boolean) (by decide)
  have F_next_it : Fld Z h_1 it "java/util/LinkedHashMap$LinkedHashIterator" "next" "Ljava/util/LinkedHashMap$Entry;" .null := D_1 (Or.inl (own_w272 hw)) (ty := (.object "java/util/LinkedHashMap$Entry")) (by decide)
  have F_expectedModCount_it : Fld Z h_1 it "java/util/LinkedHashMap$LinkedHashIterator" "expectedModCount" "I" (.int (0 : Int32)) := D_1 (Or.inl (own_w277 hw)) (ty := .int) (by decide)
  have F_current_it : Fld Z h_1 it "java/util/LinkedHashMap$LinkedHashIterator" "current" "Ljava/util/LinkedHashMap$Entry;" .null := D_1 (Or.inl (own_w279 hw)) (ty := (.object "java/util/LinkedHashMap$Entry")) (by decide)
  refine hst st_1 ?_
  show G (T_1.setTop (mkF mI 3 #[.val (.ref ks)] [(.ref it)]))
  refine o_dup hst X_1.here hx (hb hby dke_3) (pc' := 4) rfl rfl ?_
  refine o_aloadN hst X_1.here hx (hb hby dke_4) (pc' := 5) rfl rfl rfl ?_
  obtain ⟨T_2, X_2, e_2, st_2⟩ := getF X_1 hx hZ hown (host := "") (Or.inl (own_w237 hw)) Via.refl e_1 F_this_0_ks (g := (mkF mI 5 #[.val (.ref ks)] [(.ref ks), (.ref it), (.ref it)])) rfl rfl (hb hby dke_5)
  refine hst st_2 ?_
  show G (T_2.setTop (mkF mI 8 #[.val (.ref ks)] [(.ref m), (.ref it), (.ref it)]))
  refine o_aloadN hst X_2.here hx (hb hby dke_8) (pc' := 9) rfl rfl rfl ?_
  obtain ⟨T_3, X_3, e_3, st_3⟩ := getF X_2 hx hZ hown (host := "") (Or.inl (own_w242 hw)) Via.refl e_2 F_reversed_ks (g := (mkF mI 9 #[.val (.ref ks)] [(.ref ks), (.ref m), (.ref it), (.ref it)])) rfl rfl (hb hby dke_9)
  refine hst st_3 ?_
  show G (T_3.setTop (mkF mI 12 #[.val (.ref ks)] [(.int (0 : Int32)), (.ref m), (.ref it), (.ref it)]))
  obtain ⟨_, _, ⟨T_4, L_4, k_4, n_4⟩, -, X_4, ⟨Lc_4, hQ_4, l_4, y_4, z_4⟩, st_4⟩ := X_3.specialBack hx (y := (⟨"java/util/LinkedHashMap$LinkedKeyIterator", "<init>", "(Ljava/util/LinkedHashMap;Z)V"⟩ : MethodName)) rfl hown (mvT hZ (own_w254 hw)) (mvT hZ (own_w255 hw)) (mvT hZ (own_w257 hw)) (by decide) (backOf (W := 1) (rmli lL Z a0 hw [] it m  h_1 n0 Z0 F_this_0_it F_reversed_it F_next_it F_expectedModCount_it F_current_it F_head_m F_modCount_m E_it le_n0_it ne_m_it) hZ (own_w257 hw) (own_w253 hw) (by decide) (by decide)) (g := (mkF mI 12 #[.val (.ref ks)] [(.int (0 : Int32)), (.ref m), (.ref it), (.ref it)])) rfl (by rw [hml]; rfl) (Steps.refl _) (a := it) (argsL := [(.ref m), (.int (0 : Int32))]) (rest := [(.ref it)]) (lenOf pd_8 rfl) rfl (by show 2 * 0 + _ ≤ _; exact Nat.le_of_eq rfl) (hb hby dke_12) (fun _ _ => ⟨rfl, e_3, (by decide : 1 + 0 ≤ _), (by decide : 5 + 0 ≤ _)⟩)
  dsimp only [Pt.U, Pt.locs, Pt.cells, Pt.slots] at X_4 l_4 y_4 z_4 st_4 hQ_4
  subst l_4 y_4 z_4
  obtain ⟨rfl, N_4q, K_4, G1⟩ := hQ_4
  have Z0 := Nat.le_trans Z0 K_4.1
  have Z1 := Nat.le_trans Z1 K_4.1
  have K0 := K0.trans K_4 (allS (Or.inr le_hh_it) all0)
  have F_this_0_ks := F_this_0_ks.keep K_4 (ninS ne_ks_it nin0)
  have F_reversed_ks := F_reversed_ks.keep K_4 (ninS ne_ks_it nin0)
  have F_head_m := F_head_m.keep K_4 (ninS ne_m_it nin0)
  have F_modCount_m := F_modCount_m.keep K_4 (ninS ne_m_it nin0)
  have E_it := E_it.keep K_4
  have N_4 := Fr.app N0 N_4q
  refine hst (fun _ kt => st_4.trans kt) ?_
  show G (T_4.setTop (mkF mI 15 #[.val (.ref ks)] [(.ref it)]))
  exact hend (own_goRet X_4 hx Bd.returns rfl (Or.inr (Or.inr (Or.inr (Or.inr ⟨rfl, rfl, rfl⟩)))) (hb hby dke_15) Bd.notSynchronized (by exact ⟨it, rfl, N_4, K0, E_it, G1⟩) (by decide) (by decide))
def own_Qsi (Z : State) (m : Addr) (h0 : Heap) (n0 : Nat) (v : Option Value) (h : Heap) (L : List Loc) : Prop := ∃ it ks : Addr, v = some (.ref it) ∧ Fr n0 L ∧ Keep h0 h [m] ∧ h0.size ≤ ks ∧ Exa Z h it "java/util/LinkedHashMap$LinkedKeyIterator" ∧ Fld Z h it "java/util/LinkedHashMap$LinkedHashIterator" "next" "Ljava/util/LinkedHashMap$Entry;" .null ∧ Fld Z h m "java/util/HashMap" "size" "I" (.int (0 : Int32)) ∧ Fld Z h m "java/util/AbstractMap" "keySet" "Ljava/util/Set;" (.ref ks) ∧ Fld Z h m "java/util/LinkedHashMap" "head" "Ljava/util/LinkedHashMap$Entry;" .null ∧ Fld Z h m "java/util/HashMap" "modCount" "I" (.int (0 : Int32)) ∧ Exa Z h ks "java/util/LinkedHashMap$LinkedKeySet" ∧ Fld Z h ks "java/util/LinkedHashMap$LinkedKeySet" "this$0" "Ljava/util/LinkedHashMap;" (.ref m) ∧ Fld Z h ks "java/util/LinkedHashMap$LinkedKeySet" "reversed" "Z" (.int (0 : Int32))
theorem dsi_0 : decode jdk_93_method_6_code 0 = .ok (.aload_n 0, 1) := by decide +kernel
theorem dsi_1 : decode jdk_93_method_6_code 1 = .ok (.getfield 10, 3) := by decide +kernel
theorem dsi_4 : decode jdk_93_method_6_code 4 = .ok (.invokevirtual 45, 3) := by decide +kernel
theorem dsi_7 : decode jdk_93_method_6_code 7 = .ok (.invokeinterface 49 1, 5) := by decide +kernel
theorem dsi_12 : decode jdk_93_method_6_code 12 = .ok (.areturn, 1) := by decide +kernel
theorem ef_si (mI : MethodId) (s : Addr) : entryFrame mI #[(.ref s)] 1 = mkF mI 0 #[.val (.ref s)] [] := by first | (simp [entryFrame, mkF, argsToLocals, Value.category]; done) | rfl
theorem pn_si : plainName "java/util/HashSet" = true := by first | decide +kernel | (simp [plainName, overriddenIn]; done)
set_option maxRecDepth 65536 in
set_option maxHeartbeats 40000000 in
theorem rmsi (lL : Launch) (Z : State) (a0 : Array Value) (hw : ∀ d ∈ tables_1, d.before a0 Z = true) (ws : List Jvm.Cond) (s : Addr) (m : Addr) (h0 : Heap) (n0 : Nat) (Z0 : n0 ≤ h0.size) (F_map_s : Fld Z h0 s "java/util/HashSet" "map" "Ljava/util/HashMap;" (.ref m)) (E_m : Exa Z h0 m "java/util/LinkedHashMap") (F_size_m : Fld Z h0 m "java/util/HashMap" "size" "I" (.int (0 : Int32))) (F_keySet_m : Fld Z h0 m "java/util/AbstractMap" "keySet" "Ljava/util/Set;" .null) (F_head_m : Fld Z h0 m "java/util/LinkedHashMap" "head" "Ljava/util/LinkedHashMap$Entry;" .null) (F_modCount_m : Fld Z h0 m "java/util/HashMap" "modCount" "I" (.int (0 : Int32))) (le_n0_m : n0 ≤ m) :
    MetFree lL (⟨"java/util/HashSet", "iterator", "()Ljava/util/Iterator;"⟩ : MethodName) (head1 (Jvm.Cond.code (⟨"java/util/HashSet", "iterator", "()Ljava/util/Iterator;"⟩ : MethodName) jdk_93_method_6_code 1 (some (.object "java/util/Iterator")) :: ws) ({ frames := 6, cells := 2, slots := 7, locals := 77 } : Room)) (fun a_ U_ => a_ = #[(.ref s)] ∧ Z.Warmed39 U_.vm ∧ U_.heap = h0) (fun _ _ _ _ _ => True) (fun _ U_ o_ W_ => ∃ v_ L_, o_ = .returned v_ ∧ own_Qsi Z m h0 n0 v_ W_.heap L_ ∧ FrameEnd U_ o_ W_ L_ ({ frames := 6, cells := 2, slots := 7, locals := 77 } : Room).cells ({ frames := 6, cells := 2, slots := 7, locals := 77 } : Room).slots) := by
  refine MetFree.of_bodySF (plainFor_of_name pn_si) hisR ?_
  intro pP eE sS mI args below meth cC s₁ Bd hml0 hP hK
  obtain ⟨rfl, hZ, hh⟩ := hP
  have hx := Bd.exec
  have hby := Bd.bytes
  have hml : cC.maxLocals = 1 := hml0
  have hown : sS.vm.findClass "java/util/HashSet" = some mI.cls := by have z := findClass_of_methodNamed Bd.named; exact z
  have hnm := (name_of_methodNamed Bd.named Bd.method).1
  have X0 : Stand pP lL eE ({ frames := 6, cells := 2, slots := 7, locals := 77 } : Room) sS mI #[(.ref s)] below meth cC s₁ [] 0 0 := Stand.of_body Bd
  have e0 : s₁.heap = h0 := by rw [← hh, Bd.state]; rfl
  have N0 := Fr.nil n0
  obtain ⟨G, hG, hst, hend⟩ := own_abs pP eE below sS (own_Qsi Z m h0 n0) ({ frames := 6, cells := 2, slots := 7, locals := 77 } : Room).cells ({ frames := 6, cells := 2, slots := 7, locals := 77 } : Room).slots
  refine hG (S := s₁.setTop (entryFrame mI #[(.ref s)] 1)) (hst (fun t_ kt_ => castTop (ef_si mI s) kt_) ?_)
  have Z1 := Nat.le_refl h0.size
  have K0 := Keep.refl h0 [m]
  show G (s₁.setTop (mkF mI 0 #[.val (.ref s)] []))
  refine o_aloadN hst X0.here hx (hb hby dsi_0) (pc' := 1) rfl rfl rfl ?_
  obtain ⟨T_1, X_1, e_1, st_1⟩ := getF X0 hx hZ hown (host := "") (Or.inl (own_w115 hw)) Via.refl e0 F_map_s (g := (mkF mI 1 #[.val (.ref s)] [(.ref s)])) rfl rfl (hb hby dsi_1)
  refine hst st_1 ?_
  show G (T_1.setTop (mkF mI 4 #[.val (.ref s)] [(.ref m)]))
  obtain ⟨cq_2, kq_2, q_2a, q_2b, q_2c⟩ := isOf hZ e_1 E_m
  obtain ⟨_, _, ⟨T_2, L_2, k_2, n_2⟩, -, X_2, ⟨Lc_2, hQ_2, l_2, y_2, z_2⟩, st_2⟩ := X_1.virtualBack hx (y := (⟨"java/util/HashMap", "keySet", "()Ljava/util/Set;"⟩ : MethodName)) (z := (⟨"java/util/LinkedHashMap", "keySet", "()Ljava/util/Set;"⟩ : MethodName)) hown (mvT hZ (own_w216 hw)) (mvT hZ (own_w217 hw)) (own_nf (y1 := (⟨"java/util/HashMap", "size", "()I"⟩ : MethodName)) (notFace_of_selects (args := #[]) (mvT hZ (own_w204 hw))) rfl (mvT (args := #[]) hZ (own_w203 hw))) (mvT hZ (own_w219 hw)) (mvT hZ (own_w220 hw)) (by decide) (backOf (W := 0) (rmkk lL Z a0 hw [] m  h0 n0 Z0 F_size_m F_keySet_m F_head_m F_modCount_m E_m le_n0_m) hZ (own_w221 hw) (own_w76 hw) (by decide) (by decide)) q_2a q_2c (g := (mkF mI 4 #[.val (.ref s)] [(.ref m)])) rfl (by rw [hml]; rfl) (Steps.refl _) (argsL := []) (rest := []) (lenOf pd_10 rfl) rfl (by show 2 * 0 + _ ≤ _; exact Nat.le_of_eq rfl) (hb hby dsi_4) (fun _ _ => ⟨rfl, e_1, (by decide : 0 + 1 ≤ _), (by decide : 0 + 2 ≤ _)⟩)
  dsimp only [Pt.U, Pt.locs, Pt.cells, Pt.slots] at X_2 l_2 y_2 z_2 st_2 hQ_2
  subst l_2 y_2 z_2
  obtain ⟨ks, rfl, N_2q, K_2, le_ks, GF_size_m, GF_keySet_m, GF_head_m, GF_modCount_m, GE_ks, GF_this_0_ks, GF_reversed_ks⟩ := hQ_2
  have le_hh_ks := Nat.le_trans Z1 le_ks
  have ne_m_ks : m ≠ ks := Nat.ne_of_lt (Nat.lt_of_lt_of_le E_m.lt le_ks)
  have Z0 := Nat.le_trans Z0 K_2.1
  have Z1 := Nat.le_trans Z1 K_2.1
  have K0 := K0.trans K_2 (allS (Or.inl (List.mem_of_getElem? (i := 0) rfl)) all0)
  have E_m := E_m.keep K_2
  have F_size_m := GF_size_m
  have F_keySet_m := GF_keySet_m
  have F_head_m := GF_head_m
  have F_modCount_m := GF_modCount_m
  have E_ks := GE_ks
  have F_this_0_ks := GF_this_0_ks
  have F_reversed_ks := GF_reversed_ks
  have N_2 := Fr.app N0 N_2q
  refine hst (fun _ kt => st_2.trans kt) ?_
  show G (T_2.setTop (mkF mI 7 #[.val (.ref s)] [(.ref ks)]))
  obtain ⟨cq_3, kq_3, q_3a, q_3b, q_3c⟩ := isOf hZ rfl E_ks
  obtain ⟨_, _, ⟨T_3, L_3, k_3, n_3⟩, -, X_3, ⟨Lc_3, hQ_3, l_3, y_3, z_3⟩, st_3⟩ := X_2.interfaceBack hx (xi := (⟨"java/util/Set", "iterator", "()Ljava/util/Iterator;"⟩ : MethodName)) (y := (⟨"java/util/LinkedHashMap$LinkedKeySet", "iterator", "()Ljava/util/Iterator;"⟩ : MethodName)) hown (mvT hZ (own_w244 hw)) (mvT hZ (own_w209 hw)) (mvT hZ (own_w210 hw)) (mvT hZ (own_w245 hw)) (mvT hZ (own_w246 hw)) (mvT hZ (own_w247 hw)) (mvT hZ (own_w248 hw)) (mvT hZ (own_w249 hw)) (by decide) (backOf (W := 0) (rmke lL Z a0 hw [] ks m T_2.heap n0 Z0 F_this_0_ks F_reversed_ks F_head_m F_modCount_m) hZ (own_w250 hw) (own_w232 hw) (by decide) (by decide)) q_3a q_3b q_3c (g := (mkF mI 7 #[.val (.ref s)] [(.ref ks)])) rfl (by rw [hml]; rfl) (Steps.refl _) (argsL := []) (rest := []) (lenOf pd_11 rfl) rfl (by show 2 * 0 + _ ≤ _; exact Nat.le_of_eq rfl) (hb hby dsi_7) (fun _ _ => ⟨rfl, rfl, (by decide : 1 + 1 ≤ _), (by decide : 2 + 5 ≤ _)⟩)
  dsimp only [Pt.U, Pt.locs, Pt.cells, Pt.slots] at X_3 l_3 y_3 z_3 st_3 hQ_3
  subst l_3 y_3 z_3
  obtain ⟨it, rfl, N_3q, K_3, E_it, F_next_it⟩ := hQ_3
  have Z0 := Nat.le_trans Z0 K_3.1
  have Z1 := Nat.le_trans Z1 K_3.1
  have K0 := K0.trans K_3 all0
  have E_m := E_m.keep K_3
  have F_size_m := F_size_m.keep K_3 nin0
  have F_keySet_m := F_keySet_m.keep K_3 nin0
  have F_head_m := F_head_m.keep K_3 nin0
  have F_modCount_m := F_modCount_m.keep K_3 nin0
  have E_ks := E_ks.keep K_3
  have F_this_0_ks := F_this_0_ks.keep K_3 nin0
  have F_reversed_ks := F_reversed_ks.keep K_3 nin0
  have N_3 := Fr.app N_2 N_3q
  refine hst (fun _ kt => st_3.trans kt) ?_
  show G (T_3.setTop (mkF mI 12 #[.val (.ref s)] [(.ref it)]))
  exact hend (own_goRet X_3 hx Bd.returns rfl (Or.inr (Or.inr (Or.inr (Or.inr ⟨rfl, rfl, rfl⟩)))) (hb hby dsi_12) Bd.notSynchronized (by exact ⟨it, ks, rfl, N_3, K0, le_hh_ks, E_it, F_next_it, F_size_m, F_keySet_m, F_head_m, F_modCount_m, E_ks, F_this_0_ks, F_reversed_ks⟩) (by decide) (by decide))
theorem dsq_0 : decode jdk_94_method_25_code 0 = .ok (.aload_n 0, 1) := by decide +kernel
theorem dsq_1 : decode jdk_94_method_25_code 1 = .ok (.getfield 117, 3) := by decide +kernel
theorem dsq_4 : decode jdk_94_method_25_code 4 = .ok (.astore_n 1, 1) := by decide +kernel
theorem dsq_5 : decode jdk_94_method_25_code 5 = .ok (.aload_n 1, 1) := by decide +kernel
theorem dsq_6 : decode jdk_94_method_25_code 6 = .ok (.ifnonnull 20, 3) := by decide +kernel
theorem dsq_26 : decode jdk_94_method_25_code 26 = .ok (.aload_n 1, 1) := by decide +kernel
theorem dsq_27 : decode jdk_94_method_25_code 27 = .ok (.checkcast 126, 3) := by decide +kernel
theorem dsq_30 : decode jdk_94_method_25_code 30 = .ok (.areturn, 1) := by decide +kernel
theorem ef_sq (mI : MethodId) (m : Addr) : entryFrame mI #[(.ref m)] 3 = mkF mI 0 #[.val (.ref m), .unset, .unset] [] := by first | (simp [entryFrame, mkF, argsToLocals, Value.category]; done) | rfl
theorem pn_sq : plainName "java/util/LinkedHashMap" = true := by first | decide +kernel | (simp [plainName, overriddenIn]; done)
set_option maxRecDepth 65536 in
set_option maxHeartbeats 40000000 in
theorem rmsq (lL : Launch) (Z : State) (a0 : Array Value) (hw : ∀ d ∈ tables_1, d.before a0 Z = true) (ws : List Jvm.Cond) (m : Addr) (ks : Addr) (h0 : Heap) (n0 : Nat) (Z0 : n0 ≤ h0.size) (F_keySet_m : Fld Z h0 m "java/util/AbstractMap" "keySet" "Ljava/util/Set;" (.ref ks)) (E_ks : Exa Z h0 ks "java/util/LinkedHashMap$LinkedKeySet") :
    MetFree lL (⟨"java/util/LinkedHashMap", "sequencedKeySet", "()Ljava/util/SequencedSet;"⟩ : MethodName) (head1 (Jvm.Cond.code (⟨"java/util/LinkedHashMap", "sequencedKeySet", "()Ljava/util/SequencedSet;"⟩ : MethodName) jdk_94_method_25_code 3 (some (.object "java/util/SequencedSet")) :: ws) ({ frames := 0, cells := 0, slots := 0, locals := 0 } : Room)) (fun a_ U_ => a_ = #[(.ref m)] ∧ Z.Warmed39 U_.vm ∧ U_.heap = h0) (fun _ _ _ _ _ => True) (fun _ U_ o_ W_ => ∃ v_ L_, o_ = .returned v_ ∧ own_QR (.ref ks) h0 n0 v_ W_.heap L_ ∧ FrameEnd U_ o_ W_ L_ ({ frames := 0, cells := 0, slots := 0, locals := 0 } : Room).cells ({ frames := 0, cells := 0, slots := 0, locals := 0 } : Room).slots) := by
  refine MetFree.of_bodySF (plainFor_of_name pn_sq) hisR ?_
  intro pP eE sS mI args below meth cC s₁ Bd hml0 hP hK
  obtain ⟨rfl, hZ, hh⟩ := hP
  have hx := Bd.exec
  have hby := Bd.bytes
  have hml : cC.maxLocals = 3 := hml0
  have hown : sS.vm.findClass "java/util/LinkedHashMap" = some mI.cls := by have z := findClass_of_methodNamed Bd.named; exact z
  have hnm := (name_of_methodNamed Bd.named Bd.method).1
  have X0 : Stand pP lL eE ({ frames := 0, cells := 0, slots := 0, locals := 0 } : Room) sS mI #[(.ref m)] below meth cC s₁ [] 0 0 := Stand.of_body Bd
  have e0 : s₁.heap = h0 := by rw [← hh, Bd.state]; rfl
  have N0 := Fr.nil n0
  obtain ⟨G, hG, hst, hend⟩ := own_abs pP eE below sS (own_QR (.ref ks) h0 n0) ({ frames := 0, cells := 0, slots := 0, locals := 0 } : Room).cells ({ frames := 0, cells := 0, slots := 0, locals := 0 } : Room).slots
  refine hG (S := s₁.setTop (entryFrame mI #[(.ref m)] 3)) (hst (fun t_ kt_ => castTop (ef_sq mI m) kt_) ?_)
  show G (s₁.setTop (mkF mI 0 #[.val (.ref m), .unset, .unset] []))
  refine o_aloadN hst X0.here hx (hb hby dsq_0) (pc' := 1) rfl rfl rfl ?_
  obtain ⟨T_1, X_1, e_1, st_1⟩ := getF X0 hx hZ hown (host := "") (Or.inl (own_w227 hw)) (Via.of (own_w228 hw)) e0 F_keySet_m (g := (mkF mI 1 #[.val (.ref m), .unset, .unset] [(.ref m)])) rfl rfl (hb hby dsq_1)
  refine hst st_1 ?_
  show G (T_1.setTop (mkF mI 4 #[.val (.ref m), .unset, .unset] [(.ref ks)]))
  refine o_astoreN hst X_1.here hx (hb hby dsq_4) (pc' := 5) rfl (Lt := #[.val (.ref m), .val (.ref ks), .unset]) rfl rfl ?_
  refine o_aloadN hst X_1.here hx (hb hby dsq_5) (pc' := 6) rfl rfl rfl ?_
  refine hst (fun _ kt => XS.ifnonnullYes X_1.here hx rfl (pc0 := 6) (pc' := 26) rfl (hb hby dsq_6) rfl (by decide) (by decide) kt) ?_
  show G (T_1.setTop (mkF mI 26 #[.val (.ref m), .val (.ref ks), .unset] []))
  refine o_aloadN hst X_1.here hx (hb hby dsq_26) (pc' := 27) rfl rfl rfl ?_
  obtain ⟨T_2, X_2, e_2, st_2⟩ := castY X_1 hx hZ hown (own_w311 hw) e_1 (Ins.of_exa E_ks (own_w312 hw)) (g := (mkF mI 27 #[.val (.ref m), .val (.ref ks), .unset] [(.ref ks)])) rfl rfl (hb hby dsq_27)
  refine hst st_2 ?_
  show G (T_2.setTop (mkF mI 30 #[.val (.ref m), .val (.ref ks), .unset] [(.ref ks)]))
  exact hend (own_goRet X_2 hx Bd.returns rfl (Or.inr (Or.inr (Or.inr (Or.inr ⟨rfl, rfl, rfl⟩)))) (hb hby dsq_30) Bd.notSynchronized (by rw [e_2]; exact ⟨rfl, N0, rfl⟩) (by decide) (by decide))
theorem dkq_0 : decode jdk_94_method_24_code 0 = .ok (.aload_n 0, 1) := by decide +kernel
theorem dkq_1 : decode jdk_94_method_24_code 1 = .ok (.invokevirtual 113, 3) := by decide +kernel
theorem dkq_4 : decode jdk_94_method_24_code 4 = .ok (.areturn, 1) := by decide +kernel
theorem ef_kq (mI : MethodId) (m : Addr) : entryFrame mI #[(.ref m)] 1 = mkF mI 0 #[.val (.ref m)] [] := by first | (simp [entryFrame, mkF, argsToLocals, Value.category]; done) | rfl
theorem pn_kq : plainName "java/util/LinkedHashMap" = true := by first | decide +kernel | (simp [plainName, overriddenIn]; done)
set_option maxRecDepth 65536 in
set_option maxHeartbeats 40000000 in
theorem rmkq (lL : Launch) (Z : State) (a0 : Array Value) (hw : ∀ d ∈ tables_1, d.before a0 Z = true) (ws : List Jvm.Cond) (m : Addr) (ks : Addr) (h0 : Heap) (n0 : Nat) (Z0 : n0 ≤ h0.size) (F_keySet_m : Fld Z h0 m "java/util/AbstractMap" "keySet" "Ljava/util/Set;" (.ref ks)) (E_ks : Exa Z h0 ks "java/util/LinkedHashMap$LinkedKeySet") (E_m : Exa Z h0 m "java/util/LinkedHashMap") :
    MetFree lL (⟨"java/util/LinkedHashMap", "keySet", "()Ljava/util/Set;"⟩ : MethodName) (head1 (Jvm.Cond.code (⟨"java/util/LinkedHashMap", "keySet", "()Ljava/util/Set;"⟩ : MethodName) jdk_94_method_24_code 1 (some (.object "java/util/Set")) :: ws) ({ frames := 1, cells := 0, slots := 0, locals := 14 } : Room)) (fun a_ U_ => a_ = #[(.ref m)] ∧ Z.Warmed39 U_.vm ∧ U_.heap = h0) (fun _ _ _ _ _ => True) (fun _ U_ o_ W_ => ∃ v_ L_, o_ = .returned v_ ∧ own_QR (.ref ks) h0 n0 v_ W_.heap L_ ∧ FrameEnd U_ o_ W_ L_ ({ frames := 1, cells := 0, slots := 0, locals := 14 } : Room).cells ({ frames := 1, cells := 0, slots := 0, locals := 14 } : Room).slots) := by
  refine MetFree.of_bodySF (plainFor_of_name pn_kq) hisR ?_
  intro pP eE sS mI args below meth cC s₁ Bd hml0 hP hK
  obtain ⟨rfl, hZ, hh⟩ := hP
  have hx := Bd.exec
  have hby := Bd.bytes
  have hml : cC.maxLocals = 1 := hml0
  have hown : sS.vm.findClass "java/util/LinkedHashMap" = some mI.cls := by have z := findClass_of_methodNamed Bd.named; exact z
  have hnm := (name_of_methodNamed Bd.named Bd.method).1
  have X0 : Stand pP lL eE ({ frames := 1, cells := 0, slots := 0, locals := 14 } : Room) sS mI #[(.ref m)] below meth cC s₁ [] 0 0 := Stand.of_body Bd
  have e0 : s₁.heap = h0 := by rw [← hh, Bd.state]; rfl
  have N0 := Fr.nil n0
  obtain ⟨G, hG, hst, hend⟩ := own_abs pP eE below sS (own_QR (.ref ks) h0 n0) ({ frames := 1, cells := 0, slots := 0, locals := 14 } : Room).cells ({ frames := 1, cells := 0, slots := 0, locals := 14 } : Room).slots
  refine hG (S := s₁.setTop (entryFrame mI #[(.ref m)] 1)) (hst (fun t_ kt_ => castTop (ef_kq mI m) kt_) ?_)
  show G (s₁.setTop (mkF mI 0 #[.val (.ref m)] []))
  refine o_aloadN hst X0.here hx (hb hby dkq_0) (pc' := 1) rfl rfl rfl ?_
  obtain ⟨cq_1, kq_1, q_1a, q_1b, q_1c⟩ := isOf hZ e0 E_m
  obtain ⟨_, _, ⟨T_1, L_1, k_1, n_1⟩, -, X_1, ⟨Lc_1, hQ_1, l_1, y_1, z_1⟩, st_1⟩ := X0.virtualBack hx (y := (⟨"java/util/LinkedHashMap", "sequencedKeySet", "()Ljava/util/SequencedSet;"⟩ : MethodName)) (z := (⟨"java/util/LinkedHashMap", "sequencedKeySet", "()Ljava/util/SequencedSet;"⟩ : MethodName)) hown (mvT hZ (own_w222 hw)) (mvT hZ (own_w223 hw)) (notFace_of_selects (args := #[]) (mvT hZ (own_w225 hw))) (mvT hZ (own_w225 hw)) (mvT hZ (own_w224 hw)) (by decide) (backOf (W := 0) (rmsq lL Z a0 hw [] m ks h0 n0 Z0 F_keySet_m E_ks) hZ (own_w226 hw) (own_w76 hw) (by decide) (by decide)) q_1a q_1c (g := (mkF mI 1 #[.val (.ref m)] [(.ref m)])) rfl (by rw [hml]; rfl) (Steps.refl _) (argsL := []) (rest := []) (lenOf pd_9 rfl) rfl (by show 2 * 0 + _ ≤ _; exact Nat.le_of_eq rfl) (hb hby dkq_1) (fun _ _ => ⟨rfl, e0, (by decide : 0 + 0 ≤ _), (by decide : 0 + 0 ≤ _)⟩)
  dsimp only [Pt.U, Pt.locs, Pt.cells, Pt.slots] at X_1 l_1 y_1 z_1 st_1 hQ_1
  subst l_1 y_1 z_1
  obtain ⟨rfl, N_1q, eh_1⟩ := hQ_1
  have N_1 := Fr.app N0 N_1q
  refine hst (fun _ kt => st_1.trans kt) ?_
  show G (T_1.setTop (mkF mI 4 #[.val (.ref m)] [(.ref ks)]))
  exact hend (own_goRet X_1 hx Bd.returns rfl (Or.inr (Or.inr (Or.inr (Or.inr ⟨rfl, rfl, rfl⟩)))) (hb hby dkq_4) Bd.notSynchronized (by rw [eh_1]; exact ⟨rfl, N_1, rfl⟩) (by decide) (by decide))
theorem dsj_0 : decode jdk_93_method_6_code 0 = .ok (.aload_n 0, 1) := by decide +kernel
theorem dsj_1 : decode jdk_93_method_6_code 1 = .ok (.getfield 10, 3) := by decide +kernel
theorem dsj_4 : decode jdk_93_method_6_code 4 = .ok (.invokevirtual 45, 3) := by decide +kernel
theorem dsj_7 : decode jdk_93_method_6_code 7 = .ok (.invokeinterface 49 1, 5) := by decide +kernel
theorem dsj_12 : decode jdk_93_method_6_code 12 = .ok (.areturn, 1) := by decide +kernel
theorem ef_sj (mI : MethodId) (s : Addr) : entryFrame mI #[(.ref s)] 1 = mkF mI 0 #[.val (.ref s)] [] := by first | (simp [entryFrame, mkF, argsToLocals, Value.category]; done) | rfl
theorem pn_sj : plainName "java/util/HashSet" = true := by first | decide +kernel | (simp [plainName, overriddenIn]; done)
set_option maxRecDepth 65536 in
set_option maxHeartbeats 40000000 in
theorem rmsj (lL : Launch) (Z : State) (a0 : Array Value) (hw : ∀ d ∈ tables_1, d.before a0 Z = true) (ws : List Jvm.Cond) (s : Addr) (m : Addr) (ks : Addr) (h0 : Heap) (n0 : Nat) (Z0 : n0 ≤ h0.size) (F_map_s : Fld Z h0 s "java/util/HashSet" "map" "Ljava/util/HashMap;" (.ref m)) (E_m : Exa Z h0 m "java/util/LinkedHashMap") (F_size_m : Fld Z h0 m "java/util/HashMap" "size" "I" (.int (0 : Int32))) (F_keySet_m : Fld Z h0 m "java/util/AbstractMap" "keySet" "Ljava/util/Set;" (.ref ks)) (F_head_m : Fld Z h0 m "java/util/LinkedHashMap" "head" "Ljava/util/LinkedHashMap$Entry;" .null) (F_modCount_m : Fld Z h0 m "java/util/HashMap" "modCount" "I" (.int (0 : Int32))) (E_ks : Exa Z h0 ks "java/util/LinkedHashMap$LinkedKeySet") (F_this_0_ks : Fld Z h0 ks "java/util/LinkedHashMap$LinkedKeySet" "this$0" "Ljava/util/LinkedHashMap;" (.ref m)) (F_reversed_ks : Fld Z h0 ks "java/util/LinkedHashMap$LinkedKeySet" "reversed" "Z" (.int (0 : Int32))) (le_n0_m : n0 ≤ m) :
    MetFree lL (⟨"java/util/HashSet", "iterator", "()Ljava/util/Iterator;"⟩ : MethodName) (head1 (Jvm.Cond.code (⟨"java/util/HashSet", "iterator", "()Ljava/util/Iterator;"⟩ : MethodName) jdk_93_method_6_code 1 (some (.object "java/util/Iterator")) :: ws) ({ frames := 4, cells := 1, slots := 5, locals := 53 } : Room)) (fun a_ U_ => a_ = #[(.ref s)] ∧ Z.Warmed39 U_.vm ∧ U_.heap = h0) (fun _ _ _ _ _ => True) (fun _ U_ o_ W_ => ∃ v_ L_, o_ = .returned v_ ∧ own_Qke Z h0 n0 v_ W_.heap L_ ∧ FrameEnd U_ o_ W_ L_ ({ frames := 4, cells := 1, slots := 5, locals := 53 } : Room).cells ({ frames := 4, cells := 1, slots := 5, locals := 53 } : Room).slots) := by
  refine MetFree.of_bodySF (plainFor_of_name pn_sj) hisR ?_
  intro pP eE sS mI args below meth cC s₁ Bd hml0 hP hK
  obtain ⟨rfl, hZ, hh⟩ := hP
  have hx := Bd.exec
  have hby := Bd.bytes
  have hml : cC.maxLocals = 1 := hml0
  have hown : sS.vm.findClass "java/util/HashSet" = some mI.cls := by have z := findClass_of_methodNamed Bd.named; exact z
  have hnm := (name_of_methodNamed Bd.named Bd.method).1
  have X0 : Stand pP lL eE ({ frames := 4, cells := 1, slots := 5, locals := 53 } : Room) sS mI #[(.ref s)] below meth cC s₁ [] 0 0 := Stand.of_body Bd
  have e0 : s₁.heap = h0 := by rw [← hh, Bd.state]; rfl
  have N0 := Fr.nil n0
  obtain ⟨G, hG, hst, hend⟩ := own_abs pP eE below sS (own_Qke Z h0 n0) ({ frames := 4, cells := 1, slots := 5, locals := 53 } : Room).cells ({ frames := 4, cells := 1, slots := 5, locals := 53 } : Room).slots
  refine hG (S := s₁.setTop (entryFrame mI #[(.ref s)] 1)) (hst (fun t_ kt_ => castTop (ef_sj mI s) kt_) ?_)
  have Z1 := Nat.le_refl h0.size
  have K0 := Keep.refl h0 []
  show G (s₁.setTop (mkF mI 0 #[.val (.ref s)] []))
  refine o_aloadN hst X0.here hx (hb hby dsj_0) (pc' := 1) rfl rfl rfl ?_
  obtain ⟨T_1, X_1, e_1, st_1⟩ := getF X0 hx hZ hown (host := "") (Or.inl (own_w115 hw)) Via.refl e0 F_map_s (g := (mkF mI 1 #[.val (.ref s)] [(.ref s)])) rfl rfl (hb hby dsj_1)
  refine hst st_1 ?_
  show G (T_1.setTop (mkF mI 4 #[.val (.ref s)] [(.ref m)]))
  obtain ⟨cq_2, kq_2, q_2a, q_2b, q_2c⟩ := isOf hZ e_1 E_m
  obtain ⟨_, _, ⟨T_2, L_2, k_2, n_2⟩, -, X_2, ⟨Lc_2, hQ_2, l_2, y_2, z_2⟩, st_2⟩ := X_1.virtualBack hx (y := (⟨"java/util/HashMap", "keySet", "()Ljava/util/Set;"⟩ : MethodName)) (z := (⟨"java/util/LinkedHashMap", "keySet", "()Ljava/util/Set;"⟩ : MethodName)) hown (mvT hZ (own_w216 hw)) (mvT hZ (own_w217 hw)) (own_nf (y1 := (⟨"java/util/HashMap", "size", "()I"⟩ : MethodName)) (notFace_of_selects (args := #[]) (mvT hZ (own_w204 hw))) rfl (mvT (args := #[]) hZ (own_w203 hw))) (mvT hZ (own_w219 hw)) (mvT hZ (own_w220 hw)) (by decide) (backOf (W := 0) (rmkq lL Z a0 hw [] m ks h0 n0 Z0 F_keySet_m E_ks E_m) hZ (own_w221 hw) (own_w76 hw) (by decide) (by decide)) q_2a q_2c (g := (mkF mI 4 #[.val (.ref s)] [(.ref m)])) rfl (by rw [hml]; rfl) (Steps.refl _) (argsL := []) (rest := []) (lenOf pd_10 rfl) rfl (by show 2 * 0 + _ ≤ _; exact Nat.le_of_eq rfl) (hb hby dsj_4) (fun _ _ => ⟨rfl, e_1, (by decide : 0 + 0 ≤ _), (by decide : 0 + 0 ≤ _)⟩)
  dsimp only [Pt.U, Pt.locs, Pt.cells, Pt.slots] at X_2 l_2 y_2 z_2 st_2 hQ_2
  subst l_2 y_2 z_2
  obtain ⟨rfl, N_2q, eh_2⟩ := hQ_2
  have N_2 := Fr.app N0 N_2q
  refine hst (fun _ kt => st_2.trans kt) ?_
  show G (T_2.setTop (mkF mI 7 #[.val (.ref s)] [(.ref ks)]))
  obtain ⟨cq_3, kq_3, q_3a, q_3b, q_3c⟩ := isOf hZ eh_2 E_ks
  obtain ⟨_, _, ⟨T_3, L_3, k_3, n_3⟩, -, X_3, ⟨Lc_3, hQ_3, l_3, y_3, z_3⟩, st_3⟩ := X_2.interfaceBack hx (xi := (⟨"java/util/Set", "iterator", "()Ljava/util/Iterator;"⟩ : MethodName)) (y := (⟨"java/util/LinkedHashMap$LinkedKeySet", "iterator", "()Ljava/util/Iterator;"⟩ : MethodName)) hown (mvT hZ (own_w244 hw)) (mvT hZ (own_w209 hw)) (mvT hZ (own_w210 hw)) (mvT hZ (own_w245 hw)) (mvT hZ (own_w246 hw)) (mvT hZ (own_w247 hw)) (mvT hZ (own_w248 hw)) (mvT hZ (own_w249 hw)) (by decide) (backOf (W := 0) (rmke lL Z a0 hw [] ks m h0 n0 Z0 F_this_0_ks F_reversed_ks F_head_m F_modCount_m) hZ (own_w250 hw) (own_w232 hw) (by decide) (by decide)) q_3a q_3b q_3c (g := (mkF mI 7 #[.val (.ref s)] [(.ref ks)])) rfl (by rw [hml]; rfl) (Steps.refl _) (argsL := []) (rest := []) (lenOf pd_11 rfl) rfl (by show 2 * 0 + _ ≤ _; exact Nat.le_of_eq rfl) (hb hby dsj_7) (fun _ _ => ⟨rfl, eh_2, (by decide : 0 + 1 ≤ _), (by decide : 0 + 5 ≤ _)⟩)
  dsimp only [Pt.U, Pt.locs, Pt.cells, Pt.slots] at X_3 l_3 y_3 z_3 st_3 hQ_3
  subst l_3 y_3 z_3
  obtain ⟨it, rfl, N_3q, K_3, E_it, F_next_it⟩ := hQ_3
  have Z0 := Nat.le_trans Z0 K_3.1
  have Z1 := Nat.le_trans Z1 K_3.1
  have K0 := K0.trans K_3 all0
  have F_map_s := F_map_s.keep K_3 nin0
  have E_m := E_m.keep K_3
  have F_size_m := F_size_m.keep K_3 nin0
  have F_keySet_m := F_keySet_m.keep K_3 nin0
  have F_head_m := F_head_m.keep K_3 nin0
  have F_modCount_m := F_modCount_m.keep K_3 nin0
  have E_ks := E_ks.keep K_3
  have F_this_0_ks := F_this_0_ks.keep K_3 nin0
  have F_reversed_ks := F_reversed_ks.keep K_3 nin0
  have N_3 := Fr.app N_2 N_3q
  refine hst (fun _ kt => st_3.trans kt) ?_
  show G (T_3.setTop (mkF mI 12 #[.val (.ref s)] [(.ref it)]))
  exact hend (own_goRet X_3 hx Bd.returns rfl (Or.inr (Or.inr (Or.inr (Or.inr ⟨rfl, rfl, rfl⟩)))) (hb hby dsj_12) Bd.notSynchronized (by exact ⟨it, rfl, N_3, K0, E_it, F_next_it⟩) (by decide) (by decide))
theorem dhn_0 : decode jdk_2616_method_2_code 0 = .ok (.aload_n 0, 1) := by decide +kernel
theorem dhn_1 : decode jdk_2616_method_2_code 1 = .ok (.getfield 26, 3) := by decide +kernel
theorem dhn_4 : decode jdk_2616_method_2_code 4 = .ok (.ifnull 7, 3) := by decide +kernel
theorem dhn_11 : decode jdk_2616_method_2_code 11 = .ok (.iconst 0, 1) := by decide +kernel
theorem dhn_12 : decode jdk_2616_method_2_code 12 = .ok (.ireturn, 1) := by decide +kernel
theorem ef_hn (mI : MethodId) (it : Addr) : entryFrame mI #[(.ref it)] 1 = mkF mI 0 #[.val (.ref it)] [] := by first | (simp [entryFrame, mkF, argsToLocals, Value.category]; done) | rfl
theorem pn_hn : plainName "java/util/LinkedHashMap$LinkedHashIterator" = true := by first | decide +kernel | (simp [plainName, overriddenIn]; done)
set_option maxRecDepth 65536 in
set_option maxHeartbeats 40000000 in
theorem rmhn (lL : Launch) (Z : State) (a0 : Array Value) (hw : ∀ d ∈ tables_1, d.before a0 Z = true) (ws : List Jvm.Cond) (it : Addr) (h0 : Heap) (n0 : Nat) (Z0 : n0 ≤ h0.size) (F_next_it : Fld Z h0 it "java/util/LinkedHashMap$LinkedHashIterator" "next" "Ljava/util/LinkedHashMap$Entry;" .null) :
    MetFree lL (⟨"java/util/LinkedHashMap$LinkedHashIterator", "hasNext", "()Z"⟩ : MethodName) (head1 (Jvm.Cond.code (⟨"java/util/LinkedHashMap$LinkedHashIterator", "hasNext", "()Z"⟩ : MethodName) jdk_2616_method_2_code 1 (some .boolean) :: ws) ({ frames := 0, cells := 0, slots := 0, locals := 0 } : Room)) (fun a_ U_ => a_ = #[(.ref it)] ∧ Z.Warmed39 U_.vm ∧ U_.heap = h0) (fun _ _ _ _ _ => True) (fun _ U_ o_ W_ => ∃ v_ L_, o_ = .returned v_ ∧ own_QI (0 : Int32) h0 n0 v_ W_.heap L_ ∧ FrameEnd U_ o_ W_ L_ ({ frames := 0, cells := 0, slots := 0, locals := 0 } : Room).cells ({ frames := 0, cells := 0, slots := 0, locals := 0 } : Room).slots) := by
  refine MetFree.of_bodySF (plainFor_of_name pn_hn) hisR ?_
  intro pP eE sS mI args below meth cC s₁ Bd hml0 hP hK
  obtain ⟨rfl, hZ, hh⟩ := hP
  have hx := Bd.exec
  have hby := Bd.bytes
  have hml : cC.maxLocals = 1 := hml0
  have hown : sS.vm.findClass "java/util/LinkedHashMap$LinkedHashIterator" = some mI.cls := by have z := findClass_of_methodNamed Bd.named; exact z
  have hnm := (name_of_methodNamed Bd.named Bd.method).1
  have X0 : Stand pP lL eE ({ frames := 0, cells := 0, slots := 0, locals := 0 } : Room) sS mI #[(.ref it)] below meth cC s₁ [] 0 0 := Stand.of_body Bd
  have e0 : s₁.heap = h0 := by rw [← hh, Bd.state]; rfl
  have N0 := Fr.nil n0
  obtain ⟨G, hG, hst, hend⟩ := own_abs pP eE below sS (own_QI (0 : Int32) h0 n0) ({ frames := 0, cells := 0, slots := 0, locals := 0 } : Room).cells ({ frames := 0, cells := 0, slots := 0, locals := 0 } : Room).slots
  refine hG (S := s₁.setTop (entryFrame mI #[(.ref it)] 1)) (hst (fun t_ kt_ => castTop (ef_hn mI it) kt_) ?_)
  show G (s₁.setTop (mkF mI 0 #[.val (.ref it)] []))
  refine o_aloadN hst X0.here hx (hb hby dhn_0) (pc' := 1) rfl rfl rfl ?_
  obtain ⟨T_1, X_1, e_1, st_1⟩ := getF X0 hx hZ hown (host := "") (Or.inl (own_w271 hw)) Via.refl e0 F_next_it (g := (mkF mI 1 #[.val (.ref it)] [(.ref it)])) rfl rfl (hb hby dhn_1)
  refine hst st_1 ?_
  show G (T_1.setTop (mkF mI 4 #[.val (.ref it)] [.null]))
  refine hst (fun _ kt => XS.ifnullYes X_1.here hx rfl (pc0 := 4) (pc' := 11) rfl (hb hby dhn_4) rfl (by decide) (by decide) kt) ?_
  show G (T_1.setTop (mkF mI 11 #[.val (.ref it)] []))
  refine o_iconst hst X_1.here hx (hb hby dhn_11) (pc' := 12) rfl (z := (0 : Int32)) rfl ?_
  exact hend (own_goRet X_1 hx Bd.returns rfl (Or.inl ⟨rfl, by simp, _, rfl⟩) (hb hby dhn_12) Bd.notSynchronized (by rw [e_1]; exact ⟨rfl, N0, rfl⟩) (by decide) (by decide))
theorem dmb_0 : decode prog_20_method_1_code 0 = .ok (.aload_n 0, 1) := by decide +kernel
theorem dmb_1 : decode prog_20_method_1_code 1 = .ok (.invokespecial 1, 3) := by decide +kernel
theorem dmb_4 : decode prog_20_method_1_code 4 = .ok (.aload_n 0, 1) := by decide +kernel
theorem dmb_5 : decode prog_20_method_1_code 5 = .ok (.aload_n 1, 1) := by decide +kernel
theorem dmb_6 : decode prog_20_method_1_code 6 = .ok (.putfield 7, 3) := by decide +kernel
theorem dmb_9 : decode prog_20_method_1_code 9 = .ok (.aload_n 0, 1) := by decide +kernel
theorem dmb_10 : decode prog_20_method_1_code 10 = .ok (.aload_n 2, 1) := by decide +kernel
theorem dmb_11 : decode prog_20_method_1_code 11 = .ok (.putfield 13, 3) := by decide +kernel
theorem dmb_14 : decode prog_20_method_1_code 14 = .ok (.return_, 1) := by decide +kernel
theorem ef_mb (mI : MethodId) (a : Addr) (b1 : Addr) (b2 : Addr) : entryFrame mI #[(.ref a), (.ref b1), (.ref b2)] 3 = mkF mI 0 #[.val (.ref a), .val (.ref b1), .val (.ref b2)] [] := by first | (simp [entryFrame, mkF, argsToLocals, Value.category]; done) | rfl
theorem pn_mb : plainName own_MB = true := by first | decide +kernel | (simp [plainName, overriddenIn]; done)
set_option maxRecDepth 65536 in
set_option maxHeartbeats 40000000 in
theorem rmmb (lL : Launch) (Z : State) (a0 : Array Value) (hw : ∀ d ∈ tables_1, d.before a0 Z = true) (ws : List Jvm.Cond) (a : Addr) (b1 : Addr) (b2 : Addr) (h0 : Heap) (n0 : Nat) (Z0 : n0 ≤ h0.size) (F_triples_a : Fld Z h0 a own_MB "triples" "[I" .null) (F_graphs_a : Fld Z h0 a own_MB "graphs" "[I" .null) (E_a : Exa Z h0 a own_MB) (le_n0_a : n0 ≤ a) :
    MetFree lL (⟨own_MB, "<init>", "([I[I)V"⟩ : MethodName) (head1 (Jvm.Cond.code (⟨own_MB, "<init>", "([I[I)V"⟩ : MethodName) prog_20_method_1_code 3 none :: ws) ({ frames := 2, cells := 0, slots := 0, locals := 24 } : Room)) (fun a_ U_ => a_ = #[(.ref a), (.ref b1), (.ref b2)] ∧ Z.Warmed39 U_.vm ∧ U_.heap = h0) (fun _ _ _ _ _ => True) (fun _ U_ o_ W_ => ∃ v_ L_, o_ = .returned v_ ∧ own_QK [a] h0 n0 v_ W_.heap L_ ∧ FrameEnd U_ o_ W_ L_ ({ frames := 2, cells := 0, slots := 0, locals := 24 } : Room).cells ({ frames := 2, cells := 0, slots := 0, locals := 24 } : Room).slots) := by
  refine MetFree.of_bodySF (plainFor_of_name pn_mb) hisR ?_
  intro pP eE sS mI args below meth cC s₁ Bd hml0 hP hK
  obtain ⟨rfl, hZ, hh⟩ := hP
  have hx := Bd.exec
  have hby := Bd.bytes
  have hml : cC.maxLocals = 3 := hml0
  have hown : sS.vm.findClass own_MB = some mI.cls := by have z := findClass_of_methodNamed Bd.named; exact z
  have hnm := (name_of_methodNamed Bd.named Bd.method).1
  have X0 : Stand pP lL eE ({ frames := 2, cells := 0, slots := 0, locals := 24 } : Room) sS mI #[(.ref a), (.ref b1), (.ref b2)] below meth cC s₁ [] 0 0 := Stand.of_body Bd
  have e0 : s₁.heap = h0 := by rw [← hh, Bd.state]; rfl
  have N0 := Fr.nil n0
  obtain ⟨G, hG, hst, hend⟩ := own_abs pP eE below sS (own_QK [a] h0 n0) ({ frames := 2, cells := 0, slots := 0, locals := 24 } : Room).cells ({ frames := 2, cells := 0, slots := 0, locals := 24 } : Room).slots
  refine hG (S := s₁.setTop (entryFrame mI #[(.ref a), (.ref b1), (.ref b2)] 3)) (hst (fun t_ kt_ => castTop (ef_mb mI a b1 b2) kt_) ?_)
  have Z1 := Nat.le_refl h0.size
  have K0 := Keep.refl h0 [a]
  show G (s₁.setTop (mkF mI 0 #[.val (.ref a), .val (.ref b1), .val (.ref b2)] []))
  refine o_aloadN hst X0.here hx (hb hby dmb_0) (pc' := 1) rfl rfl rfl ?_
  obtain ⟨_, _, ⟨T_1, L_1, k_1, n_1⟩, -, X_1, ⟨Lc_1, hQ_1, l_1, y_1, z_1⟩, st_1⟩ := X0.specialBack hx (y := (⟨"java/lang/Record", "<init>", "()V"⟩ : MethodName)) rfl hown (mvT hZ (own_w295 hw)) (mvT hZ (own_w296 hw)) (mvT hZ (own_w299 hw)) (by decide) (backOf (W := 0) (rmRC lL Z a0 hw [] a  h0 n0 Z0) hZ (own_w299 hw) (own_w298 hw) (by decide) (by decide)) (g := (mkF mI 1 #[.val (.ref a), .val (.ref b1), .val (.ref b2)] [(.ref a)])) rfl (by rw [hml]; rfl) (Steps.refl _) (a := a) (argsL := []) (rest := []) (lenOf pd_0 rfl) rfl (by show 2 * 0 + _ ≤ _; exact Nat.le_of_eq rfl) (hb hby dmb_1) (fun _ _ => ⟨rfl, e0, (by decide : 0 + 0 ≤ _), (by decide : 0 + 0 ≤ _)⟩)
  dsimp only [Pt.U, Pt.locs, Pt.cells, Pt.slots] at X_1 l_1 y_1 z_1 st_1 hQ_1
  subst l_1 y_1 z_1
  obtain ⟨rfl, N_1q, eh_1⟩ := hQ_1
  have N_1 := Fr.app N0 N_1q
  refine hst (fun _ kt => st_1.trans kt) ?_
  show G (T_1.setTop (mkF mI 4 #[.val (.ref a), .val (.ref b1), .val (.ref b2)] []))
  refine o_aloadN hst X_1.here hx (hb hby dmb_4) (pc' := 5) rfl rfl rfl ?_
  refine o_aloadN hst X_1.here hx (hb hby dmb_5) (pc' := 6) rfl rfl rfl ?_
  obtain ⟨T_2, h_2, X_2, e_2, W_2, st_2⟩ := putF X_1 hx hZ hown (host := "") (Or.inl (own_w301 hw)) Via.refl eh_1 F_triples_a E_a (Or.inr ⟨(own_w302 hw), rfl, hnm⟩) (own_w290 hw) (ty := (.array .int)) (by decide) rfl rfl (g := (mkF mI 6 #[.val (.ref a), .val (.ref b1), .val (.ref b2)] [(.ref b1), (.ref a)])) rfl rfl (hb hby dmb_6)
  have Z0 := Nat.le_trans Z0 (Keep.of_wr W_2).1
  have Z1 := Nat.le_trans Z1 (Keep.of_wr W_2).1
  have K0 := K0.wr W_2 (Or.inl (List.mem_of_getElem? (i := 0) rfl))
  have F_triples_a := F_triples_a.same W_2
  have F_graphs_a := F_graphs_a.other W_2 (Or.inr (slot_ne (Or.inr (own_w304 hw)) (Or.inr (own_w302 hw)) (by decide) (t := (.array .int)) (t' := (.array .int)) (by decide) (by decide)))
  have E_a := E_a.wr W_2
  have N_2 := Fr.snoc X_2 N_1 le_n0_a
  refine hst st_2 ?_
  show G (T_2.setTop (mkF mI 9 #[.val (.ref a), .val (.ref b1), .val (.ref b2)] []))
  refine o_aloadN hst X_2.here hx (hb hby dmb_9) (pc' := 10) rfl rfl rfl ?_
  refine o_aloadN hst X_2.here hx (hb hby dmb_10) (pc' := 11) rfl rfl rfl ?_
  obtain ⟨T_3, h_3, X_3, e_3, W_3, st_3⟩ := putF X_2 hx hZ hown (host := "") (Or.inl (own_w303 hw)) Via.refl e_2 F_graphs_a E_a (Or.inr ⟨(own_w304 hw), rfl, hnm⟩) (own_w290 hw) (ty := (.array .int)) (by decide) rfl rfl (g := (mkF mI 11 #[.val (.ref a), .val (.ref b1), .val (.ref b2)] [(.ref b2), (.ref a)])) rfl rfl (hb hby dmb_11)
  have Z0 := Nat.le_trans Z0 (Keep.of_wr W_3).1
  have Z1 := Nat.le_trans Z1 (Keep.of_wr W_3).1
  have K0 := K0.wr W_3 (Or.inl (List.mem_of_getElem? (i := 0) rfl))
  have F_triples_a := F_triples_a.other W_3 (Or.inr (slot_ne (Or.inr (own_w302 hw)) (Or.inr (own_w304 hw)) (by decide) (t := (.array .int)) (t' := (.array .int)) (by decide) (by decide)))
  have F_graphs_a := F_graphs_a.same W_3
  have E_a := E_a.wr W_3
  have N_3 := Fr.snoc X_3 N_2 le_n0_a
  refine hst st_3 ?_
  show G (T_3.setTop (mkF mI 14 #[.val (.ref a), .val (.ref b1), .val (.ref b2)] []))
  exact hend (own_goVoid X_3 hx Bd.returns (hb hby dmb_14) Bd.notSynchronized (by rw [e_3]; exact ⟨rfl, N_3, K0⟩) (by decide) (by decide))
def own_Qmb (Z : State) (m : Addr) (h0 : Heap) (n0 : Nat) (v : Option Value) (h : Heap) (L : List Loc) : Prop := ∃ mb ks : Addr, v = some (.ref mb) ∧ Fr n0 L ∧ Keep h0 h [m] ∧ h0.size ≤ ks ∧ Fld Z h m "java/util/HashMap" "size" "I" (.int (0 : Int32)) ∧ Fld Z h m "java/util/AbstractMap" "keySet" "Ljava/util/Set;" (.ref ks) ∧ Fld Z h m "java/util/LinkedHashMap" "head" "Ljava/util/LinkedHashMap$Entry;" .null ∧ Fld Z h m "java/util/HashMap" "modCount" "I" (.int (0 : Int32)) ∧ Exa Z h ks "java/util/LinkedHashMap$LinkedKeySet" ∧ Fld Z h ks "java/util/LinkedHashMap$LinkedKeySet" "this$0" "Ljava/util/LinkedHashMap;" (.ref m) ∧ Fld Z h ks "java/util/LinkedHashMap$LinkedKeySet" "reversed" "Z" (.int (0 : Int32))
def own_Qmb2  (h0 : Heap) (n0 : Nat) (v : Option Value) (h : Heap) (L : List Loc) : Prop := ∃ mb : Addr, v = some (.ref mb) ∧ Fr n0 L ∧ Keep h0 h []
theorem dM0_0 : decode prog_37_method_6_code 0 = .ok (.aload_n 0, 1) := by decide +kernel
theorem dM0_1 : decode prog_37_method_6_code 1 = .ok (.getfield 48, 3) := by decide +kernel
theorem dM0_4 : decode prog_37_method_6_code 4 = .ok (.aload_n 0, 1) := by decide +kernel
theorem dM0_5 : decode prog_37_method_6_code 5 = .ok (.getfield 25, 3) := by decide +kernel
theorem dM0_8 : decode prog_37_method_6_code 8 = .ok (.invokeinterface 62 1, 5) := by decide +kernel
theorem dM0_13 : decode prog_37_method_6_code 13 = .ok (.iadd, 1) := by decide +kernel
theorem dM0_14 : decode prog_37_method_6_code 14 = .ok (.istore_n 1, 1) := by decide +kernel
theorem dM0_15 : decode prog_37_method_6_code 15 = .ok (.iload_n 1, 1) := by decide +kernel
theorem dM0_16 : decode prog_37_method_6_code 16 = .ok (.newarray .int, 2) := by decide +kernel
theorem dM0_18 : decode prog_37_method_6_code 18 = .ok (.astore_n 2, 1) := by decide +kernel
theorem dM0_19 : decode prog_37_method_6_code 19 = .ok (.iload_n 1, 1) := by decide +kernel
theorem dM0_20 : decode prog_37_method_6_code 20 = .ok (.newarray .int, 2) := by decide +kernel
theorem dM0_22 : decode prog_37_method_6_code 22 = .ok (.astore_n 3, 1) := by decide +kernel
theorem dM0_23 : decode prog_37_method_6_code 23 = .ok (.iconst 0, 1) := by decide +kernel
theorem dM0_24 : decode prog_37_method_6_code 24 = .ok (.istore 4, 2) := by decide +kernel
theorem dM0_26 : decode prog_37_method_6_code 26 = .ok (.iload 4, 2) := by decide +kernel
theorem dM0_28 : decode prog_37_method_6_code 28 = .ok (.aload_n 0, 1) := by decide +kernel
theorem dM0_29 : decode prog_37_method_6_code 29 = .ok (.getfield 48, 3) := by decide +kernel
theorem dM0_32 : decode prog_37_method_6_code 32 = .ok (.if_icmp .ge 26, 3) := by decide +kernel
theorem dM0_58 : decode prog_37_method_6_code 58 = .ok (.aload_n 0, 1) := by decide +kernel
theorem dM0_59 : decode prog_37_method_6_code 59 = .ok (.getfield 48, 3) := by decide +kernel
theorem dM0_62 : decode prog_37_method_6_code 62 = .ok (.istore 4, 2) := by decide +kernel
theorem dM0_64 : decode prog_37_method_6_code 64 = .ok (.aload_n 0, 1) := by decide +kernel
theorem dM0_65 : decode prog_37_method_6_code 65 = .ok (.getfield 25, 3) := by decide +kernel
theorem dM0_68 : decode prog_37_method_6_code 68 = .ok (.invokeinterface 65 1, 5) := by decide +kernel
theorem dM0_73 : decode prog_37_method_6_code 73 = .ok (.astore 5, 2) := by decide +kernel
theorem dM0_75 : decode prog_37_method_6_code 75 = .ok (.aload 5, 2) := by decide +kernel
theorem dM0_77 : decode prog_37_method_6_code 77 = .ok (.invokeinterface 69 1, 5) := by decide +kernel
theorem dM0_82 : decode prog_37_method_6_code 82 = .ok (.ifCond .eq 41, 3) := by decide +kernel
theorem dM0_123 : decode prog_37_method_6_code 123 = .ok (.new 83, 3) := by decide +kernel
theorem dM0_126 : decode prog_37_method_6_code 126 = .ok (.dup, 1) := by decide +kernel
theorem dM0_127 : decode prog_37_method_6_code 127 = .ok (.aload_n 2, 1) := by decide +kernel
theorem dM0_128 : decode prog_37_method_6_code 128 = .ok (.aload_n 3, 1) := by decide +kernel
theorem dM0_129 : decode prog_37_method_6_code 129 = .ok (.invokespecial 85, 3) := by decide +kernel
theorem dM0_132 : decode prog_37_method_6_code 132 = .ok (.areturn, 1) := by decide +kernel
theorem ef_M0 (mI : MethodId) (t : Addr) : entryFrame mI #[(.ref t)] 8 = mkF mI 0 #[.val (.ref t), .unset, .unset, .unset, .unset, .unset, .unset, .unset] [] := by first | (simp [entryFrame, mkF, argsToLocals, Value.category]; done) | rfl
theorem pn_M0 : plainName own_TT = true := by first | decide +kernel | (simp [plainName, overriddenIn]; done)
set_option maxRecDepth 65536 in
set_option maxHeartbeats 40000000 in
theorem rmM0 (lL : Launch) (Z : State) (a0 : Array Value) (hw : ∀ d ∈ tables_1, d.before a0 Z = true) (ws : List Jvm.Cond) (t : Addr) (s : Addr) (m : Addr) (bf : Addr) (kf : ClassId) (h0 : Heap) (n0 : Nat) (Z0 : n0 ≤ h0.size) (E_t : Exa Z h0 t own_TT) (F_size_t : Fld Z h0 t own_TT "size" "I" (.int (0 : Int32))) (F_otherGraphs_t : Fld Z h0 t own_TT "otherGraphs" "Ljava/util/Set;" (.ref s)) (F_firstGraphs_t : Fld Z h0 t own_TT "firstGraphs" "[I" (.ref bf)) (V_bf : Arv Z h0 bf kf .int (1024 : Int32) [] (.int (0 : Int32))) (E_s : Exa Z h0 s "java/util/LinkedHashSet") (F_map_s : Fld Z h0 s "java/util/HashSet" "map" "Ljava/util/HashMap;" (.ref m)) (E_m : Exa Z h0 m "java/util/LinkedHashMap") (F_size_m : Fld Z h0 m "java/util/HashMap" "size" "I" (.int (0 : Int32))) (F_keySet_m : Fld Z h0 m "java/util/AbstractMap" "keySet" "Ljava/util/Set;" .null) (F_head_m : Fld Z h0 m "java/util/LinkedHashMap" "head" "Ljava/util/LinkedHashMap$Entry;" .null) (F_modCount_m : Fld Z h0 m "java/util/HashMap" "modCount" "I" (.int (0 : Int32))) (le_n0_m : n0 ≤ m) :
    MetFree lL (⟨own_TT, "memberships", "()Lcom/example/weser/weser/core/Memberships;"⟩ : MethodName) (head1 (Jvm.Cond.code (⟨own_TT, "memberships", "()Lcom/example/weser/weser/core/Memberships;"⟩ : MethodName) prog_37_method_6_code 8 (some (.object own_MB)) :: ws) ({ frames := 7, cells := 5, slots := 9, locals := 89 } : Room)) (fun a_ U_ => a_ = #[(.ref t)] ∧ Z.Warmed39 U_.vm ∧ U_.heap = h0) (fun _ _ _ _ _ => True) (fun _ U_ o_ W_ => ∃ v_ L_, o_ = .returned v_ ∧ own_Qmb Z m h0 n0 v_ W_.heap L_ ∧ FrameEnd U_ o_ W_ L_ ({ frames := 7, cells := 5, slots := 9, locals := 89 } : Room).cells ({ frames := 7, cells := 5, slots := 9, locals := 89 } : Room).slots) := by
  refine MetFree.of_bodySF (plainFor_of_name pn_M0) hisR ?_
  intro pP eE sS mI args below meth cC s₁ Bd hml0 hP hK
  obtain ⟨rfl, hZ, hh⟩ := hP
  have hx := Bd.exec
  have hby := Bd.bytes
  have hml : cC.maxLocals = 8 := hml0
  have hown : sS.vm.findClass own_TT = some mI.cls := by have z := findClass_of_methodNamed Bd.named; exact z
  have hnm := (name_of_methodNamed Bd.named Bd.method).1
  have X0 : Stand pP lL eE ({ frames := 7, cells := 5, slots := 9, locals := 89 } : Room) sS mI #[(.ref t)] below meth cC s₁ [] 0 0 := Stand.of_body Bd
  have e0 : s₁.heap = h0 := by rw [← hh, Bd.state]; rfl
  have N0 := Fr.nil n0
  obtain ⟨G, hG, hst, hend⟩ := own_abs pP eE below sS (own_Qmb Z m h0 n0) ({ frames := 7, cells := 5, slots := 9, locals := 89 } : Room).cells ({ frames := 7, cells := 5, slots := 9, locals := 89 } : Room).slots
  refine hG (S := s₁.setTop (entryFrame mI #[(.ref t)] 8)) (hst (fun t_ kt_ => castTop (ef_M0 mI t) kt_) ?_)
  have Z1 := Nat.le_refl h0.size
  have K0 := Keep.refl h0 [m]
  show G (s₁.setTop (mkF mI 0 #[.val (.ref t), .unset, .unset, .unset, .unset, .unset, .unset, .unset] []))
  refine o_aloadN hst X0.here hx (hb hby dM0_0) (pc' := 1) rfl rfl rfl ?_
  obtain ⟨T_1, X_1, e_1, st_1⟩ := getF X0 hx hZ hown (host := "") (Or.inl (own_w157 hw)) Via.refl e0 F_size_t (g := (mkF mI 1 #[.val (.ref t), .unset, .unset, .unset, .unset, .unset, .unset, .unset] [(.ref t)])) rfl rfl (hb hby dM0_1)
  refine hst st_1 ?_
  show G (T_1.setTop (mkF mI 4 #[.val (.ref t), .unset, .unset, .unset, .unset, .unset, .unset, .unset] [(.int (0 : Int32))]))
  refine o_aloadN hst X_1.here hx (hb hby dM0_4) (pc' := 5) rfl rfl rfl ?_
  obtain ⟨T_2, X_2, e_2, st_2⟩ := getF X_1 hx hZ hown (host := "") (Or.inl (own_w117 hw)) Via.refl e_1 F_otherGraphs_t (g := (mkF mI 5 #[.val (.ref t), .unset, .unset, .unset, .unset, .unset, .unset, .unset] [(.ref t), (.int (0 : Int32))])) rfl rfl (hb hby dM0_5)
  refine hst st_2 ?_
  show G (T_2.setTop (mkF mI 8 #[.val (.ref t), .unset, .unset, .unset, .unset, .unset, .unset, .unset] [(.ref s), (.int (0 : Int32))]))
  obtain ⟨cq_3, kq_3, q_3a, q_3b, q_3c⟩ := isOf hZ e_2 E_s
  obtain ⟨_, _, ⟨T_3, L_3, k_3, n_3⟩, -, X_3, ⟨Lc_3, hQ_3, l_3, y_3, z_3⟩, st_3⟩ := X_2.interfaceBack hx (xi := (⟨"java/util/Set", "size", "()I"⟩ : MethodName)) (y := (⟨"java/util/HashSet", "size", "()I"⟩ : MethodName)) hown (mvT hZ (own_w192 hw)) (mvT hZ (own_w193 hw)) (mvT hZ (own_w194 hw)) (mvT hZ (own_w195 hw)) (mvT hZ (own_w196 hw)) (mvT hZ (own_w197 hw)) (mvT hZ (own_w198 hw)) (mvT hZ (own_w199 hw)) (by decide) (backOf (W := 1) (rmss lL Z a0 hw [] s m h0 n0 Z0 F_map_s E_m F_size_m) hZ (own_w200 hw) (own_w59 hw) (by decide) (by decide)) q_3a q_3b q_3c (g := (mkF mI 8 #[.val (.ref t), .unset, .unset, .unset, .unset, .unset, .unset, .unset] [(.ref s), (.int (0 : Int32))])) rfl (by rw [hml]; rfl) (Steps.refl _) (argsL := []) (rest := [(.int (0 : Int32))]) (lenOf pd_7 rfl) rfl (by show 2 * 0 + _ ≤ _; exact Nat.le_of_eq rfl) (hb hby dM0_8) (fun _ _ => ⟨rfl, e_2, (by decide : 0 + 0 ≤ _), (by decide : 0 + 0 ≤ _)⟩)
  dsimp only [Pt.U, Pt.locs, Pt.cells, Pt.slots] at X_3 l_3 y_3 z_3 st_3 hQ_3
  subst l_3 y_3 z_3
  obtain ⟨rfl, N_3q, eh_3⟩ := hQ_3
  have N_3 := Fr.app N0 N_3q
  refine hst (fun _ kt => st_3.trans kt) ?_
  show G (T_3.setTop (mkF mI 13 #[.val (.ref t), .unset, .unset, .unset, .unset, .unset, .unset, .unset] [(.int (0 : Int32)), (.int (0 : Int32))]))
  refine o_iadd hst X_3.here hx (hb hby dM0_13) (pc' := 14) rfl ?_
  rw [show ((0 : Int32) + (0 : Int32)) = (0 : Int32) from by decide]
  show G (T_3.setTop (mkF mI 14 #[.val (.ref t), .unset, .unset, .unset, .unset, .unset, .unset, .unset] [(.int (0 : Int32))]))
  refine o_istoreN hst X_3.here hx (hb hby dM0_14) (pc' := 15) rfl (Lt := #[.val (.ref t), .val (.int (0 : Int32)), .unset, .unset, .unset, .unset, .unset, .unset]) rfl ?_
  refine o_iloadN hst X_3.here hx (hb hby dM0_15) (pc' := 16) rfl rfl ?_
  obtain ⟨T_4, h_4, k_x1, X_4, e_4, E_4, A_4, st_4⟩ := newP (aty := .int) X_3 hx hZ (own_w39 hw) eh_3 (g := (mkF mI 16 #[.val (.ref t), .val (.int (0 : Int32)), .unset, .unset, .unset, .unset, .unset, .unset] [(.int (0 : Int32))])) rfl (hb hby dM0_16) rfl (by decide) (cap := 0) (by decide) (by decide) (by decide) (by decide)
  obtain ⟨x1, g_x1⟩ : ∃ z, z = h0.size := ⟨_, rfl⟩
  rw [← g_x1] at A_4 st_4
  have ne_t_x1 : t ≠ x1 := Nat.ne_of_lt (Nat.lt_of_lt_of_le E_t.lt (Nat.le_of_eq g_x1.symm))
  have ne_s_x1 : s ≠ x1 := Nat.ne_of_lt (Nat.lt_of_lt_of_le E_s.lt (Nat.le_of_eq g_x1.symm))
  have ne_m_x1 : m ≠ x1 := Nat.ne_of_lt (Nat.lt_of_lt_of_le E_m.lt (Nat.le_of_eq g_x1.symm))
  have ne_bf_x1 : bf ≠ x1 := Nat.ne_of_lt (Nat.lt_of_lt_of_le V_bf.lt (Nat.le_of_eq g_x1.symm))
  have le_n0_x1 : n0 ≤ x1 := Nat.le_trans Z0 (Nat.le_of_eq g_x1.symm)
  have le_hh_x1 : h0.size ≤ x1 := Nat.le_trans Z1 (Nat.le_of_eq g_x1.symm)
  have Z0 := Nat.le_trans Z0 E_4.1
  have Z1 := Nat.le_trans Z1 E_4.1
  have K0 := K0.ext E_4
  have E_t := E_t.ext E_4
  have F_size_t := F_size_t.ext E_4
  have F_otherGraphs_t := F_otherGraphs_t.ext E_4
  have F_firstGraphs_t := F_firstGraphs_t.ext E_4
  have V_bf := V_bf.ext E_4
  have E_s := E_s.ext E_4
  have F_map_s := F_map_s.ext E_4
  have E_m := E_m.ext E_4
  have F_size_m := F_size_m.ext E_4
  have F_keySet_m := F_keySet_m.ext E_4
  have F_head_m := F_head_m.ext E_4
  have F_modCount_m := F_modCount_m.ext E_4
  have V_x1 : Arv Z h_4 x1 k_x1 .int (0 : Int32) [] (.int (0 : Int32)) := Arv.new A_4 (by decide)
  refine hst st_4 ?_
  show G (T_4.setTop (mkF mI 18 #[.val (.ref t), .val (.int (0 : Int32)), .unset, .unset, .unset, .unset, .unset, .unset] [(.ref x1)]))
  refine o_astoreN hst X_4.here hx (hb hby dM0_18) (pc' := 19) rfl (Lt := #[.val (.ref t), .val (.int (0 : Int32)), .val (.ref x1), .unset, .unset, .unset, .unset, .unset]) rfl rfl ?_
  refine o_iloadN hst X_4.here hx (hb hby dM0_19) (pc' := 20) rfl rfl ?_
  obtain ⟨T_5, h_5, k_x2, X_5, e_5, E_5, A_5, st_5⟩ := newP (aty := .int) X_4 hx hZ (own_w39 hw) e_4 (g := (mkF mI 20 #[.val (.ref t), .val (.int (0 : Int32)), .val (.ref x1), .unset, .unset, .unset, .unset, .unset] [(.int (0 : Int32))])) rfl (hb hby dM0_20) rfl (by decide) (cap := 0) (by decide) (by decide) (by decide) (by decide)
  obtain ⟨x2, g_x2⟩ : ∃ z, z = h_4.size := ⟨_, rfl⟩
  rw [← g_x2] at A_5 st_5
  have ne_t_x2 : t ≠ x2 := Nat.ne_of_lt (Nat.lt_of_lt_of_le E_t.lt (Nat.le_of_eq g_x2.symm))
  have ne_s_x2 : s ≠ x2 := Nat.ne_of_lt (Nat.lt_of_lt_of_le E_s.lt (Nat.le_of_eq g_x2.symm))
  have ne_m_x2 : m ≠ x2 := Nat.ne_of_lt (Nat.lt_of_lt_of_le E_m.lt (Nat.le_of_eq g_x2.symm))
  have ne_bf_x2 : bf ≠ x2 := Nat.ne_of_lt (Nat.lt_of_lt_of_le V_bf.lt (Nat.le_of_eq g_x2.symm))
  have ne_x1_x2 : x1 ≠ x2 := Nat.ne_of_lt (Nat.lt_of_lt_of_le V_x1.lt (Nat.le_of_eq g_x2.symm))
  have le_n0_x2 : n0 ≤ x2 := Nat.le_trans Z0 (Nat.le_of_eq g_x2.symm)
  have le_hh_x2 : h0.size ≤ x2 := Nat.le_trans Z1 (Nat.le_of_eq g_x2.symm)
  have Z0 := Nat.le_trans Z0 E_5.1
  have Z1 := Nat.le_trans Z1 E_5.1
  have K0 := K0.ext E_5
  have E_t := E_t.ext E_5
  have F_size_t := F_size_t.ext E_5
  have F_otherGraphs_t := F_otherGraphs_t.ext E_5
  have F_firstGraphs_t := F_firstGraphs_t.ext E_5
  have V_bf := V_bf.ext E_5
  have E_s := E_s.ext E_5
  have F_map_s := F_map_s.ext E_5
  have E_m := E_m.ext E_5
  have F_size_m := F_size_m.ext E_5
  have F_keySet_m := F_keySet_m.ext E_5
  have F_head_m := F_head_m.ext E_5
  have F_modCount_m := F_modCount_m.ext E_5
  have V_x1 := V_x1.ext E_5
  have V_x2 : Arv Z h_5 x2 k_x2 .int (0 : Int32) [] (.int (0 : Int32)) := Arv.new A_5 (by decide)
  refine hst st_5 ?_
  show G (T_5.setTop (mkF mI 22 #[.val (.ref t), .val (.int (0 : Int32)), .val (.ref x1), .unset, .unset, .unset, .unset, .unset] [(.ref x2)]))
  refine o_astoreN hst X_5.here hx (hb hby dM0_22) (pc' := 23) rfl (Lt := #[.val (.ref t), .val (.int (0 : Int32)), .val (.ref x1), .val (.ref x2), .unset, .unset, .unset, .unset]) rfl rfl ?_
  refine o_iconst hst X_5.here hx (hb hby dM0_23) (pc' := 24) rfl (z := (0 : Int32)) rfl ?_
  refine o_istore hst X_5.here hx (hb hby dM0_24) (pc' := 26) rfl (Lt := #[.val (.ref t), .val (.int (0 : Int32)), .val (.ref x1), .val (.ref x2), .val (.int (0 : Int32)), .unset, .unset, .unset]) rfl ?_
  refine o_iload hst X_5.here hx (hb hby dM0_26) (pc' := 28) rfl rfl ?_
  refine o_aloadN hst X_5.here hx (hb hby dM0_28) (pc' := 29) rfl rfl rfl ?_
  obtain ⟨T_6, X_6, e_6, st_6⟩ := getF X_5 hx hZ hown (host := "") (Or.inl (own_w157 hw)) Via.refl e_5 F_size_t (g := (mkF mI 29 #[.val (.ref t), .val (.int (0 : Int32)), .val (.ref x1), .val (.ref x2), .val (.int (0 : Int32)), .unset, .unset, .unset] [(.ref t), (.int (0 : Int32))])) rfl rfl (hb hby dM0_29)
  refine hst st_6 ?_
  show G (T_6.setTop (mkF mI 32 #[.val (.ref t), .val (.int (0 : Int32)), .val (.ref x1), .val (.ref x2), .val (.int (0 : Int32)), .unset, .unset, .unset] [(.int (0 : Int32)), (.int (0 : Int32))]))
  have hc32 : ¬ ((0 : Int32) < (0 : Int32)) := by decide
  refine hst (fun _ kt => XS.icmpYes X_6.here hx rfl (pc0 := 32) (pc' := 58) rfl (hb hby dM0_32) rfl (flt hc32).2.1 (by decide) (by decide) kt) ?_
  show G (T_6.setTop (mkF mI 58 #[.val (.ref t), .val (.int (0 : Int32)), .val (.ref x1), .val (.ref x2), .val (.int (0 : Int32)), .unset, .unset, .unset] []))
  refine o_aloadN hst X_6.here hx (hb hby dM0_58) (pc' := 59) rfl rfl rfl ?_
  obtain ⟨T_7, X_7, e_7, st_7⟩ := getF X_6 hx hZ hown (host := "") (Or.inl (own_w157 hw)) Via.refl e_6 F_size_t (g := (mkF mI 59 #[.val (.ref t), .val (.int (0 : Int32)), .val (.ref x1), .val (.ref x2), .val (.int (0 : Int32)), .unset, .unset, .unset] [(.ref t)])) rfl rfl (hb hby dM0_59)
  refine hst st_7 ?_
  show G (T_7.setTop (mkF mI 62 #[.val (.ref t), .val (.int (0 : Int32)), .val (.ref x1), .val (.ref x2), .val (.int (0 : Int32)), .unset, .unset, .unset] [(.int (0 : Int32))]))
  refine o_istore hst X_7.here hx (hb hby dM0_62) (pc' := 64) rfl (Lt := #[.val (.ref t), .val (.int (0 : Int32)), .val (.ref x1), .val (.ref x2), .val (.int (0 : Int32)), .unset, .unset, .unset]) rfl ?_
  refine o_aloadN hst X_7.here hx (hb hby dM0_64) (pc' := 65) rfl rfl rfl ?_
  obtain ⟨T_8, X_8, e_8, st_8⟩ := getF X_7 hx hZ hown (host := "") (Or.inl (own_w117 hw)) Via.refl e_7 F_otherGraphs_t (g := (mkF mI 65 #[.val (.ref t), .val (.int (0 : Int32)), .val (.ref x1), .val (.ref x2), .val (.int (0 : Int32)), .unset, .unset, .unset] [(.ref t)])) rfl rfl (hb hby dM0_65)
  refine hst st_8 ?_
  show G (T_8.setTop (mkF mI 68 #[.val (.ref t), .val (.int (0 : Int32)), .val (.ref x1), .val (.ref x2), .val (.int (0 : Int32)), .unset, .unset, .unset] [(.ref s)]))
  obtain ⟨cq_9, kq_9, q_9a, q_9b, q_9c⟩ := isOf hZ e_8 E_s
  obtain ⟨_, _, ⟨T_9, L_9, k_9, n_9⟩, -, X_9, ⟨Lc_9, hQ_9, l_9, y_9, z_9⟩, st_9⟩ := X_8.interfaceBack hx (xi := (⟨"java/util/Set", "iterator", "()Ljava/util/Iterator;"⟩ : MethodName)) (y := (⟨"java/util/HashSet", "iterator", "()Ljava/util/Iterator;"⟩ : MethodName)) hown (mvT hZ (own_w208 hw)) (mvT hZ (own_w209 hw)) (mvT hZ (own_w210 hw)) (mvT hZ (own_w211 hw)) (mvT hZ (own_w212 hw)) (mvT hZ (own_w213 hw)) (mvT hZ (own_w214 hw)) (mvT hZ (own_w199 hw)) (by decide) (backOf (W := 0) (rmsi lL Z a0 hw [] s m h_5 n0 Z0 F_map_s E_m F_size_m F_keySet_m F_head_m F_modCount_m le_n0_m) hZ (own_w215 hw) (own_w59 hw) (by decide) (by decide)) q_9a q_9b q_9c (g := (mkF mI 68 #[.val (.ref t), .val (.int (0 : Int32)), .val (.ref x1), .val (.ref x2), .val (.int (0 : Int32)), .unset, .unset, .unset] [(.ref s)])) rfl (by rw [hml]; rfl) (Steps.refl _) (argsL := []) (rest := []) (lenOf pd_11 rfl) rfl (by show 2 * 0 + _ ≤ _; exact Nat.le_of_eq rfl) (hb hby dM0_68) (fun _ _ => ⟨rfl, e_8, (by decide : 2 + 2 ≤ _), (by decide : 0 + 7 ≤ _)⟩)
  dsimp only [Pt.U, Pt.locs, Pt.cells, Pt.slots] at X_9 l_9 y_9 z_9 st_9 hQ_9
  subst l_9 y_9 z_9
  obtain ⟨it, ks, rfl, N_9q, K_9, le_ks, E_it, F_next_it, GF_size_m, GF_keySet_m, GF_head_m, GF_modCount_m, GE_ks, GF_this_0_ks, GF_reversed_ks⟩ := hQ_9
  have le_hh_ks := Nat.le_trans Z1 le_ks
  have ne_t_m : t ≠ m := ne_exa E_t E_m (by decide)
  have ne_bf_m : bf ≠ m := Ne.symm (own_ne_arv E_m (own_w75 hw) V_bf)
  have ne_s_m : s ≠ m := ne_exa E_s E_m (by decide)
  have Z0 := Nat.le_trans Z0 K_9.1
  have Z1 := Nat.le_trans Z1 K_9.1
  have K0 := K0.trans K_9 (allS (Or.inl (List.mem_of_getElem? (i := 0) rfl)) all0)
  have E_t := E_t.keep K_9
  have F_size_t := F_size_t.keep K_9 (ninS ne_t_m nin0)
  have F_otherGraphs_t := F_otherGraphs_t.keep K_9 (ninS ne_t_m nin0)
  have F_firstGraphs_t := F_firstGraphs_t.keep K_9 (ninS ne_t_m nin0)
  have V_bf := V_bf.keep K_9 (ninS ne_bf_m nin0)
  have E_s := E_s.keep K_9
  have F_map_s := F_map_s.keep K_9 (ninS ne_s_m nin0)
  have E_m := E_m.keep K_9
  have F_size_m := GF_size_m
  have F_keySet_m := GF_keySet_m
  have F_head_m := GF_head_m
  have F_modCount_m := GF_modCount_m
  have E_ks := GE_ks
  have F_this_0_ks := GF_this_0_ks
  have F_reversed_ks := GF_reversed_ks
  have N_9 := Fr.app N_3 N_9q
  refine hst (fun _ kt => st_9.trans kt) ?_
  show G (T_9.setTop (mkF mI 73 #[.val (.ref t), .val (.int (0 : Int32)), .val (.ref x1), .val (.ref x2), .val (.int (0 : Int32)), .unset, .unset, .unset] [(.ref it)]))
  refine o_astore hst X_9.here hx (hb hby dM0_73) (pc' := 75) rfl (Lt := #[.val (.ref t), .val (.int (0 : Int32)), .val (.ref x1), .val (.ref x2), .val (.int (0 : Int32)), .val (.ref it), .unset, .unset]) rfl rfl ?_
  refine o_aload hst X_9.here hx (hb hby dM0_75) (pc' := 77) rfl rfl rfl ?_
  obtain ⟨cq_10, kq_10, q_10a, q_10b, q_10c⟩ := isOf hZ rfl E_it
  obtain ⟨_, _, ⟨T_10, L_10, k_10, n_10⟩, -, X_10, ⟨Lc_10, hQ_10, l_10, y_10, z_10⟩, st_10⟩ := X_9.interfaceBack hx (xi := (⟨"java/util/Iterator", "hasNext", "()Z"⟩ : MethodName)) (y := (⟨"java/util/LinkedHashMap$LinkedHashIterator", "hasNext", "()Z"⟩ : MethodName)) hown (mvT hZ (own_w280 hw)) (mvT hZ (own_w281 hw)) (mvT hZ (own_w282 hw)) (mvT hZ (own_w283 hw)) (mvT hZ (own_w284 hw)) (mvT hZ (own_w285 hw)) (mvT hZ (own_w286 hw)) (mvT hZ (own_w287 hw)) (by decide) (backOf (W := 0) (rmhn lL Z a0 hw [] it  T_9.heap n0 Z0 F_next_it) hZ (own_w288 hw) (own_w262 hw) (by decide) (by decide)) q_10a q_10b q_10c (g := (mkF mI 77 #[.val (.ref t), .val (.int (0 : Int32)), .val (.ref x1), .val (.ref x2), .val (.int (0 : Int32)), .val (.ref it), .unset, .unset] [(.ref it)])) rfl (by rw [hml]; rfl) (Steps.refl _) (argsL := []) (rest := []) (lenOf pd_12 rfl) rfl (by show 2 * 0 + _ ≤ _; exact Nat.le_of_eq rfl) (hb hby dM0_77) (fun _ _ => ⟨rfl, rfl, (by decide : 4 + 0 ≤ _), (by decide : 7 + 0 ≤ _)⟩)
  dsimp only [Pt.U, Pt.locs, Pt.cells, Pt.slots] at X_10 l_10 y_10 z_10 st_10 hQ_10
  subst l_10 y_10 z_10
  obtain ⟨rfl, N_10q, eh_10⟩ := hQ_10
  have N_10 := Fr.app N_9 N_10q
  refine hst (fun _ kt => st_10.trans kt) ?_
  show G (T_10.setTop (mkF mI 82 #[.val (.ref t), .val (.int (0 : Int32)), .val (.ref x1), .val (.ref x2), .val (.int (0 : Int32)), .val (.ref it), .unset, .unset] [(.int (0 : Int32))]))
  have hc82 : (0 : Int32) = (0 : Int32) := rfl
  refine hst (fun _ kt => XS.ifYes X_10.here hx rfl (pc0 := 82) (pc' := 123) rfl (hb hby dM0_82) rfl ((if0 _ _).trans (teq hc82).1) (by decide) (by decide) kt) ?_
  show G (T_10.setTop (mkF mI 123 #[.val (.ref t), .val (.int (0 : Int32)), .val (.ref x1), .val (.ref x2), .val (.int (0 : Int32)), .val (.ref it), .unset, .unset] []))
  obtain ⟨T_11, h_11, X_11, e_11, E_11, A_11, D_11, -, st_11⟩ := newO X_10 hx hZ hown (own_w289 hw) (own_w290 hw) (own_w291 hw) eh_10 (g := (mkF mI 123 #[.val (.ref t), .val (.int (0 : Int32)), .val (.ref x1), .val (.ref x2), .val (.int (0 : Int32)), .val (.ref it), .unset, .unset] [])) rfl (hb hby dM0_123) (by decide) (by decide)
  obtain ⟨mb, g_mb⟩ : ∃ z, z = T_9.heap.size := ⟨_, rfl⟩
  rw [← g_mb] at A_11 D_11 st_11
  have ne_t_mb : t ≠ mb := Nat.ne_of_lt (Nat.lt_of_lt_of_le E_t.lt (Nat.le_of_eq g_mb.symm))
  have ne_s_mb : s ≠ mb := Nat.ne_of_lt (Nat.lt_of_lt_of_le E_s.lt (Nat.le_of_eq g_mb.symm))
  have ne_m_mb : m ≠ mb := Nat.ne_of_lt (Nat.lt_of_lt_of_le E_m.lt (Nat.le_of_eq g_mb.symm))
  have ne_bf_mb : bf ≠ mb := Nat.ne_of_lt (Nat.lt_of_lt_of_le V_bf.lt (Nat.le_of_eq g_mb.symm))
  have ne_ks_mb : ks ≠ mb := Nat.ne_of_lt (Nat.lt_of_lt_of_le E_ks.lt (Nat.le_of_eq g_mb.symm))
  have ne_it_mb : it ≠ mb := Nat.ne_of_lt (Nat.lt_of_lt_of_le E_it.lt (Nat.le_of_eq g_mb.symm))
  have le_n0_mb : n0 ≤ mb := Nat.le_trans Z0 (Nat.le_of_eq g_mb.symm)
  have le_hh_mb : h0.size ≤ mb := Nat.le_trans Z1 (Nat.le_of_eq g_mb.symm)
  have Z0 := Nat.le_trans Z0 E_11.1
  have Z1 := Nat.le_trans Z1 E_11.1
  have K0 := K0.ext E_11
  have E_t := E_t.ext E_11
  have F_size_t := F_size_t.ext E_11
  have F_otherGraphs_t := F_otherGraphs_t.ext E_11
  have F_firstGraphs_t := F_firstGraphs_t.ext E_11
  have V_bf := V_bf.ext E_11
  have E_s := E_s.ext E_11
  have F_map_s := F_map_s.ext E_11
  have E_m := E_m.ext E_11
  have F_size_m := F_size_m.ext E_11
  have F_keySet_m := F_keySet_m.ext E_11
  have F_head_m := F_head_m.ext E_11
  have F_modCount_m := F_modCount_m.ext E_11
  have E_ks := E_ks.ext E_11
  have F_this_0_ks := F_this_0_ks.ext E_11
  have F_reversed_ks := F_reversed_ks.ext E_11
  have E_it := E_it.ext E_11
  have F_next_it := F_next_it.ext E_11
  have E_mb : Exa Z h_11 mb own_MB := A_11
  have F_triples_mb : Fld Z h_11 mb own_MB "triples" "[I" .null := D_11 (Or.inr (own_w302 hw)) (ty := (.array .int)) (by decide)
  have F_graphs_mb : Fld Z h_11 mb own_MB "graphs" "[I" .null := D_11 (Or.inr (own_w304 hw)) (ty := (.array .int)) (by decide)
  refine hst st_11 ?_
  show G (T_11.setTop (mkF mI 126 #[.val (.ref t), .val (.int (0 : Int32)), .val (.ref x1), .val (.ref x2), .val (.int (0 : Int32)), .val (.ref it), .unset, .unset] [(.ref mb)]))
  refine o_dup hst X_11.here hx (hb hby dM0_126) (pc' := 127) rfl rfl ?_
  refine o_aloadN hst X_11.here hx (hb hby dM0_127) (pc' := 128) rfl rfl rfl ?_
  refine o_aloadN hst X_11.here hx (hb hby dM0_128) (pc' := 129) rfl rfl rfl ?_
  obtain ⟨_, _, ⟨T_12, L_12, k_12, n_12⟩, -, X_12, ⟨Lc_12, hQ_12, l_12, y_12, z_12⟩, st_12⟩ := X_11.specialBack hx (y := (⟨own_MB, "<init>", "([I[I)V"⟩ : MethodName)) rfl hown (mvT hZ (own_w292 hw)) (mvT hZ (own_w293 hw)) (mvT hZ (own_w294 hw)) (by decide) (backOf (W := 1) (rmmb lL Z a0 hw [] mb x1 x2  h_11 n0 Z0 F_triples_mb F_graphs_mb E_mb le_n0_mb) hZ (own_w294 hw) (own_w291 hw) (by decide) (by decide)) (g := (mkF mI 129 #[.val (.ref t), .val (.int (0 : Int32)), .val (.ref x1), .val (.ref x2), .val (.int (0 : Int32)), .val (.ref it), .unset, .unset] [(.ref x2), (.ref x1), (.ref mb), (.ref mb)])) rfl (by rw [hml]; rfl) (Steps.refl _) (a := mb) (argsL := [(.ref x1), (.ref x2)]) (rest := [(.ref mb)]) (lenOf pd_13 rfl) rfl (by show 2 * 0 + _ ≤ _; exact Nat.le_of_eq rfl) (hb hby dM0_129) (fun _ _ => ⟨rfl, e_11, (by decide : 5 + 0 ≤ _), (by decide : 9 + 0 ≤ _)⟩)
  dsimp only [Pt.U, Pt.locs, Pt.cells, Pt.slots] at X_12 l_12 y_12 z_12 st_12 hQ_12
  subst l_12 y_12 z_12
  obtain ⟨rfl, N_12q, K_12⟩ := hQ_12
  have Z0 := Nat.le_trans Z0 K_12.1
  have Z1 := Nat.le_trans Z1 K_12.1
  have K0 := K0.trans K_12 (allS (Or.inr le_hh_mb) all0)
  have E_t := E_t.keep K_12
  have F_size_t := F_size_t.keep K_12 (ninS ne_t_mb nin0)
  have F_otherGraphs_t := F_otherGraphs_t.keep K_12 (ninS ne_t_mb nin0)
  have F_firstGraphs_t := F_firstGraphs_t.keep K_12 (ninS ne_t_mb nin0)
  have V_bf := V_bf.keep K_12 (ninS ne_bf_mb nin0)
  have E_s := E_s.keep K_12
  have F_map_s := F_map_s.keep K_12 (ninS ne_s_mb nin0)
  have E_m := E_m.keep K_12
  have F_size_m := F_size_m.keep K_12 (ninS ne_m_mb nin0)
  have F_keySet_m := F_keySet_m.keep K_12 (ninS ne_m_mb nin0)
  have F_head_m := F_head_m.keep K_12 (ninS ne_m_mb nin0)
  have F_modCount_m := F_modCount_m.keep K_12 (ninS ne_m_mb nin0)
  have E_ks := E_ks.keep K_12
  have F_this_0_ks := F_this_0_ks.keep K_12 (ninS ne_ks_mb nin0)
  have F_reversed_ks := F_reversed_ks.keep K_12 (ninS ne_ks_mb nin0)
  have E_it := E_it.keep K_12
  have F_next_it := F_next_it.keep K_12 (ninS ne_it_mb nin0)
  have E_mb := E_mb.keep K_12
  have N_12 := Fr.app N_10 N_12q
  refine hst (fun _ kt => st_12.trans kt) ?_
  show G (T_12.setTop (mkF mI 132 #[.val (.ref t), .val (.int (0 : Int32)), .val (.ref x1), .val (.ref x2), .val (.int (0 : Int32)), .val (.ref it), .unset, .unset] [(.ref mb)]))
  exact hend (own_goRet X_12 hx Bd.returns rfl (Or.inr (Or.inr (Or.inr (Or.inr ⟨rfl, rfl, rfl⟩)))) (hb hby dM0_132) Bd.notSynchronized (by exact ⟨mb, ks, rfl, N_12, K0, le_hh_ks, F_size_m, F_keySet_m, F_head_m, F_modCount_m, E_ks, F_this_0_ks, F_reversed_ks⟩) (by decide) (by decide))
theorem dM9_0 : decode prog_37_method_6_code 0 = .ok (.aload_n 0, 1) := by decide +kernel
theorem dM9_1 : decode prog_37_method_6_code 1 = .ok (.getfield 48, 3) := by decide +kernel
theorem dM9_4 : decode prog_37_method_6_code 4 = .ok (.aload_n 0, 1) := by decide +kernel
theorem dM9_5 : decode prog_37_method_6_code 5 = .ok (.getfield 25, 3) := by decide +kernel
theorem dM9_8 : decode prog_37_method_6_code 8 = .ok (.invokeinterface 62 1, 5) := by decide +kernel
theorem dM9_13 : decode prog_37_method_6_code 13 = .ok (.iadd, 1) := by decide +kernel
theorem dM9_14 : decode prog_37_method_6_code 14 = .ok (.istore_n 1, 1) := by decide +kernel
theorem dM9_15 : decode prog_37_method_6_code 15 = .ok (.iload_n 1, 1) := by decide +kernel
theorem dM9_16 : decode prog_37_method_6_code 16 = .ok (.newarray .int, 2) := by decide +kernel
theorem dM9_18 : decode prog_37_method_6_code 18 = .ok (.astore_n 2, 1) := by decide +kernel
theorem dM9_19 : decode prog_37_method_6_code 19 = .ok (.iload_n 1, 1) := by decide +kernel
theorem dM9_20 : decode prog_37_method_6_code 20 = .ok (.newarray .int, 2) := by decide +kernel
theorem dM9_22 : decode prog_37_method_6_code 22 = .ok (.astore_n 3, 1) := by decide +kernel
theorem dM9_23 : decode prog_37_method_6_code 23 = .ok (.iconst 0, 1) := by decide +kernel
theorem dM9_24 : decode prog_37_method_6_code 24 = .ok (.istore 4, 2) := by decide +kernel
theorem dM9_26 : decode prog_37_method_6_code 26 = .ok (.iload 4, 2) := by decide +kernel
theorem dM9_28 : decode prog_37_method_6_code 28 = .ok (.aload_n 0, 1) := by decide +kernel
theorem dM9_29 : decode prog_37_method_6_code 29 = .ok (.getfield 48, 3) := by decide +kernel
theorem dM9_32 : decode prog_37_method_6_code 32 = .ok (.if_icmp .ge 26, 3) := by decide +kernel
theorem dM9_58 : decode prog_37_method_6_code 58 = .ok (.aload_n 0, 1) := by decide +kernel
theorem dM9_59 : decode prog_37_method_6_code 59 = .ok (.getfield 48, 3) := by decide +kernel
theorem dM9_62 : decode prog_37_method_6_code 62 = .ok (.istore 4, 2) := by decide +kernel
theorem dM9_64 : decode prog_37_method_6_code 64 = .ok (.aload_n 0, 1) := by decide +kernel
theorem dM9_65 : decode prog_37_method_6_code 65 = .ok (.getfield 25, 3) := by decide +kernel
theorem dM9_68 : decode prog_37_method_6_code 68 = .ok (.invokeinterface 65 1, 5) := by decide +kernel
theorem dM9_73 : decode prog_37_method_6_code 73 = .ok (.astore 5, 2) := by decide +kernel
theorem dM9_75 : decode prog_37_method_6_code 75 = .ok (.aload 5, 2) := by decide +kernel
theorem dM9_77 : decode prog_37_method_6_code 77 = .ok (.invokeinterface 69 1, 5) := by decide +kernel
theorem dM9_82 : decode prog_37_method_6_code 82 = .ok (.ifCond .eq 41, 3) := by decide +kernel
theorem dM9_123 : decode prog_37_method_6_code 123 = .ok (.new 83, 3) := by decide +kernel
theorem dM9_126 : decode prog_37_method_6_code 126 = .ok (.dup, 1) := by decide +kernel
theorem dM9_127 : decode prog_37_method_6_code 127 = .ok (.aload_n 2, 1) := by decide +kernel
theorem dM9_128 : decode prog_37_method_6_code 128 = .ok (.aload_n 3, 1) := by decide +kernel
theorem dM9_129 : decode prog_37_method_6_code 129 = .ok (.invokespecial 85, 3) := by decide +kernel
theorem dM9_132 : decode prog_37_method_6_code 132 = .ok (.areturn, 1) := by decide +kernel
theorem ef_M9 (mI : MethodId) (t : Addr) : entryFrame mI #[(.ref t)] 8 = mkF mI 0 #[.val (.ref t), .unset, .unset, .unset, .unset, .unset, .unset, .unset] [] := by first | (simp [entryFrame, mkF, argsToLocals, Value.category]; done) | rfl
theorem pn_M9 : plainName own_TT = true := by first | decide +kernel | (simp [plainName, overriddenIn]; done)
set_option maxRecDepth 65536 in
set_option maxHeartbeats 40000000 in
theorem rmM9 (lL : Launch) (Z : State) (a0 : Array Value) (hw : ∀ d ∈ tables_1, d.before a0 Z = true) (ws : List Jvm.Cond) (t : Addr) (s : Addr) (m : Addr) (bf : Addr) (kf : ClassId) (ks : Addr) (h0 : Heap) (n0 : Nat) (Z0 : n0 ≤ h0.size) (E_t : Exa Z h0 t own_TT) (F_size_t : Fld Z h0 t own_TT "size" "I" (.int (0 : Int32))) (F_otherGraphs_t : Fld Z h0 t own_TT "otherGraphs" "Ljava/util/Set;" (.ref s)) (F_firstGraphs_t : Fld Z h0 t own_TT "firstGraphs" "[I" (.ref bf)) (V_bf : Arv Z h0 bf kf .int (1024 : Int32) [] (.int (0 : Int32))) (E_s : Exa Z h0 s "java/util/LinkedHashSet") (F_map_s : Fld Z h0 s "java/util/HashSet" "map" "Ljava/util/HashMap;" (.ref m)) (E_m : Exa Z h0 m "java/util/LinkedHashMap") (F_size_m : Fld Z h0 m "java/util/HashMap" "size" "I" (.int (0 : Int32))) (F_keySet_m : Fld Z h0 m "java/util/AbstractMap" "keySet" "Ljava/util/Set;" (.ref ks)) (F_head_m : Fld Z h0 m "java/util/LinkedHashMap" "head" "Ljava/util/LinkedHashMap$Entry;" .null) (F_modCount_m : Fld Z h0 m "java/util/HashMap" "modCount" "I" (.int (0 : Int32))) (E_ks : Exa Z h0 ks "java/util/LinkedHashMap$LinkedKeySet") (F_this_0_ks : Fld Z h0 ks "java/util/LinkedHashMap$LinkedKeySet" "this$0" "Ljava/util/LinkedHashMap;" (.ref m)) (F_reversed_ks : Fld Z h0 ks "java/util/LinkedHashMap$LinkedKeySet" "reversed" "Z" (.int (0 : Int32))) (le_n0_m : n0 ≤ m) :
    MetFree lL (⟨own_TT, "memberships", "()Lcom/example/weser/weser/core/Memberships;"⟩ : MethodName) (head1 (Jvm.Cond.code (⟨own_TT, "memberships", "()Lcom/example/weser/weser/core/Memberships;"⟩ : MethodName) prog_37_method_6_code 8 (some (.object own_MB)) :: ws) ({ frames := 7, cells := 4, slots := 7, locals := 89 } : Room)) (fun a_ U_ => a_ = #[(.ref t)] ∧ Z.Warmed39 U_.vm ∧ U_.heap = h0) (fun _ _ _ _ _ => True) (fun _ U_ o_ W_ => ∃ v_ L_, o_ = .returned v_ ∧ own_Qmb2 h0 n0 v_ W_.heap L_ ∧ FrameEnd U_ o_ W_ L_ ({ frames := 7, cells := 4, slots := 7, locals := 89 } : Room).cells ({ frames := 7, cells := 4, slots := 7, locals := 89 } : Room).slots) := by
  refine MetFree.of_bodySF (plainFor_of_name pn_M9) hisR ?_
  intro pP eE sS mI args below meth cC s₁ Bd hml0 hP hK
  obtain ⟨rfl, hZ, hh⟩ := hP
  have hx := Bd.exec
  have hby := Bd.bytes
  have hml : cC.maxLocals = 8 := hml0
  have hown : sS.vm.findClass own_TT = some mI.cls := by have z := findClass_of_methodNamed Bd.named; exact z
  have hnm := (name_of_methodNamed Bd.named Bd.method).1
  have X0 : Stand pP lL eE ({ frames := 7, cells := 4, slots := 7, locals := 89 } : Room) sS mI #[(.ref t)] below meth cC s₁ [] 0 0 := Stand.of_body Bd
  have e0 : s₁.heap = h0 := by rw [← hh, Bd.state]; rfl
  have N0 := Fr.nil n0
  obtain ⟨G, hG, hst, hend⟩ := own_abs pP eE below sS (own_Qmb2 h0 n0) ({ frames := 7, cells := 4, slots := 7, locals := 89 } : Room).cells ({ frames := 7, cells := 4, slots := 7, locals := 89 } : Room).slots
  refine hG (S := s₁.setTop (entryFrame mI #[(.ref t)] 8)) (hst (fun t_ kt_ => castTop (ef_M9 mI t) kt_) ?_)
  have Z1 := Nat.le_refl h0.size
  have K0 := Keep.refl h0 []
  show G (s₁.setTop (mkF mI 0 #[.val (.ref t), .unset, .unset, .unset, .unset, .unset, .unset, .unset] []))
  refine o_aloadN hst X0.here hx (hb hby dM9_0) (pc' := 1) rfl rfl rfl ?_
  obtain ⟨T_1, X_1, e_1, st_1⟩ := getF X0 hx hZ hown (host := "") (Or.inl (own_w157 hw)) Via.refl e0 F_size_t (g := (mkF mI 1 #[.val (.ref t), .unset, .unset, .unset, .unset, .unset, .unset, .unset] [(.ref t)])) rfl rfl (hb hby dM9_1)
  refine hst st_1 ?_
  show G (T_1.setTop (mkF mI 4 #[.val (.ref t), .unset, .unset, .unset, .unset, .unset, .unset, .unset] [(.int (0 : Int32))]))
  refine o_aloadN hst X_1.here hx (hb hby dM9_4) (pc' := 5) rfl rfl rfl ?_
  obtain ⟨T_2, X_2, e_2, st_2⟩ := getF X_1 hx hZ hown (host := "") (Or.inl (own_w117 hw)) Via.refl e_1 F_otherGraphs_t (g := (mkF mI 5 #[.val (.ref t), .unset, .unset, .unset, .unset, .unset, .unset, .unset] [(.ref t), (.int (0 : Int32))])) rfl rfl (hb hby dM9_5)
  refine hst st_2 ?_
  show G (T_2.setTop (mkF mI 8 #[.val (.ref t), .unset, .unset, .unset, .unset, .unset, .unset, .unset] [(.ref s), (.int (0 : Int32))]))
  obtain ⟨cq_3, kq_3, q_3a, q_3b, q_3c⟩ := isOf hZ e_2 E_s
  obtain ⟨_, _, ⟨T_3, L_3, k_3, n_3⟩, -, X_3, ⟨Lc_3, hQ_3, l_3, y_3, z_3⟩, st_3⟩ := X_2.interfaceBack hx (xi := (⟨"java/util/Set", "size", "()I"⟩ : MethodName)) (y := (⟨"java/util/HashSet", "size", "()I"⟩ : MethodName)) hown (mvT hZ (own_w192 hw)) (mvT hZ (own_w193 hw)) (mvT hZ (own_w194 hw)) (mvT hZ (own_w195 hw)) (mvT hZ (own_w196 hw)) (mvT hZ (own_w197 hw)) (mvT hZ (own_w198 hw)) (mvT hZ (own_w199 hw)) (by decide) (backOf (W := 1) (rmss lL Z a0 hw [] s m h0 n0 Z0 F_map_s E_m F_size_m) hZ (own_w200 hw) (own_w59 hw) (by decide) (by decide)) q_3a q_3b q_3c (g := (mkF mI 8 #[.val (.ref t), .unset, .unset, .unset, .unset, .unset, .unset, .unset] [(.ref s), (.int (0 : Int32))])) rfl (by rw [hml]; rfl) (Steps.refl _) (argsL := []) (rest := [(.int (0 : Int32))]) (lenOf pd_7 rfl) rfl (by show 2 * 0 + _ ≤ _; exact Nat.le_of_eq rfl) (hb hby dM9_8) (fun _ _ => ⟨rfl, e_2, (by decide : 0 + 0 ≤ _), (by decide : 0 + 0 ≤ _)⟩)
  dsimp only [Pt.U, Pt.locs, Pt.cells, Pt.slots] at X_3 l_3 y_3 z_3 st_3 hQ_3
  subst l_3 y_3 z_3
  obtain ⟨rfl, N_3q, eh_3⟩ := hQ_3
  have N_3 := Fr.app N0 N_3q
  refine hst (fun _ kt => st_3.trans kt) ?_
  show G (T_3.setTop (mkF mI 13 #[.val (.ref t), .unset, .unset, .unset, .unset, .unset, .unset, .unset] [(.int (0 : Int32)), (.int (0 : Int32))]))
  refine o_iadd hst X_3.here hx (hb hby dM9_13) (pc' := 14) rfl ?_
  rw [show ((0 : Int32) + (0 : Int32)) = (0 : Int32) from by decide]
  show G (T_3.setTop (mkF mI 14 #[.val (.ref t), .unset, .unset, .unset, .unset, .unset, .unset, .unset] [(.int (0 : Int32))]))
  refine o_istoreN hst X_3.here hx (hb hby dM9_14) (pc' := 15) rfl (Lt := #[.val (.ref t), .val (.int (0 : Int32)), .unset, .unset, .unset, .unset, .unset, .unset]) rfl ?_
  refine o_iloadN hst X_3.here hx (hb hby dM9_15) (pc' := 16) rfl rfl ?_
  obtain ⟨T_4, h_4, k_x1, X_4, e_4, E_4, A_4, st_4⟩ := newP (aty := .int) X_3 hx hZ (own_w39 hw) eh_3 (g := (mkF mI 16 #[.val (.ref t), .val (.int (0 : Int32)), .unset, .unset, .unset, .unset, .unset, .unset] [(.int (0 : Int32))])) rfl (hb hby dM9_16) rfl (by decide) (cap := 0) (by decide) (by decide) (by decide) (by decide)
  obtain ⟨x1, g_x1⟩ : ∃ z, z = h0.size := ⟨_, rfl⟩
  rw [← g_x1] at A_4 st_4
  have ne_t_x1 : t ≠ x1 := Nat.ne_of_lt (Nat.lt_of_lt_of_le E_t.lt (Nat.le_of_eq g_x1.symm))
  have ne_s_x1 : s ≠ x1 := Nat.ne_of_lt (Nat.lt_of_lt_of_le E_s.lt (Nat.le_of_eq g_x1.symm))
  have ne_m_x1 : m ≠ x1 := Nat.ne_of_lt (Nat.lt_of_lt_of_le E_m.lt (Nat.le_of_eq g_x1.symm))
  have ne_bf_x1 : bf ≠ x1 := Nat.ne_of_lt (Nat.lt_of_lt_of_le V_bf.lt (Nat.le_of_eq g_x1.symm))
  have ne_ks_x1 : ks ≠ x1 := Nat.ne_of_lt (Nat.lt_of_lt_of_le E_ks.lt (Nat.le_of_eq g_x1.symm))
  have le_n0_x1 : n0 ≤ x1 := Nat.le_trans Z0 (Nat.le_of_eq g_x1.symm)
  have le_hh_x1 : h0.size ≤ x1 := Nat.le_trans Z1 (Nat.le_of_eq g_x1.symm)
  have Z0 := Nat.le_trans Z0 E_4.1
  have Z1 := Nat.le_trans Z1 E_4.1
  have K0 := K0.ext E_4
  have E_t := E_t.ext E_4
  have F_size_t := F_size_t.ext E_4
  have F_otherGraphs_t := F_otherGraphs_t.ext E_4
  have F_firstGraphs_t := F_firstGraphs_t.ext E_4
  have V_bf := V_bf.ext E_4
  have E_s := E_s.ext E_4
  have F_map_s := F_map_s.ext E_4
  have E_m := E_m.ext E_4
  have F_size_m := F_size_m.ext E_4
  have F_keySet_m := F_keySet_m.ext E_4
  have F_head_m := F_head_m.ext E_4
  have F_modCount_m := F_modCount_m.ext E_4
  have E_ks := E_ks.ext E_4
  have F_this_0_ks := F_this_0_ks.ext E_4
  have F_reversed_ks := F_reversed_ks.ext E_4
  have V_x1 : Arv Z h_4 x1 k_x1 .int (0 : Int32) [] (.int (0 : Int32)) := Arv.new A_4 (by decide)
  refine hst st_4 ?_
  show G (T_4.setTop (mkF mI 18 #[.val (.ref t), .val (.int (0 : Int32)), .unset, .unset, .unset, .unset, .unset, .unset] [(.ref x1)]))
  refine o_astoreN hst X_4.here hx (hb hby dM9_18) (pc' := 19) rfl (Lt := #[.val (.ref t), .val (.int (0 : Int32)), .val (.ref x1), .unset, .unset, .unset, .unset, .unset]) rfl rfl ?_
  refine o_iloadN hst X_4.here hx (hb hby dM9_19) (pc' := 20) rfl rfl ?_
  obtain ⟨T_5, h_5, k_x2, X_5, e_5, E_5, A_5, st_5⟩ := newP (aty := .int) X_4 hx hZ (own_w39 hw) e_4 (g := (mkF mI 20 #[.val (.ref t), .val (.int (0 : Int32)), .val (.ref x1), .unset, .unset, .unset, .unset, .unset] [(.int (0 : Int32))])) rfl (hb hby dM9_20) rfl (by decide) (cap := 0) (by decide) (by decide) (by decide) (by decide)
  obtain ⟨x2, g_x2⟩ : ∃ z, z = h_4.size := ⟨_, rfl⟩
  rw [← g_x2] at A_5 st_5
  have ne_t_x2 : t ≠ x2 := Nat.ne_of_lt (Nat.lt_of_lt_of_le E_t.lt (Nat.le_of_eq g_x2.symm))
  have ne_s_x2 : s ≠ x2 := Nat.ne_of_lt (Nat.lt_of_lt_of_le E_s.lt (Nat.le_of_eq g_x2.symm))
  have ne_m_x2 : m ≠ x2 := Nat.ne_of_lt (Nat.lt_of_lt_of_le E_m.lt (Nat.le_of_eq g_x2.symm))
  have ne_bf_x2 : bf ≠ x2 := Nat.ne_of_lt (Nat.lt_of_lt_of_le V_bf.lt (Nat.le_of_eq g_x2.symm))
  have ne_ks_x2 : ks ≠ x2 := Nat.ne_of_lt (Nat.lt_of_lt_of_le E_ks.lt (Nat.le_of_eq g_x2.symm))
  have ne_x1_x2 : x1 ≠ x2 := Nat.ne_of_lt (Nat.lt_of_lt_of_le V_x1.lt (Nat.le_of_eq g_x2.symm))
  have le_n0_x2 : n0 ≤ x2 := Nat.le_trans Z0 (Nat.le_of_eq g_x2.symm)
  have le_hh_x2 : h0.size ≤ x2 := Nat.le_trans Z1 (Nat.le_of_eq g_x2.symm)
  have Z0 := Nat.le_trans Z0 E_5.1
  have Z1 := Nat.le_trans Z1 E_5.1
  have K0 := K0.ext E_5
  have E_t := E_t.ext E_5
  have F_size_t := F_size_t.ext E_5
  have F_otherGraphs_t := F_otherGraphs_t.ext E_5
  have F_firstGraphs_t := F_firstGraphs_t.ext E_5
  have V_bf := V_bf.ext E_5
  have E_s := E_s.ext E_5
  have F_map_s := F_map_s.ext E_5
  have E_m := E_m.ext E_5
  have F_size_m := F_size_m.ext E_5
  have F_keySet_m := F_keySet_m.ext E_5
  have F_head_m := F_head_m.ext E_5
  have F_modCount_m := F_modCount_m.ext E_5
  have E_ks := E_ks.ext E_5
  have F_this_0_ks := F_this_0_ks.ext E_5
  have F_reversed_ks := F_reversed_ks.ext E_5
  have V_x1 := V_x1.ext E_5
  have V_x2 : Arv Z h_5 x2 k_x2 .int (0 : Int32) [] (.int (0 : Int32)) := Arv.new A_5 (by decide)
  refine hst st_5 ?_
  show G (T_5.setTop (mkF mI 22 #[.val (.ref t), .val (.int (0 : Int32)), .val (.ref x1), .unset, .unset, .unset, .unset, .unset] [(.ref x2)]))
  refine o_astoreN hst X_5.here hx (hb hby dM9_22) (pc' := 23) rfl (Lt := #[.val (.ref t), .val (.int (0 : Int32)), .val (.ref x1), .val (.ref x2), .unset, .unset, .unset, .unset]) rfl rfl ?_
  refine o_iconst hst X_5.here hx (hb hby dM9_23) (pc' := 24) rfl (z := (0 : Int32)) rfl ?_
  refine o_istore hst X_5.here hx (hb hby dM9_24) (pc' := 26) rfl (Lt := #[.val (.ref t), .val (.int (0 : Int32)), .val (.ref x1), .val (.ref x2), .val (.int (0 : Int32)), .unset, .unset, .unset]) rfl ?_
  refine o_iload hst X_5.here hx (hb hby dM9_26) (pc' := 28) rfl rfl ?_
  refine o_aloadN hst X_5.here hx (hb hby dM9_28) (pc' := 29) rfl rfl rfl ?_
  obtain ⟨T_6, X_6, e_6, st_6⟩ := getF X_5 hx hZ hown (host := "") (Or.inl (own_w157 hw)) Via.refl e_5 F_size_t (g := (mkF mI 29 #[.val (.ref t), .val (.int (0 : Int32)), .val (.ref x1), .val (.ref x2), .val (.int (0 : Int32)), .unset, .unset, .unset] [(.ref t), (.int (0 : Int32))])) rfl rfl (hb hby dM9_29)
  refine hst st_6 ?_
  show G (T_6.setTop (mkF mI 32 #[.val (.ref t), .val (.int (0 : Int32)), .val (.ref x1), .val (.ref x2), .val (.int (0 : Int32)), .unset, .unset, .unset] [(.int (0 : Int32)), (.int (0 : Int32))]))
  have hc32 : ¬ ((0 : Int32) < (0 : Int32)) := by decide
  refine hst (fun _ kt => XS.icmpYes X_6.here hx rfl (pc0 := 32) (pc' := 58) rfl (hb hby dM9_32) rfl (flt hc32).2.1 (by decide) (by decide) kt) ?_
  show G (T_6.setTop (mkF mI 58 #[.val (.ref t), .val (.int (0 : Int32)), .val (.ref x1), .val (.ref x2), .val (.int (0 : Int32)), .unset, .unset, .unset] []))
  refine o_aloadN hst X_6.here hx (hb hby dM9_58) (pc' := 59) rfl rfl rfl ?_
  obtain ⟨T_7, X_7, e_7, st_7⟩ := getF X_6 hx hZ hown (host := "") (Or.inl (own_w157 hw)) Via.refl e_6 F_size_t (g := (mkF mI 59 #[.val (.ref t), .val (.int (0 : Int32)), .val (.ref x1), .val (.ref x2), .val (.int (0 : Int32)), .unset, .unset, .unset] [(.ref t)])) rfl rfl (hb hby dM9_59)
  refine hst st_7 ?_
  show G (T_7.setTop (mkF mI 62 #[.val (.ref t), .val (.int (0 : Int32)), .val (.ref x1), .val (.ref x2), .val (.int (0 : Int32)), .unset, .unset, .unset] [(.int (0 : Int32))]))
  refine o_istore hst X_7.here hx (hb hby dM9_62) (pc' := 64) rfl (Lt := #[.val (.ref t), .val (.int (0 : Int32)), .val (.ref x1), .val (.ref x2), .val (.int (0 : Int32)), .unset, .unset, .unset]) rfl ?_
  refine o_aloadN hst X_7.here hx (hb hby dM9_64) (pc' := 65) rfl rfl rfl ?_
  obtain ⟨T_8, X_8, e_8, st_8⟩ := getF X_7 hx hZ hown (host := "") (Or.inl (own_w117 hw)) Via.refl e_7 F_otherGraphs_t (g := (mkF mI 65 #[.val (.ref t), .val (.int (0 : Int32)), .val (.ref x1), .val (.ref x2), .val (.int (0 : Int32)), .unset, .unset, .unset] [(.ref t)])) rfl rfl (hb hby dM9_65)
  refine hst st_8 ?_
  show G (T_8.setTop (mkF mI 68 #[.val (.ref t), .val (.int (0 : Int32)), .val (.ref x1), .val (.ref x2), .val (.int (0 : Int32)), .unset, .unset, .unset] [(.ref s)]))
  obtain ⟨cq_9, kq_9, q_9a, q_9b, q_9c⟩ := isOf hZ e_8 E_s
  obtain ⟨_, _, ⟨T_9, L_9, k_9, n_9⟩, -, X_9, ⟨Lc_9, hQ_9, l_9, y_9, z_9⟩, st_9⟩ := X_8.interfaceBack hx (xi := (⟨"java/util/Set", "iterator", "()Ljava/util/Iterator;"⟩ : MethodName)) (y := (⟨"java/util/HashSet", "iterator", "()Ljava/util/Iterator;"⟩ : MethodName)) hown (mvT hZ (own_w208 hw)) (mvT hZ (own_w209 hw)) (mvT hZ (own_w210 hw)) (mvT hZ (own_w211 hw)) (mvT hZ (own_w212 hw)) (mvT hZ (own_w213 hw)) (mvT hZ (own_w214 hw)) (mvT hZ (own_w199 hw)) (by decide) (backOf (W := 0) (rmsj lL Z a0 hw [] s m ks h_5 n0 Z0 F_map_s E_m F_size_m F_keySet_m F_head_m F_modCount_m E_ks F_this_0_ks F_reversed_ks le_n0_m) hZ (own_w215 hw) (own_w59 hw) (by decide) (by decide)) q_9a q_9b q_9c (g := (mkF mI 68 #[.val (.ref t), .val (.int (0 : Int32)), .val (.ref x1), .val (.ref x2), .val (.int (0 : Int32)), .unset, .unset, .unset] [(.ref s)])) rfl (by rw [hml]; rfl) (Steps.refl _) (argsL := []) (rest := []) (lenOf pd_11 rfl) rfl (by show 2 * 0 + _ ≤ _; exact Nat.le_of_eq rfl) (hb hby dM9_68) (fun _ _ => ⟨rfl, e_8, (by decide : 2 + 1 ≤ _), (by decide : 0 + 5 ≤ _)⟩)
  dsimp only [Pt.U, Pt.locs, Pt.cells, Pt.slots] at X_9 l_9 y_9 z_9 st_9 hQ_9
  subst l_9 y_9 z_9
  obtain ⟨it, rfl, N_9q, K_9, E_it, F_next_it⟩ := hQ_9
  have Z0 := Nat.le_trans Z0 K_9.1
  have Z1 := Nat.le_trans Z1 K_9.1
  have K0 := K0.trans K_9 all0
  have E_t := E_t.keep K_9
  have F_size_t := F_size_t.keep K_9 nin0
  have F_otherGraphs_t := F_otherGraphs_t.keep K_9 nin0
  have F_firstGraphs_t := F_firstGraphs_t.keep K_9 nin0
  have V_bf := V_bf.keep K_9 nin0
  have E_s := E_s.keep K_9
  have F_map_s := F_map_s.keep K_9 nin0
  have E_m := E_m.keep K_9
  have F_size_m := F_size_m.keep K_9 nin0
  have F_keySet_m := F_keySet_m.keep K_9 nin0
  have F_head_m := F_head_m.keep K_9 nin0
  have F_modCount_m := F_modCount_m.keep K_9 nin0
  have E_ks := E_ks.keep K_9
  have F_this_0_ks := F_this_0_ks.keep K_9 nin0
  have F_reversed_ks := F_reversed_ks.keep K_9 nin0
  have N_9 := Fr.app N_3 N_9q
  refine hst (fun _ kt => st_9.trans kt) ?_
  show G (T_9.setTop (mkF mI 73 #[.val (.ref t), .val (.int (0 : Int32)), .val (.ref x1), .val (.ref x2), .val (.int (0 : Int32)), .unset, .unset, .unset] [(.ref it)]))
  refine o_astore hst X_9.here hx (hb hby dM9_73) (pc' := 75) rfl (Lt := #[.val (.ref t), .val (.int (0 : Int32)), .val (.ref x1), .val (.ref x2), .val (.int (0 : Int32)), .val (.ref it), .unset, .unset]) rfl rfl ?_
  refine o_aload hst X_9.here hx (hb hby dM9_75) (pc' := 77) rfl rfl rfl ?_
  obtain ⟨cq_10, kq_10, q_10a, q_10b, q_10c⟩ := isOf hZ rfl E_it
  obtain ⟨_, _, ⟨T_10, L_10, k_10, n_10⟩, -, X_10, ⟨Lc_10, hQ_10, l_10, y_10, z_10⟩, st_10⟩ := X_9.interfaceBack hx (xi := (⟨"java/util/Iterator", "hasNext", "()Z"⟩ : MethodName)) (y := (⟨"java/util/LinkedHashMap$LinkedHashIterator", "hasNext", "()Z"⟩ : MethodName)) hown (mvT hZ (own_w280 hw)) (mvT hZ (own_w281 hw)) (mvT hZ (own_w282 hw)) (mvT hZ (own_w283 hw)) (mvT hZ (own_w284 hw)) (mvT hZ (own_w285 hw)) (mvT hZ (own_w286 hw)) (mvT hZ (own_w287 hw)) (by decide) (backOf (W := 0) (rmhn lL Z a0 hw [] it  T_9.heap n0 Z0 F_next_it) hZ (own_w288 hw) (own_w262 hw) (by decide) (by decide)) q_10a q_10b q_10c (g := (mkF mI 77 #[.val (.ref t), .val (.int (0 : Int32)), .val (.ref x1), .val (.ref x2), .val (.int (0 : Int32)), .val (.ref it), .unset, .unset] [(.ref it)])) rfl (by rw [hml]; rfl) (Steps.refl _) (argsL := []) (rest := []) (lenOf pd_12 rfl) rfl (by show 2 * 0 + _ ≤ _; exact Nat.le_of_eq rfl) (hb hby dM9_77) (fun _ _ => ⟨rfl, rfl, (by decide : 3 + 0 ≤ _), (by decide : 5 + 0 ≤ _)⟩)
  dsimp only [Pt.U, Pt.locs, Pt.cells, Pt.slots] at X_10 l_10 y_10 z_10 st_10 hQ_10
  subst l_10 y_10 z_10
  obtain ⟨rfl, N_10q, eh_10⟩ := hQ_10
  have N_10 := Fr.app N_9 N_10q
  refine hst (fun _ kt => st_10.trans kt) ?_
  show G (T_10.setTop (mkF mI 82 #[.val (.ref t), .val (.int (0 : Int32)), .val (.ref x1), .val (.ref x2), .val (.int (0 : Int32)), .val (.ref it), .unset, .unset] [(.int (0 : Int32))]))
  have hc82 : (0 : Int32) = (0 : Int32) := rfl
  refine hst (fun _ kt => XS.ifYes X_10.here hx rfl (pc0 := 82) (pc' := 123) rfl (hb hby dM9_82) rfl ((if0 _ _).trans (teq hc82).1) (by decide) (by decide) kt) ?_
  show G (T_10.setTop (mkF mI 123 #[.val (.ref t), .val (.int (0 : Int32)), .val (.ref x1), .val (.ref x2), .val (.int (0 : Int32)), .val (.ref it), .unset, .unset] []))
  obtain ⟨T_11, h_11, X_11, e_11, E_11, A_11, D_11, -, st_11⟩ := newO X_10 hx hZ hown (own_w289 hw) (own_w290 hw) (own_w291 hw) eh_10 (g := (mkF mI 123 #[.val (.ref t), .val (.int (0 : Int32)), .val (.ref x1), .val (.ref x2), .val (.int (0 : Int32)), .val (.ref it), .unset, .unset] [])) rfl (hb hby dM9_123) (by decide) (by decide)
  obtain ⟨mb, g_mb⟩ : ∃ z, z = T_9.heap.size := ⟨_, rfl⟩
  rw [← g_mb] at A_11 D_11 st_11
  have ne_t_mb : t ≠ mb := Nat.ne_of_lt (Nat.lt_of_lt_of_le E_t.lt (Nat.le_of_eq g_mb.symm))
  have ne_s_mb : s ≠ mb := Nat.ne_of_lt (Nat.lt_of_lt_of_le E_s.lt (Nat.le_of_eq g_mb.symm))
  have ne_m_mb : m ≠ mb := Nat.ne_of_lt (Nat.lt_of_lt_of_le E_m.lt (Nat.le_of_eq g_mb.symm))
  have ne_bf_mb : bf ≠ mb := Nat.ne_of_lt (Nat.lt_of_lt_of_le V_bf.lt (Nat.le_of_eq g_mb.symm))
  have ne_ks_mb : ks ≠ mb := Nat.ne_of_lt (Nat.lt_of_lt_of_le E_ks.lt (Nat.le_of_eq g_mb.symm))
  have ne_it_mb : it ≠ mb := Nat.ne_of_lt (Nat.lt_of_lt_of_le E_it.lt (Nat.le_of_eq g_mb.symm))
  have le_n0_mb : n0 ≤ mb := Nat.le_trans Z0 (Nat.le_of_eq g_mb.symm)
  have le_hh_mb : h0.size ≤ mb := Nat.le_trans Z1 (Nat.le_of_eq g_mb.symm)
  have Z0 := Nat.le_trans Z0 E_11.1
  have Z1 := Nat.le_trans Z1 E_11.1
  have K0 := K0.ext E_11
  have E_t := E_t.ext E_11
  have F_size_t := F_size_t.ext E_11
  have F_otherGraphs_t := F_otherGraphs_t.ext E_11
  have F_firstGraphs_t := F_firstGraphs_t.ext E_11
  have V_bf := V_bf.ext E_11
  have E_s := E_s.ext E_11
  have F_map_s := F_map_s.ext E_11
  have E_m := E_m.ext E_11
  have F_size_m := F_size_m.ext E_11
  have F_keySet_m := F_keySet_m.ext E_11
  have F_head_m := F_head_m.ext E_11
  have F_modCount_m := F_modCount_m.ext E_11
  have E_ks := E_ks.ext E_11
  have F_this_0_ks := F_this_0_ks.ext E_11
  have F_reversed_ks := F_reversed_ks.ext E_11
  have E_it := E_it.ext E_11
  have F_next_it := F_next_it.ext E_11
  have E_mb : Exa Z h_11 mb own_MB := A_11
  have F_triples_mb : Fld Z h_11 mb own_MB "triples" "[I" .null := D_11 (Or.inr (own_w302 hw)) (ty := (.array .int)) (by decide)
  have F_graphs_mb : Fld Z h_11 mb own_MB "graphs" "[I" .null := D_11 (Or.inr (own_w304 hw)) (ty := (.array .int)) (by decide)
  refine hst st_11 ?_
  show G (T_11.setTop (mkF mI 126 #[.val (.ref t), .val (.int (0 : Int32)), .val (.ref x1), .val (.ref x2), .val (.int (0 : Int32)), .val (.ref it), .unset, .unset] [(.ref mb)]))
  refine o_dup hst X_11.here hx (hb hby dM9_126) (pc' := 127) rfl rfl ?_
  refine o_aloadN hst X_11.here hx (hb hby dM9_127) (pc' := 128) rfl rfl rfl ?_
  refine o_aloadN hst X_11.here hx (hb hby dM9_128) (pc' := 129) rfl rfl rfl ?_
  obtain ⟨_, _, ⟨T_12, L_12, k_12, n_12⟩, -, X_12, ⟨Lc_12, hQ_12, l_12, y_12, z_12⟩, st_12⟩ := X_11.specialBack hx (y := (⟨own_MB, "<init>", "([I[I)V"⟩ : MethodName)) rfl hown (mvT hZ (own_w292 hw)) (mvT hZ (own_w293 hw)) (mvT hZ (own_w294 hw)) (by decide) (backOf (W := 1) (rmmb lL Z a0 hw [] mb x1 x2  h_11 n0 Z0 F_triples_mb F_graphs_mb E_mb le_n0_mb) hZ (own_w294 hw) (own_w291 hw) (by decide) (by decide)) (g := (mkF mI 129 #[.val (.ref t), .val (.int (0 : Int32)), .val (.ref x1), .val (.ref x2), .val (.int (0 : Int32)), .val (.ref it), .unset, .unset] [(.ref x2), (.ref x1), (.ref mb), (.ref mb)])) rfl (by rw [hml]; rfl) (Steps.refl _) (a := mb) (argsL := [(.ref x1), (.ref x2)]) (rest := [(.ref mb)]) (lenOf pd_13 rfl) rfl (by show 2 * 0 + _ ≤ _; exact Nat.le_of_eq rfl) (hb hby dM9_129) (fun _ _ => ⟨rfl, e_11, (by decide : 4 + 0 ≤ _), (by decide : 7 + 0 ≤ _)⟩)
  dsimp only [Pt.U, Pt.locs, Pt.cells, Pt.slots] at X_12 l_12 y_12 z_12 st_12 hQ_12
  subst l_12 y_12 z_12
  obtain ⟨rfl, N_12q, K_12⟩ := hQ_12
  have Z0 := Nat.le_trans Z0 K_12.1
  have Z1 := Nat.le_trans Z1 K_12.1
  have K0 := K0.trans K_12 (allS (Or.inr le_hh_mb) all0)
  have E_t := E_t.keep K_12
  have F_size_t := F_size_t.keep K_12 (ninS ne_t_mb nin0)
  have F_otherGraphs_t := F_otherGraphs_t.keep K_12 (ninS ne_t_mb nin0)
  have F_firstGraphs_t := F_firstGraphs_t.keep K_12 (ninS ne_t_mb nin0)
  have V_bf := V_bf.keep K_12 (ninS ne_bf_mb nin0)
  have E_s := E_s.keep K_12
  have F_map_s := F_map_s.keep K_12 (ninS ne_s_mb nin0)
  have E_m := E_m.keep K_12
  have F_size_m := F_size_m.keep K_12 (ninS ne_m_mb nin0)
  have F_keySet_m := F_keySet_m.keep K_12 (ninS ne_m_mb nin0)
  have F_head_m := F_head_m.keep K_12 (ninS ne_m_mb nin0)
  have F_modCount_m := F_modCount_m.keep K_12 (ninS ne_m_mb nin0)
  have E_ks := E_ks.keep K_12
  have F_this_0_ks := F_this_0_ks.keep K_12 (ninS ne_ks_mb nin0)
  have F_reversed_ks := F_reversed_ks.keep K_12 (ninS ne_ks_mb nin0)
  have E_it := E_it.keep K_12
  have F_next_it := F_next_it.keep K_12 (ninS ne_it_mb nin0)
  have E_mb := E_mb.keep K_12
  have N_12 := Fr.app N_10 N_12q
  refine hst (fun _ kt => st_12.trans kt) ?_
  show G (T_12.setTop (mkF mI 132 #[.val (.ref t), .val (.int (0 : Int32)), .val (.ref x1), .val (.ref x2), .val (.int (0 : Int32)), .val (.ref it), .unset, .unset] [(.ref mb)]))
  exact hend (own_goRet X_12 hx Bd.returns rfl (Or.inr (Or.inr (Or.inr (Or.inr ⟨rfl, rfl, rfl⟩)))) (hb hby dM9_132) Bd.notSynchronized (by exact ⟨mb, rfl, N_12, K0⟩) (by decide) (by decide))
theorem dce_0 : decode jdk_43_method_3_code 0 = .ok (.iload_n 0, 1) := by decide +kernel
theorem dce_1 : decode jdk_43_method_3_code 1 = .ok (.sipush 255, 3) := by decide +kernel
theorem dce_4 : decode jdk_43_method_3_code 4 = .ok (.if_icmp .gt 7, 3) := by decide +kernel
theorem dce_7 : decode jdk_43_method_3_code 7 = .ok (.iconst 1, 1) := by decide +kernel
theorem dce_8 : decode jdk_43_method_3_code 8 = .ok (.goto 4, 3) := by decide +kernel
theorem dce_12 : decode jdk_43_method_3_code 12 = .ok (.ireturn, 1) := by decide +kernel
theorem ef_ce (mI : MethodId) (y : Int32) : entryFrame mI #[(.int y)] 1 = mkF mI 0 #[.val (.int y)] [] := by first | (simp [entryFrame, mkF, argsToLocals, Value.category]; done) | rfl
theorem pn_ce : plainName "java/lang/StringLatin1" = true := by first | decide +kernel | (simp [plainName, overriddenIn]; done)
set_option maxRecDepth 65536 in
set_option maxHeartbeats 40000000 in
theorem rmce (lL : Launch) (Z : State) (a0 : Array Value) (hw : ∀ d ∈ tables_1, d.before a0 Z = true) (ws : List Jvm.Cond) (y : Int32) (h0 : Heap) (n0 : Nat) (Z0 : n0 ≤ h0.size) (hy : ¬ (255 : Int32) < y) :
    MetFree lL (⟨"java/lang/StringLatin1", "canEncode", "(C)Z"⟩ : MethodName) (head1 (Jvm.Cond.code (⟨"java/lang/StringLatin1", "canEncode", "(C)Z"⟩ : MethodName) jdk_43_method_3_code 1 (some .boolean) :: ws) ({ frames := 0, cells := 0, slots := 0, locals := 0 } : Room)) (fun a_ U_ => a_ = #[(.int y)] ∧ Z.Warmed39 U_.vm ∧ U_.heap = h0) (fun _ _ _ _ _ => True) (fun _ U_ o_ W_ => ∃ v_ L_, o_ = .returned v_ ∧ own_QI (1 : Int32) h0 n0 v_ W_.heap L_ ∧ FrameEnd U_ o_ W_ L_ ({ frames := 0, cells := 0, slots := 0, locals := 0 } : Room).cells ({ frames := 0, cells := 0, slots := 0, locals := 0 } : Room).slots) := by
  refine MetFree.of_bodySF (plainFor_of_name pn_ce) hisR ?_
  intro pP eE sS mI args below meth cC s₁ Bd hml0 hP hK
  obtain ⟨rfl, hZ, hh⟩ := hP
  have hx := Bd.exec
  have hby := Bd.bytes
  have hml : cC.maxLocals = 1 := hml0
  have hown : sS.vm.findClass "java/lang/StringLatin1" = some mI.cls := by have z := findClass_of_methodNamed Bd.named; exact z
  have hnm := (name_of_methodNamed Bd.named Bd.method).1
  have X0 : Stand pP lL eE ({ frames := 0, cells := 0, slots := 0, locals := 0 } : Room) sS mI #[(.int y)] below meth cC s₁ [] 0 0 := Stand.of_body Bd
  have e0 : s₁.heap = h0 := by rw [← hh, Bd.state]; rfl
  have N0 := Fr.nil n0
  obtain ⟨G, hG, hst, hend⟩ := own_abs pP eE below sS (own_QI (1 : Int32) h0 n0) ({ frames := 0, cells := 0, slots := 0, locals := 0 } : Room).cells ({ frames := 0, cells := 0, slots := 0, locals := 0 } : Room).slots
  refine hG (S := s₁.setTop (entryFrame mI #[(.int y)] 1)) (hst (fun t_ kt_ => castTop (ef_ce mI y) kt_) ?_)
  show G (s₁.setTop (mkF mI 0 #[.val (.int y)] []))
  refine o_iloadN hst X0.here hx (hb hby dce_0) (pc' := 1) rfl rfl ?_
  refine o_sipush hst X0.here hx (hb hby dce_1) (pc' := 4) rfl (z := (255 : Int32)) rfl ?_
  have hc4 : ¬ ((255 : Int32) < y) := hy
  refine hst (fun _ kt => XS.icmpNo X0.here hx rfl (hb hby dce_4) rfl (flt hc4).2.2.1 kt) ?_
  show G (s₁.setTop (mkF mI 7 #[.val (.int y)] []))
  refine o_iconst hst X0.here hx (hb hby dce_7) (pc' := 8) rfl (z := (1 : Int32)) rfl ?_
  refine o_goto hst X0.here hx (hb hby dce_8) (by decide) (pc' := 12) (by decide) ?_
  exact hend (own_goRet X0 hx Bd.returns rfl (Or.inl ⟨rfl, by simp, _, rfl⟩) (hb hby dce_12) Bd.notSynchronized (by rw [e0]; exact ⟨rfl, N0, rfl⟩) (by decide) (by decide))
def own_Qtb (Z : State) (y : Int32) (h0 : Heap) (n0 : Nat) (v : Option Value) (h : Heap) (L : List Loc) : Prop := ∃ (b : Addr) (k : ClassId), v = some (.ref b) ∧ Fr n0 L ∧ Keep h0 h [] ∧ h0.size ≤ b ∧ Arv Z h b k .byte (1 : Int32) [(.int (nar .byte (y.toInt8.toInt32)))] (.int (0 : Int32))
theorem dtb_0 : decode jdk_43_method_46_code 0 = .ok (.iconst 1, 1) := by decide +kernel
theorem dtb_1 : decode jdk_43_method_46_code 1 = .ok (.newarray .byte, 2) := by decide +kernel
theorem dtb_3 : decode jdk_43_method_46_code 3 = .ok (.dup, 1) := by decide +kernel
theorem dtb_4 : decode jdk_43_method_46_code 4 = .ok (.iconst 0, 1) := by decide +kernel
theorem dtb_5 : decode jdk_43_method_46_code 5 = .ok (.iload_n 0, 1) := by decide +kernel
theorem dtb_6 : decode jdk_43_method_46_code 6 = .ok (.i2b, 1) := by decide +kernel
theorem dtb_7 : decode jdk_43_method_46_code 7 = .ok (.bastore, 1) := by decide +kernel
theorem dtb_8 : decode jdk_43_method_46_code 8 = .ok (.areturn, 1) := by decide +kernel
theorem ef_tb (mI : MethodId) (y : Int32) : entryFrame mI #[(.int y)] 1 = mkF mI 0 #[.val (.int y)] [] := by first | (simp [entryFrame, mkF, argsToLocals, Value.category]; done) | rfl
theorem pn_tb : plainName "java/lang/StringLatin1" = true := by first | decide +kernel | (simp [plainName, overriddenIn]; done)
set_option maxRecDepth 65536 in
set_option maxHeartbeats 40000000 in
theorem rmtb (lL : Launch) (Z : State) (a0 : Array Value) (hw : ∀ d ∈ tables_1, d.before a0 Z = true) (ws : List Jvm.Cond) (y : Int32) (h0 : Heap) (n0 : Nat) (Z0 : n0 ≤ h0.size) :
    MetFree lL (⟨"java/lang/StringLatin1", "toBytes", "(C)[B"⟩ : MethodName) (head1 (Jvm.Cond.code (⟨"java/lang/StringLatin1", "toBytes", "(C)[B"⟩ : MethodName) jdk_43_method_46_code 1 (some (.array .byte)) :: ws) ({ frames := 0, cells := 1, slots := 1, locals := 0 } : Room)) (fun a_ U_ => a_ = #[(.int y)] ∧ Z.Warmed39 U_.vm ∧ U_.heap = h0) (fun _ _ _ _ _ => True) (fun _ U_ o_ W_ => ∃ v_ L_, o_ = .returned v_ ∧ own_Qtb Z y h0 n0 v_ W_.heap L_ ∧ FrameEnd U_ o_ W_ L_ ({ frames := 0, cells := 1, slots := 1, locals := 0 } : Room).cells ({ frames := 0, cells := 1, slots := 1, locals := 0 } : Room).slots) := by
  refine MetFree.of_bodySF (plainFor_of_name pn_tb) hisR ?_
  intro pP eE sS mI args below meth cC s₁ Bd hml0 hP hK
  obtain ⟨rfl, hZ, hh⟩ := hP
  have hx := Bd.exec
  have hby := Bd.bytes
  have hml : cC.maxLocals = 1 := hml0
  have hown : sS.vm.findClass "java/lang/StringLatin1" = some mI.cls := by have z := findClass_of_methodNamed Bd.named; exact z
  have hnm := (name_of_methodNamed Bd.named Bd.method).1
  have X0 : Stand pP lL eE ({ frames := 0, cells := 1, slots := 1, locals := 0 } : Room) sS mI #[(.int y)] below meth cC s₁ [] 0 0 := Stand.of_body Bd
  have e0 : s₁.heap = h0 := by rw [← hh, Bd.state]; rfl
  have N0 := Fr.nil n0
  obtain ⟨G, hG, hst, hend⟩ := own_abs pP eE below sS (own_Qtb Z y h0 n0) ({ frames := 0, cells := 1, slots := 1, locals := 0 } : Room).cells ({ frames := 0, cells := 1, slots := 1, locals := 0 } : Room).slots
  refine hG (S := s₁.setTop (entryFrame mI #[(.int y)] 1)) (hst (fun t_ kt_ => castTop (ef_tb mI y) kt_) ?_)
  have Z1 := Nat.le_refl h0.size
  have K0 := Keep.refl h0 []
  show G (s₁.setTop (mkF mI 0 #[.val (.int y)] []))
  refine o_iconst hst X0.here hx (hb hby dtb_0) (pc' := 1) rfl (z := (1 : Int32)) rfl ?_
  obtain ⟨T_1, h_1, k_b, X_1, e_1, E_1, A_1, st_1⟩ := newP (aty := .byte) X0 hx hZ (own_w20 hw) e0 (g := (mkF mI 1 #[.val (.int y)] [(.int (1 : Int32))])) rfl (hb hby dtb_1) rfl (by decide) (cap := 1) (by decide) (by decide) (by decide) (by decide)
  obtain ⟨b, g_b⟩ : ∃ z, z = h0.size := ⟨_, rfl⟩
  rw [← g_b] at A_1 st_1
  have le_n0_b : n0 ≤ b := Nat.le_trans Z0 (Nat.le_of_eq g_b.symm)
  have le_hh_b : h0.size ≤ b := Nat.le_trans Z1 (Nat.le_of_eq g_b.symm)
  have Z0 := Nat.le_trans Z0 E_1.1
  have Z1 := Nat.le_trans Z1 E_1.1
  have K0 := K0.ext E_1
  have V_b : Arv Z h_1 b k_b .byte (1 : Int32) [(.int (0 : Int32))] (.int (0 : Int32)) := (Arv.new A_1 (by decide)).pad (pad_rep [] (.int (0 : Int32)) 1)
  refine hst st_1 ?_
  show G (T_1.setTop (mkF mI 3 #[.val (.int y)] [(.ref b)]))
  refine o_dup hst X_1.here hx (hb hby dtb_3) (pc' := 4) rfl rfl ?_
  refine o_iconst hst X_1.here hx (hb hby dtb_4) (pc' := 5) rfl (z := (0 : Int32)) rfl ?_
  refine o_iloadN hst X_1.here hx (hb hby dtb_5) (pc' := 6) rfl rfl ?_
  refine o_i2b hst X_1.here hx (hb hby dtb_6) (pc' := 7) rfl ?_
  obtain ⟨cl_2, Ar_2, q_2, S_2, M_2, Hs_2, Gs_2⟩ := V_b
  have hin_2 : ¬ ((0 : Int32) < 0 ∨ cl_2.slots.size ≤ ((0 : Int32)).toNatClampNeg) := inb_of S_2 ⟨by decide, by decide⟩
  obtain ⟨T_2, h_2, X_2, e_2, W_2, st_2⟩ := stB X_1 hx hZ e_1 Ar_2 (j := (0 : Int32)) hin_2 (g := (mkF mI 7 #[.val (.int y)] [(.int (y.toInt8.toInt32)), (.int (0 : Int32)), (.ref b), (.ref b)])) rfl rfl (hb hby dtb_7)
  have V_b := Arv.set Ar_2 q_2 S_2 M_2 Hs_2 Gs_2 (fits_nar_byte _) W_2 0 rfl (Nat.le_of_ble_eq_true rfl)
  have V_b : Arv Z h_2 b k_b .byte (1 : Int32) [(.int (nar .byte (y.toInt8.toInt32)))] (.int (0 : Int32)) := V_b
  have Z0 := Nat.le_trans Z0 (Keep.of_wr W_2).1
  have Z1 := Nat.le_trans Z1 (Keep.of_wr W_2).1
  have K0 := K0.wr W_2 (Or.inr le_hh_b)
  have N_2 := Fr.snoc X_2 N0 le_n0_b
  refine hst st_2 ?_
  show G (T_2.setTop (mkF mI 8 #[.val (.int y)] [(.ref b)]))
  exact hend (own_goRet X_2 hx Bd.returns rfl (Or.inr (Or.inr (Or.inr (Or.inr ⟨rfl, rfl, rfl⟩)))) (hb hby dtb_8) Bd.notSynchronized (by rw [e_2]; exact ⟨b, k_b, rfl, N_2, K0, le_hh_b, V_b⟩) (by decide) (by decide))
def own_Qsb (Z : State) (r b : Addr) (h0 : Heap) (n0 : Nat) (v : Option Value) (h : Heap) (L : List Loc) : Prop := v = none ∧ Fr n0 L ∧ Keep h0 h [r] ∧ Exa Z h r "java/lang/String" ∧ Fld Z h r "java/lang/String" "value" "[B" (.ref b) ∧ Fld Z h r "java/lang/String" "coder" "B" (.int (0 : Int32))
theorem dsb_0 : decode jdk_42_method_151_code 0 = .ok (.aload_n 0, 1) := by decide +kernel
theorem dsb_1 : decode jdk_42_method_151_code 1 = .ok (.invokespecial 1, 3) := by decide +kernel
theorem dsb_4 : decode jdk_42_method_151_code 4 = .ok (.aload_n 0, 1) := by decide +kernel
theorem dsb_5 : decode jdk_42_method_151_code 5 = .ok (.aload_n 1, 1) := by decide +kernel
theorem dsb_6 : decode jdk_42_method_151_code 6 = .ok (.putfield 9, 3) := by decide +kernel
theorem dsb_9 : decode jdk_42_method_151_code 9 = .ok (.aload_n 0, 1) := by decide +kernel
theorem dsb_10 : decode jdk_42_method_151_code 10 = .ok (.iload_n 2, 1) := by decide +kernel
theorem dsb_11 : decode jdk_42_method_151_code 11 = .ok (.putfield 15, 3) := by decide +kernel
theorem dsb_14 : decode jdk_42_method_151_code 14 = .ok (.return_, 1) := by decide +kernel
theorem ef_sb (mI : MethodId) (r : Addr) (b : Addr) : entryFrame mI #[(.ref r), (.ref b), (.int (0 : Int32))] 3 = mkF mI 0 #[.val (.ref r), .val (.ref b), .val (.int (0 : Int32))] [] := by first | (simp [entryFrame, mkF, argsToLocals, Value.category]; done) | rfl
theorem pn_sb : plainName "java/lang/String" = true := by first | decide +kernel | (simp [plainName, overriddenIn]; done)
set_option maxRecDepth 65536 in
set_option maxHeartbeats 40000000 in
theorem rmsb (lL : Launch) (Z : State) (a0 : Array Value) (hw : ∀ d ∈ tables_1, d.before a0 Z = true) (ws : List Jvm.Cond) (r : Addr) (b : Addr) (h0 : Heap) (n0 : Nat) (Z0 : n0 ≤ h0.size) (F_value_r : Fld Z h0 r "java/lang/String" "value" "[B" .null) (F_coder_r : Fld Z h0 r "java/lang/String" "coder" "B" (.int (0 : Int32))) (E_r : Exa Z h0 r "java/lang/String") (le_n0_r : n0 ≤ r) :
    MetFree lL (⟨"java/lang/String", "<init>", "([BB)V"⟩ : MethodName) (head1 (Jvm.Cond.code (⟨"java/lang/String", "<init>", "([BB)V"⟩ : MethodName) jdk_42_method_151_code 3 none :: ws) ({ frames := 1, cells := 0, slots := 0, locals := 12 } : Room)) (fun a_ U_ => a_ = #[(.ref r), (.ref b), (.int (0 : Int32))] ∧ Z.Warmed39 U_.vm ∧ U_.heap = h0) (fun _ _ _ _ _ => True) (fun _ U_ o_ W_ => ∃ v_ L_, o_ = .returned v_ ∧ own_Qsb Z r b h0 n0 v_ W_.heap L_ ∧ FrameEnd U_ o_ W_ L_ ({ frames := 1, cells := 0, slots := 0, locals := 12 } : Room).cells ({ frames := 1, cells := 0, slots := 0, locals := 12 } : Room).slots) := by
  refine MetFree.of_bodySF (plainFor_of_name pn_sb) hisR ?_
  intro pP eE sS mI args below meth cC s₁ Bd hml0 hP hK
  obtain ⟨rfl, hZ, hh⟩ := hP
  have hx := Bd.exec
  have hby := Bd.bytes
  have hml : cC.maxLocals = 3 := hml0
  have hown : sS.vm.findClass "java/lang/String" = some mI.cls := by have z := findClass_of_methodNamed Bd.named; exact z
  have hnm := (name_of_methodNamed Bd.named Bd.method).1
  have X0 : Stand pP lL eE ({ frames := 1, cells := 0, slots := 0, locals := 12 } : Room) sS mI #[(.ref r), (.ref b), (.int (0 : Int32))] below meth cC s₁ [] 0 0 := Stand.of_body Bd
  have e0 : s₁.heap = h0 := by rw [← hh, Bd.state]; rfl
  have N0 := Fr.nil n0
  obtain ⟨G, hG, hst, hend⟩ := own_abs pP eE below sS (own_Qsb Z r b h0 n0) ({ frames := 1, cells := 0, slots := 0, locals := 12 } : Room).cells ({ frames := 1, cells := 0, slots := 0, locals := 12 } : Room).slots
  refine hG (S := s₁.setTop (entryFrame mI #[(.ref r), (.ref b), (.int (0 : Int32))] 3)) (hst (fun t_ kt_ => castTop (ef_sb mI r b) kt_) ?_)
  have Z1 := Nat.le_refl h0.size
  have K0 := Keep.refl h0 [r]
  show G (s₁.setTop (mkF mI 0 #[.val (.ref r), .val (.ref b), .val (.int (0 : Int32))] []))
  refine o_aloadN hst X0.here hx (hb hby dsb_0) (pc' := 1) rfl rfl rfl ?_
  obtain ⟨T_1, X_1, e_1, st_1⟩ := initO X0 hx hZ hown (own_w25 hw) (own_w26 hw) (own_w27 hw) e0 (g := (mkF mI 1 #[.val (.ref r), .val (.ref b), .val (.int (0 : Int32))] [(.ref r)])) rfl (by rw [hml]; rfl) rfl (hb hby dsb_1) (by decide) (W := 0) (by show 2 * 0 + _ ≤ _; exact Nat.le_of_eq rfl) (by decide)
  refine hst st_1 ?_
  show G (T_1.setTop (mkF mI 4 #[.val (.ref r), .val (.ref b), .val (.int (0 : Int32))] []))
  refine o_aloadN hst X_1.here hx (hb hby dsb_4) (pc' := 5) rfl rfl rfl ?_
  refine o_aloadN hst X_1.here hx (hb hby dsb_5) (pc' := 6) rfl rfl rfl ?_
  obtain ⟨T_2, h_2, X_2, e_2, W_2, st_2⟩ := putF X_1 hx hZ hown (host := "") (Or.inl (own_w28 hw)) Via.refl e_1 F_value_r E_r (Or.inr ⟨(own_w29 hw), rfl, hnm⟩) (own_w16 hw) (ty := (.array .byte)) (by decide) rfl rfl (g := (mkF mI 6 #[.val (.ref r), .val (.ref b), .val (.int (0 : Int32))] [(.ref b), (.ref r)])) rfl rfl (hb hby dsb_6)
  have Z0 := Nat.le_trans Z0 (Keep.of_wr W_2).1
  have Z1 := Nat.le_trans Z1 (Keep.of_wr W_2).1
  have K0 := K0.wr W_2 (Or.inl (List.mem_of_getElem? (i := 0) rfl))
  have F_value_r := F_value_r.same W_2
  have F_coder_r := F_coder_r.other W_2 (Or.inr (slot_ne (Or.inr (own_w31 hw)) (Or.inr (own_w29 hw)) (by decide) (t := .byte) (t' := (.array .byte)) (by decide) (by decide)))
  have E_r := E_r.wr W_2
  have N_2 := Fr.snoc X_2 N0 le_n0_r
  refine hst st_2 ?_
  show G (T_2.setTop (mkF mI 9 #[.val (.ref r), .val (.ref b), .val (.int (0 : Int32))] []))
  refine o_aloadN hst X_2.here hx (hb hby dsb_9) (pc' := 10) rfl rfl rfl ?_
  refine o_iloadN hst X_2.here hx (hb hby dsb_10) (pc' := 11) rfl rfl ?_
  obtain ⟨T_3, h_3, X_3, e_3, W_3, st_3⟩ := putFN X_2 hx hZ hown (own_w30 hw) Via.refl e_2 F_coder_r E_r (Or.inr ⟨(own_w31 hw), rfl, hnm⟩) (own_w16 hw) (ty := .byte) (v' := (.int (0 : Int32))) (by decide) rfl rfl (g := (mkF mI 11 #[.val (.ref r), .val (.ref b), .val (.int (0 : Int32))] [(.int (0 : Int32)), (.ref r)])) rfl rfl (hb hby dsb_11)
  have Z0 := Nat.le_trans Z0 (Keep.of_wr W_3).1
  have Z1 := Nat.le_trans Z1 (Keep.of_wr W_3).1
  have K0 := K0.wr W_3 (Or.inl (List.mem_of_getElem? (i := 0) rfl))
  have F_value_r := F_value_r.other W_3 (Or.inr (slot_ne (Or.inr (own_w29 hw)) (Or.inr (own_w31 hw)) (by decide) (t := (.array .byte)) (t' := .byte) (by decide) (by decide)))
  have F_coder_r := F_coder_r.same W_3
  have E_r := E_r.wr W_3
  have N_3 := Fr.snoc X_3 N_2 le_n0_r
  refine hst st_3 ?_
  show G (T_3.setTop (mkF mI 14 #[.val (.ref r), .val (.ref b), .val (.int (0 : Int32))] []))
  exact hend (own_goVoid X_3 hx Bd.returns (hb hby dsb_14) Bd.notSynchronized (by rw [e_3]; exact ⟨rfl, N_3, K0, E_r, F_value_r, F_coder_r⟩) (by decide) (by decide))
def own_Qst (Z : State) (y : Int32) (h0 : Heap) (n0 : Nat) (v : Option Value) (h : Heap) (L : List Loc) : Prop := ∃ (r b : Addr) (k_b : ClassId), v = some (.ref r) ∧ Fr n0 L ∧ Keep h0 h [] ∧ h0.size ≤ r ∧ h0.size ≤ b ∧ Exa Z h r "java/lang/String" ∧ Fld Z h r "java/lang/String" "coder" "B" (.int (0 : Int32)) ∧ Fld Z h r "java/lang/String" "value" "[B" (.ref b) ∧ Arv Z h b k_b .byte (1 : Int32) [(.int (nar .byte (y.toInt8.toInt32)))] (.int (0 : Int32))
theorem dvo_0 : decode jdk_42_method_139_code 0 = .ok (.getstatic 38, 3) := by decide +kernel
theorem dvo_3 : decode jdk_42_method_139_code 3 = .ok (.ifCond .eq 23, 3) := by decide +kernel
theorem dvo_6 : decode jdk_42_method_139_code 6 = .ok (.iload_n 0, 1) := by decide +kernel
theorem dvo_7 : decode jdk_42_method_139_code 7 = .ok (.invokestatic 1015, 3) := by decide +kernel
theorem dvo_10 : decode jdk_42_method_139_code 10 = .ok (.ifCond .eq 16, 3) := by decide +kernel
theorem dvo_13 : decode jdk_42_method_139_code 13 = .ok (.new 10, 3) := by decide +kernel
theorem dvo_16 : decode jdk_42_method_139_code 16 = .ok (.dup, 1) := by decide +kernel
theorem dvo_17 : decode jdk_42_method_139_code 17 = .ok (.iload_n 0, 1) := by decide +kernel
theorem dvo_18 : decode jdk_42_method_139_code 18 = .ok (.invokestatic 1018, 3) := by decide +kernel
theorem dvo_21 : decode jdk_42_method_139_code 21 = .ok (.iconst 0, 1) := by decide +kernel
theorem dvo_22 : decode jdk_42_method_139_code 22 = .ok (.invokespecial 209, 3) := by decide +kernel
theorem dvo_25 : decode jdk_42_method_139_code 25 = .ok (.areturn, 1) := by decide +kernel
theorem ef_vo (mI : MethodId) (y : Int32) : entryFrame mI #[(.int y)] 1 = mkF mI 0 #[.val (.int y)] [] := by first | (simp [entryFrame, mkF, argsToLocals, Value.category]; done) | rfl
theorem pn_vo : plainName "java/lang/String" = true := by first | decide +kernel | (simp [plainName, overriddenIn]; done)
set_option maxRecDepth 65536 in
set_option maxHeartbeats 40000000 in
theorem rmvo (lL : Launch) (Z : State) (a0 : Array Value) (hw : ∀ d ∈ tables_1, d.before a0 Z = true) (ws : List Jvm.Cond) (y : Int32) (cz : Int32) (h0 : Heap) (n0 : Nat) (Z0 : n0 ≤ h0.size) (S_c : Sta Z h0 "java/lang/String" "COMPACT_STRINGS" "Z" (.int cz)) (hcz : ¬ cz = 0) (hy : ¬ (255 : Int32) < y) :
    MetFree lL (⟨"java/lang/String", "valueOf", "(C)Ljava/lang/String;"⟩ : MethodName) (head1 (Jvm.Cond.code (⟨"java/lang/String", "valueOf", "(C)Ljava/lang/String;"⟩ : MethodName) jdk_42_method_139_code 1 (some (.object "java/lang/String")) :: ws) ({ frames := 2, cells := 2, slots := 5, locals := 27 } : Room)) (fun a_ U_ => a_ = #[(.int y)] ∧ Z.Warmed39 U_.vm ∧ U_.heap = h0) (fun _ _ _ _ _ => True) (fun _ U_ o_ W_ => ∃ v_ L_, o_ = .returned v_ ∧ own_Qst Z y h0 n0 v_ W_.heap L_ ∧ FrameEnd U_ o_ W_ L_ ({ frames := 2, cells := 2, slots := 5, locals := 27 } : Room).cells ({ frames := 2, cells := 2, slots := 5, locals := 27 } : Room).slots) := by
  refine MetFree.of_bodySF (plainFor_of_name pn_vo) hisR ?_
  intro pP eE sS mI args below meth cC s₁ Bd hml0 hP hK
  obtain ⟨rfl, hZ, hh⟩ := hP
  have hx := Bd.exec
  have hby := Bd.bytes
  have hml : cC.maxLocals = 1 := hml0
  have hown : sS.vm.findClass "java/lang/String" = some mI.cls := by have z := findClass_of_methodNamed Bd.named; exact z
  have hnm := (name_of_methodNamed Bd.named Bd.method).1
  have X0 : Stand pP lL eE ({ frames := 2, cells := 2, slots := 5, locals := 27 } : Room) sS mI #[(.int y)] below meth cC s₁ [] 0 0 := Stand.of_body Bd
  have e0 : s₁.heap = h0 := by rw [← hh, Bd.state]; rfl
  have N0 := Fr.nil n0
  obtain ⟨G, hG, hst, hend⟩ := own_abs pP eE below sS (own_Qst Z y h0 n0) ({ frames := 2, cells := 2, slots := 5, locals := 27 } : Room).cells ({ frames := 2, cells := 2, slots := 5, locals := 27 } : Room).slots
  refine hG (S := s₁.setTop (entryFrame mI #[(.int y)] 1)) (hst (fun t_ kt_ => castTop (ef_vo mI y) kt_) ?_)
  have Z1 := Nat.le_refl h0.size
  have K0 := Keep.refl h0 []
  show G (s₁.setTop (mkF mI 0 #[.val (.int y)] []))
  obtain ⟨T_1, X_1, e_1, st_1⟩ := getS2 X0 hx hZ hown (host := "") (Or.inl (own_w10 hw)) Via.refl e0 S_c (g := (mkF mI 0 #[.val (.int y)] [])) rfl (hb hby dvo_0)
  refine hst st_1 ?_
  show G (T_1.setTop (mkF mI 3 #[.val (.int y)] [(.int cz)]))
  have hc3 : ¬ (cz = (0 : Int32)) := hcz
  refine hst (fun _ kt => XS.ifNo X_1.here hx rfl (hb hby dvo_3) rfl ((if0 _ _).trans (feq hc3).1) kt) ?_
  show G (T_1.setTop (mkF mI 6 #[.val (.int y)] []))
  refine o_iloadN hst X_1.here hx (hb hby dvo_6) (pc' := 7) rfl rfl ?_
  obtain ⟨_, _, ⟨T_2, L_2, k_2, n_2⟩, -, X_2, ⟨Lc_2, hQ_2, l_2, y_2, z_2⟩, st_2⟩ := Jvm.LawKit.callS X_1 hx (y := (⟨"java/lang/StringLatin1", "canEncode", "(C)Z"⟩ : MethodName)) hown (mvT hZ (own_w11 hw)) (mvT hZ (own_w12 hw)) (mvT hZ (own_w13 hw)) (mvT hZ (own_w14 hw)) (by decide) (backOf (W := 0) (rmce lL Z a0 hw [] y  h0 n0 Z0 hy) hZ (own_w14 hw) (own_w13 hw) (by decide) (by decide)) (g := (mkF mI 7 #[.val (.int y)] [(.int y)])) rfl (by rw [hml]; rfl) (argsL := [(.int y)]) (rest := []) (lenOf pd_14 rfl) rfl (by show 2 * 0 + _ ≤ _; exact Nat.le_of_eq rfl) (hb hby dvo_7) (fun _ _ => ⟨rfl, e_1, (by decide : 0 + 0 ≤ _), (by decide : 0 + 0 ≤ _)⟩)
  dsimp only [Pt.U, Pt.locs, Pt.cells, Pt.slots] at X_2 l_2 y_2 z_2 st_2 hQ_2
  subst l_2 y_2 z_2
  obtain ⟨rfl, N_2q, eh_2⟩ := hQ_2
  have N_2 := Fr.app N0 N_2q
  refine hst (fun _ kt => st_2 _ kt) ?_
  show G (T_2.setTop (mkF mI 10 #[.val (.int y)] [(.int (1 : Int32))]))
  have hc10 : ¬ ((1 : Int32) = (0 : Int32)) := by decide
  refine hst (fun _ kt => XS.ifNo X_2.here hx rfl (hb hby dvo_10) rfl ((if0 _ _).trans (feq hc10).1) kt) ?_
  show G (T_2.setTop (mkF mI 13 #[.val (.int y)] []))
  obtain ⟨T_3, h_3, X_3, e_3, E_3, A_3, D_3, -, st_3⟩ := newO X_2 hx hZ hown (own_w15 hw) (own_w16 hw) (own_w8 hw) eh_2 (g := (mkF mI 13 #[.val (.int y)] [])) rfl (hb hby dvo_13) (by decide) (by decide)
  obtain ⟨r, g_r⟩ : ∃ z, z = h0.size := ⟨_, rfl⟩
  rw [← g_r] at A_3 D_3 st_3
  have le_n0_r : n0 ≤ r := Nat.le_trans Z0 (Nat.le_of_eq g_r.symm)
  have le_hh_r : h0.size ≤ r := Nat.le_trans Z1 (Nat.le_of_eq g_r.symm)
  have Z0 := Nat.le_trans Z0 E_3.1
  have Z1 := Nat.le_trans Z1 E_3.1
  have K0 := K0.ext E_3
  have E_r : Exa Z h_3 r "java/lang/String" := A_3
  have F_value_r : Fld Z h_3 r "java/lang/String" "value" "[B" .null := D_3 (Or.inr (own_w29 hw)) (ty := (.array .byte)) (by decide)
  have F_coder_r : Fld Z h_3 r "java/lang/String" "coder" "B" (.int (0 : Int32)) := D_3 (Or.inr (own_w31 hw)) (ty := .byte) (by decide)
  refine hst st_3 ?_
  show G (T_3.setTop (mkF mI 16 #[.val (.int y)] [(.ref r)]))
  refine o_dup hst X_3.here hx (hb hby dvo_16) (pc' := 17) rfl rfl ?_
  refine o_iloadN hst X_3.here hx (hb hby dvo_17) (pc' := 18) rfl rfl ?_
  obtain ⟨_, _, ⟨T_4, L_4, k_4, n_4⟩, -, X_4, ⟨Lc_4, hQ_4, l_4, y_4, z_4⟩, st_4⟩ := Jvm.LawKit.callS X_3 hx (y := (⟨"java/lang/StringLatin1", "toBytes", "(C)[B"⟩ : MethodName)) hown (mvT hZ (own_w17 hw)) (mvT hZ (own_w18 hw)) (mvT hZ (own_w13 hw)) (mvT hZ (own_w19 hw)) (by decide) (backOf (W := 2) (rmtb lL Z a0 hw [] y  h_3 n0 Z0) hZ (own_w19 hw) (own_w13 hw) (by decide) (by decide)) (g := (mkF mI 18 #[.val (.int y)] [(.int y), (.ref r), (.ref r)])) rfl (by rw [hml]; rfl) (argsL := [(.int y)]) (rest := [(.ref r), (.ref r)]) (lenOf pd_15 rfl) rfl (by show 2 * 0 + _ ≤ _; exact Nat.le_of_eq rfl) (hb hby dvo_18) (fun _ _ => ⟨rfl, e_3, (by decide : 1 + 1 ≤ _), (by decide : 4 + 1 ≤ _)⟩)
  dsimp only [Pt.U, Pt.locs, Pt.cells, Pt.slots] at X_4 l_4 y_4 z_4 st_4 hQ_4
  subst l_4 y_4 z_4
  obtain ⟨b, k_b, rfl, N_4q, K_4, le_b, V_b⟩ := hQ_4
  have le_hh_b := Nat.le_trans Z1 le_b
  have Z0 := Nat.le_trans Z0 K_4.1
  have Z1 := Nat.le_trans Z1 K_4.1
  have K0 := K0.trans K_4 all0
  have E_r := E_r.keep K_4
  have F_value_r := F_value_r.keep K_4 nin0
  have F_coder_r := F_coder_r.keep K_4 nin0
  have N_4 := Fr.app N_2 N_4q
  refine hst (fun _ kt => st_4 _ kt) ?_
  show G (T_4.setTop (mkF mI 21 #[.val (.int y)] [(.ref b), (.ref r), (.ref r)]))
  refine o_iconst hst X_4.here hx (hb hby dvo_21) (pc' := 22) rfl (z := (0 : Int32)) rfl ?_
  obtain ⟨_, _, ⟨T_5, L_5, k_5, n_5⟩, -, X_5, ⟨Lc_5, hQ_5, l_5, y_5, z_5⟩, st_5⟩ := X_4.specialBack hx (y := (⟨"java/lang/String", "<init>", "([BB)V"⟩ : MethodName)) rfl hown (mvT hZ (own_w21 hw)) (mvT hZ (own_w22 hw)) (mvT hZ (own_w24 hw)) (by decide) (backOf (W := 1) (rmsb lL Z a0 hw [] r b  T_4.heap n0 Z0 F_value_r F_coder_r E_r le_n0_r) hZ (own_w24 hw) (own_w8 hw) (by decide) (by decide)) (g := (mkF mI 22 #[.val (.int y)] [(.int (0 : Int32)), (.ref b), (.ref r), (.ref r)])) rfl (by rw [hml]; rfl) (Steps.refl _) (a := r) (argsL := [(.ref b), (.int (0 : Int32))]) (rest := [(.ref r)]) (lenOf pd_16 rfl) rfl (by show 2 * 0 + _ ≤ _; exact Nat.le_of_eq rfl) (hb hby dvo_22) (fun _ _ => ⟨rfl, rfl, (by decide : 2 + 0 ≤ _), (by decide : 5 + 0 ≤ _)⟩)
  dsimp only [Pt.U, Pt.locs, Pt.cells, Pt.slots] at X_5 l_5 y_5 z_5 st_5 hQ_5
  subst l_5 y_5 z_5
  obtain ⟨rfl, N_5q, K_5, Ex_5, G1, G2⟩ := hQ_5
  have ne_b_r : b ≠ r := Ne.symm (own_ne_arv E_r (own_w16 hw) V_b)
  have Z0 := Nat.le_trans Z0 K_5.1
  have Z1 := Nat.le_trans Z1 K_5.1
  have K0 := K0.trans K_5 (allS (Or.inr le_hh_r) all0)
  have E_r := E_r.keep K_5
  have V_b := V_b.keep K_5 (ninS ne_b_r nin0)
  have F_value_r := G1
  have F_coder_r := G2
  have N_5 := Fr.app N_4 N_5q
  refine hst (fun _ kt => st_5.trans kt) ?_
  show G (T_5.setTop (mkF mI 25 #[.val (.int y)] [(.ref r)]))
  exact hend (own_goRet X_5 hx Bd.returns rfl (Or.inr (Or.inr (Or.inr (Or.inr ⟨rfl, rfl, rfl⟩)))) (hb hby dvo_25) Bd.notSynchronized (by exact ⟨r, b, k_b, rfl, N_5, K0, le_hh_r, le_hh_b, E_r, F_coder_r, F_value_r, V_b⟩) (by decide) (by decide))
def own_eq (u u2 : Int32) : Int32 := if u = u2 then 1 else 0
theorem dle_0 : decode jdk_43_method_13_code 0 = .ok (.aload_n 0, 1) := by decide +kernel
theorem dle_1 : decode jdk_43_method_13_code 1 = .ok (.arraylength, 1) := by decide +kernel
theorem dle_2 : decode jdk_43_method_13_code 2 = .ok (.aload_n 1, 1) := by decide +kernel
theorem dle_3 : decode jdk_43_method_13_code 3 = .ok (.arraylength, 1) := by decide +kernel
theorem dle_4 : decode jdk_43_method_13_code 4 = .ok (.if_icmp .ne 30, 3) := by decide +kernel
theorem dle_7 : decode jdk_43_method_13_code 7 = .ok (.iconst 0, 1) := by decide +kernel
theorem dle_8 : decode jdk_43_method_13_code 8 = .ok (.istore_n 2, 1) := by decide +kernel
theorem dle_9 : decode jdk_43_method_13_code 9 = .ok (.iload_n 2, 1) := by decide +kernel
theorem dle_10 : decode jdk_43_method_13_code 10 = .ok (.aload_n 0, 1) := by decide +kernel
theorem dle_11 : decode jdk_43_method_13_code 11 = .ok (.arraylength, 1) := by decide +kernel
theorem dle_12 : decode jdk_43_method_13_code 12 = .ok (.if_icmp .ge 20, 3) := by decide +kernel
theorem dle_15 : decode jdk_43_method_13_code 15 = .ok (.aload_n 0, 1) := by decide +kernel
theorem dle_16 : decode jdk_43_method_13_code 16 = .ok (.iload_n 2, 1) := by decide +kernel
theorem dle_17 : decode jdk_43_method_13_code 17 = .ok (.baload, 1) := by decide +kernel
theorem dle_18 : decode jdk_43_method_13_code 18 = .ok (.aload_n 1, 1) := by decide +kernel
theorem dle_19 : decode jdk_43_method_13_code 19 = .ok (.iload_n 2, 1) := by decide +kernel
theorem dle_20 : decode jdk_43_method_13_code 20 = .ok (.baload, 1) := by decide +kernel
theorem dle_21 : decode jdk_43_method_13_code 21 = .ok (.if_icmp .eq 5, 3) := by decide +kernel
theorem dle_24 : decode jdk_43_method_13_code 24 = .ok (.iconst 0, 1) := by decide +kernel
theorem dle_25 : decode jdk_43_method_13_code 25 = .ok (.ireturn, 1) := by decide +kernel
theorem dle_26 : decode jdk_43_method_13_code 26 = .ok (.iinc 2 1, 3) := by decide +kernel
theorem dle_29 : decode jdk_43_method_13_code 29 = .ok (.goto (-20), 3) := by decide +kernel
theorem dle_32 : decode jdk_43_method_13_code 32 = .ok (.iconst 1, 1) := by decide +kernel
theorem dle_33 : decode jdk_43_method_13_code 33 = .ok (.ireturn, 1) := by decide +kernel
theorem ef_le (mI : MethodId) (b : Addr) (d : Addr) : entryFrame mI #[(.ref b), (.ref d)] 3 = mkF mI 0 #[.val (.ref b), .val (.ref d), .unset] [] := by first | (simp [entryFrame, mkF, argsToLocals, Value.category]; done) | rfl
theorem pn_le : plainName "java/lang/StringLatin1" = true := by first | decide +kernel | (simp [plainName, overriddenIn]; done)
set_option maxRecDepth 65536 in
set_option maxHeartbeats 40000000 in
theorem rmle (lL : Launch) (Z : State) (a0 : Array Value) (hw : ∀ d ∈ tables_1, d.before a0 Z = true) (ws : List Jvm.Cond) (b : Addr) (d : Addr) (k_b : ClassId) (k_d : ClassId) (u : Int32) (u2 : Int32) (h0 : Heap) (n0 : Nat) (Z0 : n0 ≤ h0.size) (V_b : Arv Z h0 b k_b .byte (1 : Int32) [(.int u)] (.int (0 : Int32))) (V_d : Arv Z h0 d k_d .byte (1 : Int32) [(.int u2)] (.int (0 : Int32))) :
    MetFree lL (⟨"java/lang/StringLatin1", "equals", "([B[B)Z"⟩ : MethodName) (head1 (Jvm.Cond.code (⟨"java/lang/StringLatin1", "equals", "([B[B)Z"⟩ : MethodName) jdk_43_method_13_code 3 (some .boolean) :: ws) ({ frames := 0, cells := 0, slots := 0, locals := 0 } : Room)) (fun a_ U_ => a_ = #[(.ref b), (.ref d)] ∧ Z.Warmed39 U_.vm ∧ U_.heap = h0) (fun _ _ _ _ _ => True) (fun _ U_ o_ W_ => ∃ v_ L_, o_ = .returned v_ ∧ own_QI (own_eq u u2) h0 n0 v_ W_.heap L_ ∧ FrameEnd U_ o_ W_ L_ ({ frames := 0, cells := 0, slots := 0, locals := 0 } : Room).cells ({ frames := 0, cells := 0, slots := 0, locals := 0 } : Room).slots) := by
  refine MetFree.of_bodySF (plainFor_of_name pn_le) hisR ?_
  intro pP eE sS mI args below meth cC s₁ Bd hml0 hP hK
  obtain ⟨rfl, hZ, hh⟩ := hP
  have hx := Bd.exec
  have hby := Bd.bytes
  have hml : cC.maxLocals = 3 := hml0
  have hown : sS.vm.findClass "java/lang/StringLatin1" = some mI.cls := by have z := findClass_of_methodNamed Bd.named; exact z
  have hnm := (name_of_methodNamed Bd.named Bd.method).1
  have X0 : Stand pP lL eE ({ frames := 0, cells := 0, slots := 0, locals := 0 } : Room) sS mI #[(.ref b), (.ref d)] below meth cC s₁ [] 0 0 := Stand.of_body Bd
  have e0 : s₁.heap = h0 := by rw [← hh, Bd.state]; rfl
  have N0 := Fr.nil n0
  obtain ⟨G, hG, hst, hend⟩ := own_abs pP eE below sS (own_QI (own_eq u u2) h0 n0) ({ frames := 0, cells := 0, slots := 0, locals := 0 } : Room).cells ({ frames := 0, cells := 0, slots := 0, locals := 0 } : Room).slots
  refine hG (S := s₁.setTop (entryFrame mI #[(.ref b), (.ref d)] 3)) (hst (fun t_ kt_ => castTop (ef_le mI b d) kt_) ?_)
  show G (s₁.setTop (mkF mI 0 #[.val (.ref b), .val (.ref d), .unset] []))
  refine o_aloadN hst X0.here hx (hb hby dle_0) (pc' := 1) rfl rfl rfl ?_
  obtain ⟨cl_1, Ar_1, -, S_1, M_1, -, -⟩ := id V_b
  refine hst (X0.arraylength hx (by rw [e0]; exact Ar_1.1) (State.isArrayOf_alike hZ.alike Ar_1.2.1) (g := (mkF mI 1 #[.val (.ref b), .val (.ref d), .unset] [(.ref b)])) rfl rfl (hb hby dle_1)) ?_
  rw [len_of S_1 M_1]
  show G (s₁.setTop (mkF mI 2 #[.val (.ref b), .val (.ref d), .unset] [(.int (1 : Int32))]))
  refine o_aloadN hst X0.here hx (hb hby dle_2) (pc' := 3) rfl rfl rfl ?_
  obtain ⟨cl_2, Ar_2, -, S_2, M_2, -, -⟩ := id V_d
  refine hst (X0.arraylength hx (by rw [e0]; exact Ar_2.1) (State.isArrayOf_alike hZ.alike Ar_2.2.1) (g := (mkF mI 3 #[.val (.ref b), .val (.ref d), .unset] [(.ref d), (.int (1 : Int32))])) rfl rfl (hb hby dle_3)) ?_
  rw [len_of S_2 M_2]
  show G (s₁.setTop (mkF mI 4 #[.val (.ref b), .val (.ref d), .unset] [(.int (1 : Int32)), (.int (1 : Int32))]))
  have hc4 : (1 : Int32) = (1 : Int32) := rfl
  refine hst (fun _ kt => XS.icmpNo X0.here hx rfl (hb hby dle_4) rfl (teq hc4).2 kt) ?_
  show G (s₁.setTop (mkF mI 7 #[.val (.ref b), .val (.ref d), .unset] []))
  refine o_iconst hst X0.here hx (hb hby dle_7) (pc' := 8) rfl (z := (0 : Int32)) rfl ?_
  refine o_istoreN hst X0.here hx (hb hby dle_8) (pc' := 9) rfl (Lt := #[.val (.ref b), .val (.ref d), .val (.int (0 : Int32))]) rfl ?_
  refine o_iloadN hst X0.here hx (hb hby dle_9) (pc' := 10) rfl rfl ?_
  refine o_aloadN hst X0.here hx (hb hby dle_10) (pc' := 11) rfl rfl rfl ?_
  obtain ⟨cl_3, Ar_3, -, S_3, M_3, -, -⟩ := id V_b
  refine hst (X0.arraylength hx (by rw [e0]; exact Ar_3.1) (State.isArrayOf_alike hZ.alike Ar_3.2.1) (g := (mkF mI 11 #[.val (.ref b), .val (.ref d), .val (.int (0 : Int32))] [(.ref b), (.int (0 : Int32))])) rfl rfl (hb hby dle_11)) ?_
  rw [len_of S_3 M_3]
  show G (s₁.setTop (mkF mI 12 #[.val (.ref b), .val (.ref d), .val (.int (0 : Int32))] [(.int (1 : Int32)), (.int (0 : Int32))]))
  have hl0 : (0 : Int32) < (1 : Int32) := by decide
  refine hst (fun _ kt => XS.icmpNo X0.here hx rfl (hb hby dle_12) rfl (tlt hl0).2.1 kt) ?_
  show G (s₁.setTop (mkF mI 15 #[.val (.ref b), .val (.ref d), .val (.int (0 : Int32))] []))
  refine o_aloadN hst X0.here hx (hb hby dle_15) (pc' := 16) rfl rfl rfl ?_
  refine o_iloadN hst X0.here hx (hb hby dle_16) (pc' := 17) rfl rfl ?_
  obtain ⟨cl_4, Ar_4, -, S_4, M_4, Hs_4, -⟩ := id V_b
  have hin_4 : ¬ ((0 : Int32) < 0 ∨ cl_4.slots.size ≤ ((0 : Int32)).toNatClampNeg) := inb_of S_4 ⟨by decide, by decide⟩
  have hat_4 : cl_4.slots[((0 : Int32)).toNatClampNeg]? = some (.int u) := Has.at Hs_4 hin_4 rfl
  refine hst (X0.baloadBytes hx (j := (0 : Int32)) (v := (.int u)) (by rw [e0]; exact Ar_4.1) (State.isArrayOf_alike hZ.alike Ar_4.2.1) Ar_4.2.2 hin_4 hat_4 (g := (mkF mI 17 #[.val (.ref b), .val (.ref d), .val (.int (0 : Int32))] [(.int (0 : Int32)), (.ref b)])) rfl rfl (hb hby dle_17)) ?_
  show G (s₁.setTop (mkF mI 18 #[.val (.ref b), .val (.ref d), .val (.int (0 : Int32))] [(.int u)]))
  refine o_aloadN hst X0.here hx (hb hby dle_18) (pc' := 19) rfl rfl rfl ?_
  refine o_iloadN hst X0.here hx (hb hby dle_19) (pc' := 20) rfl rfl ?_
  obtain ⟨cl_5, Ar_5, -, S_5, M_5, Hs_5, -⟩ := id V_d
  have hin_5 : ¬ ((0 : Int32) < 0 ∨ cl_5.slots.size ≤ ((0 : Int32)).toNatClampNeg) := inb_of S_5 ⟨by decide, by decide⟩
  have hat_5 : cl_5.slots[((0 : Int32)).toNatClampNeg]? = some (.int u2) := Has.at Hs_5 hin_5 rfl
  refine hst (X0.baloadBytes hx (j := (0 : Int32)) (v := (.int u2)) (by rw [e0]; exact Ar_5.1) (State.isArrayOf_alike hZ.alike Ar_5.2.1) Ar_5.2.2 hin_5 hat_5 (g := (mkF mI 20 #[.val (.ref b), .val (.ref d), .val (.int (0 : Int32))] [(.int (0 : Int32)), (.ref d), (.int u)])) rfl rfl (hb hby dle_20)) ?_
  show G (s₁.setTop (mkF mI 21 #[.val (.ref b), .val (.ref d), .val (.int (0 : Int32))] [(.int u2), (.int u)]))
  by_cases hq : u = u2
  ·
    refine hst (fun _ kt => XS.icmpYes X0.here hx rfl (pc0 := 21) (pc' := 26) rfl (hb hby dle_21) rfl (teq hq).1 (by decide) (by decide) kt) ?_
    show G (s₁.setTop (mkF mI 26 #[.val (.ref b), .val (.ref d), .val (.int (0 : Int32))] []))
    refine o_iinc hst X0.here hx (hb hby dle_26) (pc' := 29) rfl rfl (Lt := #[.val (.ref b), .val (.ref d), .val (.int ((0 : Int32) + (1 : Int32)))]) rfl ?_
    refine o_goto hst X0.here hx (hb hby dle_29) (by decide) (pc' := 9) (by decide) ?_
    refine o_iloadN hst X0.here hx (hb hby dle_9) (pc' := 10) rfl rfl ?_
    refine o_aloadN hst X0.here hx (hb hby dle_10) (pc' := 11) rfl rfl rfl ?_
    rw [show ((0 : Int32) + (1 : Int32)) = (1 : Int32) from by decide]
    show G (s₁.setTop (mkF mI 11 #[.val (.ref b), .val (.ref d), .val (.int (1 : Int32))] [(.ref b), (.int (1 : Int32))]))
    obtain ⟨cl_6, Ar_6, -, S_6, M_6, -, -⟩ := id V_b
    refine hst (X0.arraylength hx (by rw [e0]; exact Ar_6.1) (State.isArrayOf_alike hZ.alike Ar_6.2.1) (g := (mkF mI 11 #[.val (.ref b), .val (.ref d), .val (.int (1 : Int32))] [(.ref b), (.int (1 : Int32))])) rfl rfl (hb hby dle_11)) ?_
    rw [len_of S_6 M_6]
    show G (s₁.setTop (mkF mI 12 #[.val (.ref b), .val (.ref d), .val (.int (1 : Int32))] [(.int (1 : Int32)), (.int (1 : Int32))]))
    have hl1 : ¬ ((1 : Int32) < (1 : Int32)) := by decide
    refine hst (fun _ kt => XS.icmpYes X0.here hx rfl (pc0 := 12) (pc' := 32) rfl (hb hby dle_12) rfl (flt hl1).2.1 (by decide) (by decide) kt) ?_
    show G (s₁.setTop (mkF mI 32 #[.val (.ref b), .val (.ref d), .val (.int (1 : Int32))] []))
    refine o_iconst hst X0.here hx (hb hby dle_32) (pc' := 33) rfl (z := (1 : Int32)) rfl ?_
    exact hend (own_goRet X0 hx Bd.returns rfl (Or.inl ⟨rfl, by simp, _, rfl⟩) (hb hby dle_33) Bd.notSynchronized (by rw [e0]; exact ⟨by rw [own_eq, if_pos hq], N0, rfl⟩) (by decide) (by decide))
  ·
    refine hst (fun _ kt => XS.icmpNo X0.here hx rfl (hb hby dle_21) rfl (feq hq).1 kt) ?_
    show G (s₁.setTop (mkF mI 24 #[.val (.ref b), .val (.ref d), .val (.int (0 : Int32))] []))
    refine o_iconst hst X0.here hx (hb hby dle_24) (pc' := 25) rfl (z := (0 : Int32)) rfl ?_
    exact hend (own_goRet X0 hx Bd.returns rfl (Or.inl ⟨rfl, by simp, _, rfl⟩) (hb hby dle_25) Bd.notSynchronized (by rw [e0]; exact ⟨by rw [own_eq, if_neg hq], N0, rfl⟩) (by decide) (by decide))
theorem own_eq1 {u u2 : Int32} (h : ¬ own_eq u u2 = 0) : own_eq u u2 = 1 := by unfold own_eq at *; split <;> simp_all
theorem deq_0 : decode jdk_42_method_66_code 0 = .ok (.aload_n 0, 1) := by decide +kernel
theorem deq_1 : decode jdk_42_method_66_code 1 = .ok (.aload_n 1, 1) := by decide +kernel
theorem deq_2 : decode jdk_42_method_66_code 2 = .ok (.if_acmp .ne 5, 3) := by decide +kernel
theorem deq_7 : decode jdk_42_method_66_code 7 = .ok (.aload_n 1, 1) := by decide +kernel
theorem deq_8 : decode jdk_42_method_66_code 8 = .ok (.instanceof 10, 3) := by decide +kernel
theorem deq_11 : decode jdk_42_method_66_code 11 = .ok (.ifCond .eq 43, 3) := by decide +kernel
theorem deq_14 : decode jdk_42_method_66_code 14 = .ok (.aload_n 1, 1) := by decide +kernel
theorem deq_15 : decode jdk_42_method_66_code 15 = .ok (.checkcast 10, 3) := by decide +kernel
theorem deq_18 : decode jdk_42_method_66_code 18 = .ok (.astore_n 2, 1) := by decide +kernel
theorem deq_19 : decode jdk_42_method_66_code 19 = .ok (.getstatic 38, 3) := by decide +kernel
theorem deq_22 : decode jdk_42_method_66_code 22 = .ok (.ifCond .eq 14, 3) := by decide +kernel
theorem deq_25 : decode jdk_42_method_66_code 25 = .ok (.aload_n 0, 1) := by decide +kernel
theorem deq_26 : decode jdk_42_method_66_code 26 = .ok (.getfield 15, 3) := by decide +kernel
theorem deq_29 : decode jdk_42_method_66_code 29 = .ok (.aload_n 2, 1) := by decide +kernel
theorem deq_30 : decode jdk_42_method_66_code 30 = .ok (.getfield 15, 3) := by decide +kernel
theorem deq_33 : decode jdk_42_method_66_code 33 = .ok (.if_icmp .ne 21, 3) := by decide +kernel
theorem deq_36 : decode jdk_42_method_66_code 36 = .ok (.aload_n 0, 1) := by decide +kernel
theorem deq_37 : decode jdk_42_method_66_code 37 = .ok (.getfield 9, 3) := by decide +kernel
theorem deq_40 : decode jdk_42_method_66_code 40 = .ok (.aload_n 2, 1) := by decide +kernel
theorem deq_41 : decode jdk_42_method_66_code 41 = .ok (.getfield 9, 3) := by decide +kernel
theorem deq_44 : decode jdk_42_method_66_code 44 = .ok (.invokestatic 541, 3) := by decide +kernel
theorem deq_47 : decode jdk_42_method_66_code 47 = .ok (.ifCond .eq 7, 3) := by decide +kernel
theorem deq_50 : decode jdk_42_method_66_code 50 = .ok (.iconst 1, 1) := by decide +kernel
theorem deq_51 : decode jdk_42_method_66_code 51 = .ok (.goto 4, 3) := by decide +kernel
theorem deq_54 : decode jdk_42_method_66_code 54 = .ok (.iconst 0, 1) := by decide +kernel
theorem deq_55 : decode jdk_42_method_66_code 55 = .ok (.ireturn, 1) := by decide +kernel
theorem ef_eq (mI : MethodId) (r : Addr) (q : Addr) : entryFrame mI #[(.ref r), (.ref q)] 3 = mkF mI 0 #[.val (.ref r), .val (.ref q), .unset] [] := by first | (simp [entryFrame, mkF, argsToLocals, Value.category]; done) | rfl
theorem pn_eq : plainName "java/lang/String" = true := by first | decide +kernel | (simp [plainName, overriddenIn]; done)
set_option maxRecDepth 65536 in
set_option maxHeartbeats 40000000 in
theorem rmeq (lL : Launch) (Z : State) (a0 : Array Value) (hw : ∀ d ∈ tables_1, d.before a0 Z = true) (ws : List Jvm.Cond) (r : Addr) (q : Addr) (b : Addr) (d : Addr) (k_b : ClassId) (k_d : ClassId) (u : Int32) (u2 : Int32) (cz : Int32) (h0 : Heap) (n0 : Nat) (Z0 : n0 ≤ h0.size) (hne : ¬ r = q) (E_r : Exa Z h0 r "java/lang/String") (F_coder_r : Fld Z h0 r "java/lang/String" "coder" "B" (.int (0 : Int32))) (F_value_r : Fld Z h0 r "java/lang/String" "value" "[B" (.ref b)) (V_b : Arv Z h0 b k_b .byte (1 : Int32) [(.int u)] (.int (0 : Int32))) (E_q : Exa Z h0 q "java/lang/String") (F_coder_q : Fld Z h0 q "java/lang/String" "coder" "B" (.int (0 : Int32))) (F_value_q : Fld Z h0 q "java/lang/String" "value" "[B" (.ref d)) (V_d : Arv Z h0 d k_d .byte (1 : Int32) [(.int u2)] (.int (0 : Int32))) (S_c : Sta Z h0 "java/lang/String" "COMPACT_STRINGS" "Z" (.int cz)) (hcz : ¬ cz = 0) :
    MetFree lL (⟨"java/lang/String", "equals", "(Ljava/lang/Object;)Z"⟩ : MethodName) (head1 (Jvm.Cond.code (⟨"java/lang/String", "equals", "(Ljava/lang/Object;)Z"⟩ : MethodName) jdk_42_method_66_code 3 (some .boolean) :: ws) ({ frames := 1, cells := 0, slots := 0, locals := 16 } : Room)) (fun a_ U_ => a_ = #[(.ref r), (.ref q)] ∧ Z.Warmed39 U_.vm ∧ U_.heap = h0) (fun _ _ _ _ _ => True) (fun _ U_ o_ W_ => ∃ v_ L_, o_ = .returned v_ ∧ own_QI (own_eq u u2) h0 n0 v_ W_.heap L_ ∧ FrameEnd U_ o_ W_ L_ ({ frames := 1, cells := 0, slots := 0, locals := 16 } : Room).cells ({ frames := 1, cells := 0, slots := 0, locals := 16 } : Room).slots) := by
  refine MetFree.of_bodySF (plainFor_of_name pn_eq) hisR ?_
  intro pP eE sS mI args below meth cC s₁ Bd hml0 hP hK
  obtain ⟨rfl, hZ, hh⟩ := hP
  have hx := Bd.exec
  have hby := Bd.bytes
  have hml : cC.maxLocals = 3 := hml0
  have hown : sS.vm.findClass "java/lang/String" = some mI.cls := by have z := findClass_of_methodNamed Bd.named; exact z
  have hnm := (name_of_methodNamed Bd.named Bd.method).1
  have X0 : Stand pP lL eE ({ frames := 1, cells := 0, slots := 0, locals := 16 } : Room) sS mI #[(.ref r), (.ref q)] below meth cC s₁ [] 0 0 := Stand.of_body Bd
  have e0 : s₁.heap = h0 := by rw [← hh, Bd.state]; rfl
  have N0 := Fr.nil n0
  obtain ⟨G, hG, hst, hend⟩ := own_abs pP eE below sS (own_QI (own_eq u u2) h0 n0) ({ frames := 1, cells := 0, slots := 0, locals := 16 } : Room).cells ({ frames := 1, cells := 0, slots := 0, locals := 16 } : Room).slots
  refine hG (S := s₁.setTop (entryFrame mI #[(.ref r), (.ref q)] 3)) (hst (fun t_ kt_ => castTop (ef_eq mI r q) kt_) ?_)
  show G (s₁.setTop (mkF mI 0 #[.val (.ref r), .val (.ref q), .unset] []))
  refine o_aloadN hst X0.here hx (hb hby deq_0) (pc' := 1) rfl rfl rfl ?_
  refine o_aloadN hst X0.here hx (hb hby deq_1) (pc' := 2) rfl rfl rfl ?_
  refine hst (fun _ kt => Jvm.RoadKit.acmp (g := (mkF mI 2 #[.val (.ref r), .val (.ref q), .unset] [(.ref q), (.ref r)])) X0 hx rfl rfl rfl (pc0 := 2) (pc' := 7) (same := false) rfl (hb hby deq_2) rfl (decide_eq_false fun z => hne (Value.ref.inj z)) (by decide) (by decide) kt) ?_
  show G (s₁.setTop (mkF mI 7 #[.val (.ref r), .val (.ref q), .unset] []))
  refine o_aloadN hst X0.here hx (hb hby deq_7) (pc' := 8) rfl rfl rfl ?_
  obtain ⟨T_1, X_1, e_1, st_1⟩ := instY X0 hx hZ hown (own_w15 hw) e0 (Ins.self E_q) (g := (mkF mI 8 #[.val (.ref r), .val (.ref q), .unset] [(.ref q)])) rfl rfl (hb hby deq_8)
  refine hst st_1 ?_
  show G (T_1.setTop (mkF mI 11 #[.val (.ref r), .val (.ref q), .unset] [(.int (1 : Int32))]))
  have hi1 : ¬ ((1 : Int32) = (0 : Int32)) := by decide
  refine hst (fun _ kt => XS.ifNo X_1.here hx rfl (hb hby deq_11) rfl ((if0 _ _).trans (feq hi1).1) kt) ?_
  show G (T_1.setTop (mkF mI 14 #[.val (.ref r), .val (.ref q), .unset] []))
  refine o_aloadN hst X_1.here hx (hb hby deq_14) (pc' := 15) rfl rfl rfl ?_
  obtain ⟨T_2, X_2, e_2, st_2⟩ := castY X_1 hx hZ hown (own_w15 hw) e_1 (Ins.self E_q) (g := (mkF mI 15 #[.val (.ref r), .val (.ref q), .unset] [(.ref q)])) rfl rfl (hb hby deq_15)
  refine hst st_2 ?_
  show G (T_2.setTop (mkF mI 18 #[.val (.ref r), .val (.ref q), .unset] [(.ref q)]))
  refine o_astoreN hst X_2.here hx (hb hby deq_18) (pc' := 19) rfl (Lt := #[.val (.ref r), .val (.ref q), .val (.ref q)]) rfl rfl ?_
  obtain ⟨T_3, X_3, e_3, st_3⟩ := getS2 X_2 hx hZ hown (host := "") (Or.inl (own_w10 hw)) Via.refl e_2 S_c (g := (mkF mI 19 #[.val (.ref r), .val (.ref q), .val (.ref q)] [])) rfl (hb hby deq_19)
  refine hst st_3 ?_
  show G (T_3.setTop (mkF mI 22 #[.val (.ref r), .val (.ref q), .val (.ref q)] [(.int cz)]))
  have hc22 : ¬ (cz = (0 : Int32)) := hcz
  refine hst (fun _ kt => XS.ifNo X_3.here hx rfl (hb hby deq_22) rfl ((if0 _ _).trans (feq hc22).1) kt) ?_
  show G (T_3.setTop (mkF mI 25 #[.val (.ref r), .val (.ref q), .val (.ref q)] []))
  refine o_aloadN hst X_3.here hx (hb hby deq_25) (pc' := 26) rfl rfl rfl ?_
  obtain ⟨T_4, X_4, e_4, st_4⟩ := getF X_3 hx hZ hown (host := "") (Or.inl (own_w30 hw)) Via.refl e_3 F_coder_r (g := (mkF mI 26 #[.val (.ref r), .val (.ref q), .val (.ref q)] [(.ref r)])) rfl rfl (hb hby deq_26)
  refine hst st_4 ?_
  show G (T_4.setTop (mkF mI 29 #[.val (.ref r), .val (.ref q), .val (.ref q)] [(.int (0 : Int32))]))
  refine o_aloadN hst X_4.here hx (hb hby deq_29) (pc' := 30) rfl rfl rfl ?_
  obtain ⟨T_5, X_5, e_5, st_5⟩ := getF X_4 hx hZ hown (host := "") (Or.inl (own_w30 hw)) Via.refl e_4 F_coder_q (g := (mkF mI 30 #[.val (.ref r), .val (.ref q), .val (.ref q)] [(.ref q), (.int (0 : Int32))])) rfl rfl (hb hby deq_30)
  refine hst st_5 ?_
  show G (T_5.setTop (mkF mI 33 #[.val (.ref r), .val (.ref q), .val (.ref q)] [(.int (0 : Int32)), (.int (0 : Int32))]))
  have hc33 : (0 : Int32) = (0 : Int32) := rfl
  refine hst (fun _ kt => XS.icmpNo X_5.here hx rfl (hb hby deq_33) rfl (teq hc33).2 kt) ?_
  show G (T_5.setTop (mkF mI 36 #[.val (.ref r), .val (.ref q), .val (.ref q)] []))
  refine o_aloadN hst X_5.here hx (hb hby deq_36) (pc' := 37) rfl rfl rfl ?_
  obtain ⟨T_6, X_6, e_6, st_6⟩ := getF X_5 hx hZ hown (host := "") (Or.inl (own_w28 hw)) Via.refl e_5 F_value_r (g := (mkF mI 37 #[.val (.ref r), .val (.ref q), .val (.ref q)] [(.ref r)])) rfl rfl (hb hby deq_37)
  refine hst st_6 ?_
  show G (T_6.setTop (mkF mI 40 #[.val (.ref r), .val (.ref q), .val (.ref q)] [(.ref b)]))
  refine o_aloadN hst X_6.here hx (hb hby deq_40) (pc' := 41) rfl rfl rfl ?_
  obtain ⟨T_7, X_7, e_7, st_7⟩ := getF X_6 hx hZ hown (host := "") (Or.inl (own_w28 hw)) Via.refl e_6 F_value_q (g := (mkF mI 41 #[.val (.ref r), .val (.ref q), .val (.ref q)] [(.ref q), (.ref b)])) rfl rfl (hb hby deq_41)
  refine hst st_7 ?_
  show G (T_7.setTop (mkF mI 44 #[.val (.ref r), .val (.ref q), .val (.ref q)] [(.ref d), (.ref b)]))
  obtain ⟨_, _, ⟨T_8, L_8, k_8, n_8⟩, -, X_8, ⟨Lc_8, hQ_8, l_8, y_8, z_8⟩, st_8⟩ := Jvm.LawKit.callS X_7 hx (y := (⟨"java/lang/StringLatin1", "equals", "([B[B)Z"⟩ : MethodName)) hown (mvT hZ (own_w351 hw)) (mvT hZ (own_w352 hw)) (mvT hZ (own_w13 hw)) (mvT hZ (own_w353 hw)) (by decide) (backOf (W := 0) (rmle lL Z a0 hw [] b d k_b k_d u u2 h0 n0 Z0 V_b V_d) hZ (own_w353 hw) (own_w13 hw) (by decide) (by decide)) (g := (mkF mI 44 #[.val (.ref r), .val (.ref q), .val (.ref q)] [(.ref d), (.ref b)])) rfl (by rw [hml]; rfl) (argsL := [(.ref b), (.ref d)]) (rest := []) (lenOf pd_17 rfl) rfl (by show 2 * 0 + _ ≤ _; exact Nat.le_of_eq rfl) (hb hby deq_44) (fun _ _ => ⟨rfl, e_7, (by decide : 0 + 0 ≤ _), (by decide : 0 + 0 ≤ _)⟩)
  dsimp only [Pt.U, Pt.locs, Pt.cells, Pt.slots] at X_8 l_8 y_8 z_8 st_8 hQ_8
  subst l_8 y_8 z_8
  obtain ⟨rfl, N_8q, eh_8⟩ := hQ_8
  have N_8 := Fr.app N0 N_8q
  refine hst (fun _ kt => st_8 _ kt) ?_
  show G (T_8.setTop (mkF mI 47 #[.val (.ref r), .val (.ref q), .val (.ref q)] [(.int (own_eq u u2))]))
  by_cases hz : (own_eq u u2) = (0 : Int32)
  ·
    refine hst (fun _ kt => XS.ifYes X_8.here hx rfl (pc0 := 47) (pc' := 54) rfl (hb hby deq_47) rfl ((if0 _ _).trans (teq hz).1) (by decide) (by decide) kt) ?_
    show G (T_8.setTop (mkF mI 54 #[.val (.ref r), .val (.ref q), .val (.ref q)] []))
    refine o_iconst hst X_8.here hx (hb hby deq_54) (pc' := 55) rfl (z := (0 : Int32)) rfl ?_
    exact hend (own_goRet X_8 hx Bd.returns rfl (Or.inl ⟨rfl, by simp, _, rfl⟩) (hb hby deq_55) Bd.notSynchronized (by rw [eh_8]; exact ⟨by rw [hz], N_8, rfl⟩) (by decide) (by decide))
  ·
    refine hst (fun _ kt => XS.ifNo X_8.here hx rfl (hb hby deq_47) rfl ((if0 _ _).trans (feq hz).1) kt) ?_
    show G (T_8.setTop (mkF mI 50 #[.val (.ref r), .val (.ref q), .val (.ref q)] []))
    refine o_iconst hst X_8.here hx (hb hby deq_50) (pc' := 51) rfl (z := (1 : Int32)) rfl ?_
    refine o_goto hst X_8.here hx (hb hby deq_51) (by decide) (pc' := 55) (by decide) ?_
    exact hend (own_goRet X_8 hx Bd.returns rfl (Or.inl ⟨rfl, by simp, _, rfl⟩) (hb hby deq_55) Bd.notSynchronized (by rw [eh_8]; exact ⟨by rw [own_eq1 hz], N_8, rfl⟩) (by decide) (by decide))
def own_Qrg (Z : State) (g m ir : Addr) (h0 : Heap) (n0 : Nat) (v : Option Value) (h : Heap) (L : List Loc) : Prop := v = none ∧ Fr n0 L ∧ Keep h0 h [g, m] ∧ Exa Z h g own_RG ∧ Fld Z h g own_RG "iris" "[Ljava/lang/String;" (.ref ir)
theorem drg_0 : decode prog_29_method_1_code 0 = .ok (.aload_n 0, 1) := by decide +kernel
theorem drg_1 : decode prog_29_method_1_code 1 = .ok (.invokespecial 1, 3) := by decide +kernel
theorem drg_4 : decode prog_29_method_1_code 4 = .ok (.aload_n 0, 1) := by decide +kernel
theorem drg_5 : decode prog_29_method_1_code 5 = .ok (.aload_n 1, 1) := by decide +kernel
theorem drg_6 : decode prog_29_method_1_code 6 = .ok (.putfield 7, 3) := by decide +kernel
theorem drg_9 : decode prog_29_method_1_code 9 = .ok (.aload_n 0, 1) := by decide +kernel
theorem drg_10 : decode prog_29_method_1_code 10 = .ok (.aload_n 2, 1) := by decide +kernel
theorem drg_11 : decode prog_29_method_1_code 11 = .ok (.putfield 13, 3) := by decide +kernel
theorem drg_14 : decode prog_29_method_1_code 14 = .ok (.aload_n 0, 1) := by decide +kernel
theorem drg_15 : decode prog_29_method_1_code 15 = .ok (.aload_n 3, 1) := by decide +kernel
theorem drg_16 : decode prog_29_method_1_code 16 = .ok (.putfield 16, 3) := by decide +kernel
theorem drg_19 : decode prog_29_method_1_code 19 = .ok (.aload_n 0, 1) := by decide +kernel
theorem drg_20 : decode prog_29_method_1_code 20 = .ok (.aload 4, 2) := by decide +kernel
theorem drg_22 : decode prog_29_method_1_code 22 = .ok (.invokevirtual 19, 3) := by decide +kernel
theorem drg_25 : decode prog_29_method_1_code 25 = .ok (.putfield 25, 3) := by decide +kernel
theorem drg_28 : decode prog_29_method_1_code 28 = .ok (.aload_n 0, 1) := by decide +kernel
theorem drg_29 : decode prog_29_method_1_code 29 = .ok (.aload 4, 2) := by decide +kernel
theorem drg_31 : decode prog_29_method_1_code 31 = .ok (.invokevirtual 29, 3) := by decide +kernel
theorem drg_34 : decode prog_29_method_1_code 34 = .ok (.putfield 32, 3) := by decide +kernel
theorem drg_37 : decode prog_29_method_1_code 37 = .ok (.aload_n 0, 1) := by decide +kernel
theorem drg_38 : decode prog_29_method_1_code 38 = .ok (.aload 4, 2) := by decide +kernel
theorem drg_40 : decode prog_29_method_1_code 40 = .ok (.invokevirtual 35, 3) := by decide +kernel
theorem drg_43 : decode prog_29_method_1_code 43 = .ok (.putfield 38, 3) := by decide +kernel
theorem drg_46 : decode prog_29_method_1_code 46 = .ok (.aload_n 0, 1) := by decide +kernel
theorem drg_47 : decode prog_29_method_1_code 47 = .ok (.aload 4, 2) := by decide +kernel
theorem drg_49 : decode prog_29_method_1_code 49 = .ok (.invokevirtual 41, 3) := by decide +kernel
theorem drg_52 : decode prog_29_method_1_code 52 = .ok (.putfield 45, 3) := by decide +kernel
theorem drg_55 : decode prog_29_method_1_code 55 = .ok (.aload_n 0, 1) := by decide +kernel
theorem drg_56 : decode prog_29_method_1_code 56 = .ok (.aload 5, 2) := by decide +kernel
theorem drg_58 : decode prog_29_method_1_code 58 = .ok (.invokevirtual 19, 3) := by decide +kernel
theorem drg_61 : decode prog_29_method_1_code 61 = .ok (.putfield 49, 3) := by decide +kernel
theorem drg_64 : decode prog_29_method_1_code 64 = .ok (.aload_n 0, 1) := by decide +kernel
theorem drg_65 : decode prog_29_method_1_code 65 = .ok (.aload 5, 2) := by decide +kernel
theorem drg_67 : decode prog_29_method_1_code 67 = .ok (.invokevirtual 29, 3) := by decide +kernel
theorem drg_70 : decode prog_29_method_1_code 70 = .ok (.putfield 52, 3) := by decide +kernel
theorem drg_73 : decode prog_29_method_1_code 73 = .ok (.aload_n 0, 1) := by decide +kernel
theorem drg_74 : decode prog_29_method_1_code 74 = .ok (.aload 5, 2) := by decide +kernel
theorem drg_76 : decode prog_29_method_1_code 76 = .ok (.invokevirtual 41, 3) := by decide +kernel
theorem drg_79 : decode prog_29_method_1_code 79 = .ok (.putfield 55, 3) := by decide +kernel
theorem drg_82 : decode prog_29_method_1_code 82 = .ok (.aload_n 0, 1) := by decide +kernel
theorem drg_83 : decode prog_29_method_1_code 83 = .ok (.aload 5, 2) := by decide +kernel
theorem drg_85 : decode prog_29_method_1_code 85 = .ok (.invokevirtual 35, 3) := by decide +kernel
theorem drg_88 : decode prog_29_method_1_code 88 = .ok (.putfield 58, 3) := by decide +kernel
theorem drg_91 : decode prog_29_method_1_code 91 = .ok (.aload_n 0, 1) := by decide +kernel
theorem drg_92 : decode prog_29_method_1_code 92 = .ok (.aload 6, 2) := by decide +kernel
theorem drg_94 : decode prog_29_method_1_code 94 = .ok (.putfield 61, 3) := by decide +kernel
theorem drg_97 : decode prog_29_method_1_code 97 = .ok (.aload_n 0, 1) := by decide +kernel
theorem drg_98 : decode prog_29_method_1_code 98 = .ok (.aload 7, 2) := by decide +kernel
theorem drg_100 : decode prog_29_method_1_code 100 = .ok (.putfield 64, 3) := by decide +kernel
theorem drg_103 : decode prog_29_method_1_code 103 = .ok (.return_, 1) := by decide +kernel
theorem ef_rg (mI : MethodId) (g : Addr) (ir : Addr) (pi : Addr) (gl : Addr) (t : Addr) (lf : Addr) (px : Addr) : entryFrame mI #[(.ref g), (.ref ir), (.ref pi), (.ref gl), (.ref t), (.ref t), (.ref lf), (.ref px)] 8 = mkF mI 0 #[.val (.ref g), .val (.ref ir), .val (.ref pi), .val (.ref gl), .val (.ref t), .val (.ref t), .val (.ref lf), .val (.ref px)] [] := by first | (simp [entryFrame, mkF, argsToLocals, Value.category]; done) | rfl
theorem pn_rg : plainName own_RG = true := by first | decide +kernel | (simp [plainName, overriddenIn]; done)
set_option maxRecDepth 65536 in
set_option maxHeartbeats 40000000 in
theorem rmrg (lL : Launch) (Z : State) (a0 : Array Value) (hw : ∀ d ∈ tables_1, d.before a0 Z = true) (ws : List Jvm.Cond) (g : Addr) (ir : Addr) (pi : Addr) (gl : Addr) (t : Addr) (lf : Addr) (px : Addr) (s : Addr) (m : Addr) (bs : Addr) (bp : Addr) (bo : Addr) (bf : Addr) (k_bs : ClassId) (k_bp : ClassId) (k_bo : ClassId) (k_bf : ClassId) (h0 : Heap) (n0 : Nat) (Z0 : n0 ≤ h0.size) (F_iris_g : Fld Z h0 g own_RG "iris" "[Ljava/lang/String;" .null) (F_predicateIris_g : Fld Z h0 g own_RG "predicateIris" "[Ljava/lang/String;" .null) (F_graphLabels_g : Fld Z h0 g own_RG "graphLabels" "[Ljava/lang/String;" .null) (F_linkSources_g : Fld Z h0 g own_RG "linkSources" "[I" .null) (F_linkPredicates_g : Fld Z h0 g own_RG "linkPredicates" "[I" .null) (F_linkTargets_g : Fld Z h0 g own_RG "linkTargets" "[I" .null) (F_linkMemberships_g : Fld Z h0 g own_RG "linkMemberships" "Lcom/example/weser/weser/core/Memberships;" .null) (F_literalSubjects_g : Fld Z h0 g own_RG "literalSubjects" "[I" .null) (F_literalPredicates_g : Fld Z h0 g own_RG "literalPredicates" "[I" .null) (F_literalMemberships_g : Fld Z h0 g own_RG "literalMemberships" "Lcom/example/weser/weser/core/Memberships;" .null) (F_literalObjects_g : Fld Z h0 g own_RG "literalObjects" "[I" .null) (F_lexicalForms_g : Fld Z h0 g own_RG "lexicalForms" "[Ljava/lang/String;" .null) (F_prefixes_g : Fld Z h0 g own_RG "prefixes" "Lcom/example/weser/weser/core/Prefixes;" .null) (E_g : Exa Z h0 g own_RG) (le_n0_g : n0 ≤ g) (E_t : Exa Z h0 t own_TT) (F_subjects_t : Fld Z h0 t own_TT "subjects" "[I" (.ref bs)) (F_predicates_t : Fld Z h0 t own_TT "predicates" "[I" (.ref bp)) (F_objects_t : Fld Z h0 t own_TT "objects" "[I" (.ref bo)) (F_firstGraphs_t : Fld Z h0 t own_TT "firstGraphs" "[I" (.ref bf)) (F_otherGraphs_t : Fld Z h0 t own_TT "otherGraphs" "Ljava/util/Set;" (.ref s)) (F_size_t : Fld Z h0 t own_TT "size" "I" (.int (0 : Int32))) (E_s : Exa Z h0 s "java/util/LinkedHashSet") (F_map_s : Fld Z h0 s "java/util/HashSet" "map" "Ljava/util/HashMap;" (.ref m)) (E_m : Exa Z h0 m "java/util/LinkedHashMap") (F_size_m : Fld Z h0 m "java/util/HashMap" "size" "I" (.int (0 : Int32))) (F_keySet_m : Fld Z h0 m "java/util/AbstractMap" "keySet" "Ljava/util/Set;" .null) (F_head_m : Fld Z h0 m "java/util/LinkedHashMap" "head" "Ljava/util/LinkedHashMap$Entry;" .null) (F_modCount_m : Fld Z h0 m "java/util/HashMap" "modCount" "I" (.int (0 : Int32))) (V_bs : Arv Z h0 bs k_bs .int (1024 : Int32) [] (.int (0 : Int32))) (V_bp : Arv Z h0 bp k_bp .int (1024 : Int32) [] (.int (0 : Int32))) (V_bo : Arv Z h0 bo k_bo .int (1024 : Int32) [] (.int (0 : Int32))) (V_bf : Arv Z h0 bf k_bf .int (1024 : Int32) [] (.int (0 : Int32))) (le_n0_m : n0 ≤ m) (ne_g_t : g ≠ t) (ne_g_s : g ≠ s) (ne_g_m : g ≠ m) (ne_g_bs : g ≠ bs) (ne_g_bp : g ≠ bp) (ne_g_bo : g ≠ bo) (ne_g_bf : g ≠ bf) :
    MetFree lL (⟨own_RG, "<init>", "([Ljava/lang/String;[Ljava/lang/String;[Ljava/lang/String;Lcom/example/weser/weser/core/TripleTable;Lcom/example/weser/weser/core/TripleTable;[Ljava/lang/String;Lcom/example/weser/weser/core/Prefixes;)V"⟩ : MethodName) (head1 (Jvm.Cond.code (⟨own_RG, "<init>", "([Ljava/lang/String;[Ljava/lang/String;[Ljava/lang/String;Lcom/example/weser/weser/core/TripleTable;Lcom/example/weser/weser/core/TripleTable;[Ljava/lang/String;Lcom/example/weser/weser/core/Prefixes;)V"⟩ : MethodName) prog_29_method_1_code 8 none :: ws) ({ frames := 8, cells := 15, slots := 16, locals := 109 } : Room)) (fun a_ U_ => a_ = #[(.ref g), (.ref ir), (.ref pi), (.ref gl), (.ref t), (.ref t), (.ref lf), (.ref px)] ∧ Z.Warmed39 U_.vm ∧ U_.heap = h0) (fun _ _ _ _ _ => True) (fun _ U_ o_ W_ => ∃ v_ L_, o_ = .returned v_ ∧ own_Qrg Z g m ir h0 n0 v_ W_.heap L_ ∧ FrameEnd U_ o_ W_ L_ ({ frames := 8, cells := 15, slots := 16, locals := 109 } : Room).cells ({ frames := 8, cells := 15, slots := 16, locals := 109 } : Room).slots) := by
  refine MetFree.of_bodySF (plainFor_of_name pn_rg) hisR ?_
  intro pP eE sS mI args below meth cC s₁ Bd hml0 hP hK
  obtain ⟨rfl, hZ, hh⟩ := hP
  have hx := Bd.exec
  have hby := Bd.bytes
  have hml : cC.maxLocals = 8 := hml0
  have hown : sS.vm.findClass own_RG = some mI.cls := by have z := findClass_of_methodNamed Bd.named; exact z
  have hnm := (name_of_methodNamed Bd.named Bd.method).1
  have X0 : Stand pP lL eE ({ frames := 8, cells := 15, slots := 16, locals := 109 } : Room) sS mI #[(.ref g), (.ref ir), (.ref pi), (.ref gl), (.ref t), (.ref t), (.ref lf), (.ref px)] below meth cC s₁ [] 0 0 := Stand.of_body Bd
  have e0 : s₁.heap = h0 := by rw [← hh, Bd.state]; rfl
  have N0 := Fr.nil n0
  obtain ⟨G, hG, hst, hend⟩ := own_abs pP eE below sS (own_Qrg Z g m ir h0 n0) ({ frames := 8, cells := 15, slots := 16, locals := 109 } : Room).cells ({ frames := 8, cells := 15, slots := 16, locals := 109 } : Room).slots
  refine hG (S := s₁.setTop (entryFrame mI #[(.ref g), (.ref ir), (.ref pi), (.ref gl), (.ref t), (.ref t), (.ref lf), (.ref px)] 8)) (hst (fun t_ kt_ => castTop (ef_rg mI g ir pi gl t lf px) kt_) ?_)
  have Z1 := Nat.le_refl h0.size
  have K0 := Keep.refl h0 [g, m]
  show G (s₁.setTop (mkF mI 0 #[.val (.ref g), .val (.ref ir), .val (.ref pi), .val (.ref gl), .val (.ref t), .val (.ref t), .val (.ref lf), .val (.ref px)] []))
  refine o_aloadN hst X0.here hx (hb hby drg_0) (pc' := 1) rfl rfl rfl ?_
  obtain ⟨T_1, X_1, e_1, st_1⟩ := initO X0 hx hZ hown (own_w145 hw) (own_w26 hw) (own_w27 hw) e0 (g := (mkF mI 1 #[.val (.ref g), .val (.ref ir), .val (.ref pi), .val (.ref gl), .val (.ref t), .val (.ref t), .val (.ref lf), .val (.ref px)] [(.ref g)])) rfl (by rw [hml]; rfl) rfl (hb hby drg_1) (by decide) (W := 0) (by show 2 * 0 + _ ≤ _; exact Nat.le_of_eq rfl) (by decide)
  refine hst st_1 ?_
  show G (T_1.setTop (mkF mI 4 #[.val (.ref g), .val (.ref ir), .val (.ref pi), .val (.ref gl), .val (.ref t), .val (.ref t), .val (.ref lf), .val (.ref px)] []))
  refine o_aloadN hst X_1.here hx (hb hby drg_4) (pc' := 5) rfl rfl rfl ?_
  refine o_aloadN hst X_1.here hx (hb hby drg_5) (pc' := 6) rfl rfl rfl ?_
  obtain ⟨T_2, h_2, X_2, e_2, W_2, st_2⟩ := putF X_1 hx hZ hown (host := "") (Or.inl (own_w146 hw)) Via.refl e_1 F_iris_g E_g (Or.inr ⟨(own_w147 hw), rfl, hnm⟩) (own_w122 hw) (ty := (.array (.object "java/lang/String"))) (by decide) rfl rfl (g := (mkF mI 6 #[.val (.ref g), .val (.ref ir), .val (.ref pi), .val (.ref gl), .val (.ref t), .val (.ref t), .val (.ref lf), .val (.ref px)] [(.ref ir), (.ref g)])) rfl rfl (hb hby drg_6)
  have Z0 := Nat.le_trans Z0 (Keep.of_wr W_2).1
  have Z1 := Nat.le_trans Z1 (Keep.of_wr W_2).1
  have K0 := K0.wr W_2 (Or.inl (List.mem_of_getElem? (i := 0) rfl))
  have F_iris_g := F_iris_g.same W_2
  have F_predicateIris_g := F_predicateIris_g.other W_2 (Or.inr (slot_ne (Or.inr (own_w149 hw)) (Or.inr (own_w147 hw)) (by decide) (t := (.array (.object "java/lang/String"))) (t' := (.array (.object "java/lang/String"))) (by decide) (by decide)))
  have F_graphLabels_g := F_graphLabels_g.other W_2 (Or.inr (slot_ne (Or.inr (own_w151 hw)) (Or.inr (own_w147 hw)) (by decide) (t := (.array (.object "java/lang/String"))) (t' := (.array (.object "java/lang/String"))) (by decide) (by decide)))
  have F_linkSources_g := F_linkSources_g.other W_2 (Or.inr (slot_ne (Or.inr (own_w172 hw)) (Or.inr (own_w147 hw)) (by decide) (t := (.array .int)) (t' := (.array (.object "java/lang/String"))) (by decide) (by decide)))
  have F_linkPredicates_g := F_linkPredicates_g.other W_2 (Or.inr (slot_ne (Or.inr (own_w179 hw)) (Or.inr (own_w147 hw)) (by decide) (t := (.array .int)) (t' := (.array (.object "java/lang/String"))) (by decide) (by decide)))
  have F_linkTargets_g := F_linkTargets_g.other W_2 (Or.inr (slot_ne (Or.inr (own_w186 hw)) (Or.inr (own_w147 hw)) (by decide) (t := (.array .int)) (t' := (.array (.object "java/lang/String"))) (by decide) (by decide)))
  have F_linkMemberships_g := F_linkMemberships_g.other W_2 (Or.inr (slot_ne (Or.inr (own_w306 hw)) (Or.inr (own_w147 hw)) (by decide) (t := (.object own_MB)) (t' := (.array (.object "java/lang/String"))) (by decide) (by decide)))
  have F_literalSubjects_g := F_literalSubjects_g.other W_2 (Or.inr (slot_ne (Or.inr (own_w308 hw)) (Or.inr (own_w147 hw)) (by decide) (t := (.array .int)) (t' := (.array (.object "java/lang/String"))) (by decide) (by decide)))
  have F_literalPredicates_g := F_literalPredicates_g.other W_2 (Or.inr (slot_ne (Or.inr (own_w310 hw)) (Or.inr (own_w147 hw)) (by decide) (t := (.array .int)) (t' := (.array (.object "java/lang/String"))) (by decide) (by decide)))
  have F_literalMemberships_g := F_literalMemberships_g.other W_2 (Or.inr (slot_ne (Or.inr (own_w314 hw)) (Or.inr (own_w147 hw)) (by decide) (t := (.object own_MB)) (t' := (.array (.object "java/lang/String"))) (by decide) (by decide)))
  have F_literalObjects_g := F_literalObjects_g.other W_2 (Or.inr (slot_ne (Or.inr (own_w316 hw)) (Or.inr (own_w147 hw)) (by decide) (t := (.array .int)) (t' := (.array (.object "java/lang/String"))) (by decide) (by decide)))
  have F_lexicalForms_g := F_lexicalForms_g.other W_2 (Or.inr (slot_ne (Or.inr (own_w318 hw)) (Or.inr (own_w147 hw)) (by decide) (t := (.array (.object "java/lang/String"))) (t' := (.array (.object "java/lang/String"))) (by decide) (by decide)))
  have F_prefixes_g := F_prefixes_g.other W_2 (Or.inr (slot_ne (Or.inr (own_w320 hw)) (Or.inr (own_w147 hw)) (by decide) (t := (.object own_PX)) (t' := (.array (.object "java/lang/String"))) (by decide) (by decide)))
  have E_g := E_g.wr W_2
  have E_t := E_t.wr W_2
  have F_subjects_t := F_subjects_t.other W_2 (Or.inl (Ne.symm ne_g_t))
  have F_predicates_t := F_predicates_t.other W_2 (Or.inl (Ne.symm ne_g_t))
  have F_objects_t := F_objects_t.other W_2 (Or.inl (Ne.symm ne_g_t))
  have F_firstGraphs_t := F_firstGraphs_t.other W_2 (Or.inl (Ne.symm ne_g_t))
  have F_otherGraphs_t := F_otherGraphs_t.other W_2 (Or.inl (Ne.symm ne_g_t))
  have F_size_t := F_size_t.other W_2 (Or.inl (Ne.symm ne_g_t))
  have E_s := E_s.wr W_2
  have F_map_s := F_map_s.other W_2 (Or.inl (Ne.symm ne_g_s))
  have E_m := E_m.wr W_2
  have F_size_m := F_size_m.other W_2 (Or.inl (Ne.symm ne_g_m))
  have F_keySet_m := F_keySet_m.other W_2 (Or.inl (Ne.symm ne_g_m))
  have F_head_m := F_head_m.other W_2 (Or.inl (Ne.symm ne_g_m))
  have F_modCount_m := F_modCount_m.other W_2 (Or.inl (Ne.symm ne_g_m))
  have V_bs := V_bs.other W_2 (Ne.symm ne_g_bs)
  have V_bp := V_bp.other W_2 (Ne.symm ne_g_bp)
  have V_bo := V_bo.other W_2 (Ne.symm ne_g_bo)
  have V_bf := V_bf.other W_2 (Ne.symm ne_g_bf)
  have N_2 := Fr.snoc X_2 N0 le_n0_g
  refine hst st_2 ?_
  show G (T_2.setTop (mkF mI 9 #[.val (.ref g), .val (.ref ir), .val (.ref pi), .val (.ref gl), .val (.ref t), .val (.ref t), .val (.ref lf), .val (.ref px)] []))
  refine o_aloadN hst X_2.here hx (hb hby drg_9) (pc' := 10) rfl rfl rfl ?_
  refine o_aloadN hst X_2.here hx (hb hby drg_10) (pc' := 11) rfl rfl rfl ?_
  obtain ⟨T_3, h_3, X_3, e_3, W_3, st_3⟩ := putF X_2 hx hZ hown (host := "") (Or.inl (own_w148 hw)) Via.refl e_2 F_predicateIris_g E_g (Or.inr ⟨(own_w149 hw), rfl, hnm⟩) (own_w122 hw) (ty := (.array (.object "java/lang/String"))) (by decide) rfl rfl (g := (mkF mI 11 #[.val (.ref g), .val (.ref ir), .val (.ref pi), .val (.ref gl), .val (.ref t), .val (.ref t), .val (.ref lf), .val (.ref px)] [(.ref pi), (.ref g)])) rfl rfl (hb hby drg_11)
  have Z0 := Nat.le_trans Z0 (Keep.of_wr W_3).1
  have Z1 := Nat.le_trans Z1 (Keep.of_wr W_3).1
  have K0 := K0.wr W_3 (Or.inl (List.mem_of_getElem? (i := 0) rfl))
  have F_iris_g := F_iris_g.other W_3 (Or.inr (slot_ne (Or.inr (own_w147 hw)) (Or.inr (own_w149 hw)) (by decide) (t := (.array (.object "java/lang/String"))) (t' := (.array (.object "java/lang/String"))) (by decide) (by decide)))
  have F_predicateIris_g := F_predicateIris_g.same W_3
  have F_graphLabels_g := F_graphLabels_g.other W_3 (Or.inr (slot_ne (Or.inr (own_w151 hw)) (Or.inr (own_w149 hw)) (by decide) (t := (.array (.object "java/lang/String"))) (t' := (.array (.object "java/lang/String"))) (by decide) (by decide)))
  have F_linkSources_g := F_linkSources_g.other W_3 (Or.inr (slot_ne (Or.inr (own_w172 hw)) (Or.inr (own_w149 hw)) (by decide) (t := (.array .int)) (t' := (.array (.object "java/lang/String"))) (by decide) (by decide)))
  have F_linkPredicates_g := F_linkPredicates_g.other W_3 (Or.inr (slot_ne (Or.inr (own_w179 hw)) (Or.inr (own_w149 hw)) (by decide) (t := (.array .int)) (t' := (.array (.object "java/lang/String"))) (by decide) (by decide)))
  have F_linkTargets_g := F_linkTargets_g.other W_3 (Or.inr (slot_ne (Or.inr (own_w186 hw)) (Or.inr (own_w149 hw)) (by decide) (t := (.array .int)) (t' := (.array (.object "java/lang/String"))) (by decide) (by decide)))
  have F_linkMemberships_g := F_linkMemberships_g.other W_3 (Or.inr (slot_ne (Or.inr (own_w306 hw)) (Or.inr (own_w149 hw)) (by decide) (t := (.object own_MB)) (t' := (.array (.object "java/lang/String"))) (by decide) (by decide)))
  have F_literalSubjects_g := F_literalSubjects_g.other W_3 (Or.inr (slot_ne (Or.inr (own_w308 hw)) (Or.inr (own_w149 hw)) (by decide) (t := (.array .int)) (t' := (.array (.object "java/lang/String"))) (by decide) (by decide)))
  have F_literalPredicates_g := F_literalPredicates_g.other W_3 (Or.inr (slot_ne (Or.inr (own_w310 hw)) (Or.inr (own_w149 hw)) (by decide) (t := (.array .int)) (t' := (.array (.object "java/lang/String"))) (by decide) (by decide)))
  have F_literalMemberships_g := F_literalMemberships_g.other W_3 (Or.inr (slot_ne (Or.inr (own_w314 hw)) (Or.inr (own_w149 hw)) (by decide) (t := (.object own_MB)) (t' := (.array (.object "java/lang/String"))) (by decide) (by decide)))
  have F_literalObjects_g := F_literalObjects_g.other W_3 (Or.inr (slot_ne (Or.inr (own_w316 hw)) (Or.inr (own_w149 hw)) (by decide) (t := (.array .int)) (t' := (.array (.object "java/lang/String"))) (by decide) (by decide)))
  have F_lexicalForms_g := F_lexicalForms_g.other W_3 (Or.inr (slot_ne (Or.inr (own_w318 hw)) (Or.inr (own_w149 hw)) (by decide) (t := (.array (.object "java/lang/String"))) (t' := (.array (.object "java/lang/String"))) (by decide) (by decide)))
  have F_prefixes_g := F_prefixes_g.other W_3 (Or.inr (slot_ne (Or.inr (own_w320 hw)) (Or.inr (own_w149 hw)) (by decide) (t := (.object own_PX)) (t' := (.array (.object "java/lang/String"))) (by decide) (by decide)))
  have E_g := E_g.wr W_3
  have E_t := E_t.wr W_3
  have F_subjects_t := F_subjects_t.other W_3 (Or.inl (Ne.symm ne_g_t))
  have F_predicates_t := F_predicates_t.other W_3 (Or.inl (Ne.symm ne_g_t))
  have F_objects_t := F_objects_t.other W_3 (Or.inl (Ne.symm ne_g_t))
  have F_firstGraphs_t := F_firstGraphs_t.other W_3 (Or.inl (Ne.symm ne_g_t))
  have F_otherGraphs_t := F_otherGraphs_t.other W_3 (Or.inl (Ne.symm ne_g_t))
  have F_size_t := F_size_t.other W_3 (Or.inl (Ne.symm ne_g_t))
  have E_s := E_s.wr W_3
  have F_map_s := F_map_s.other W_3 (Or.inl (Ne.symm ne_g_s))
  have E_m := E_m.wr W_3
  have F_size_m := F_size_m.other W_3 (Or.inl (Ne.symm ne_g_m))
  have F_keySet_m := F_keySet_m.other W_3 (Or.inl (Ne.symm ne_g_m))
  have F_head_m := F_head_m.other W_3 (Or.inl (Ne.symm ne_g_m))
  have F_modCount_m := F_modCount_m.other W_3 (Or.inl (Ne.symm ne_g_m))
  have V_bs := V_bs.other W_3 (Ne.symm ne_g_bs)
  have V_bp := V_bp.other W_3 (Ne.symm ne_g_bp)
  have V_bo := V_bo.other W_3 (Ne.symm ne_g_bo)
  have V_bf := V_bf.other W_3 (Ne.symm ne_g_bf)
  have N_3 := Fr.snoc X_3 N_2 le_n0_g
  refine hst st_3 ?_
  show G (T_3.setTop (mkF mI 14 #[.val (.ref g), .val (.ref ir), .val (.ref pi), .val (.ref gl), .val (.ref t), .val (.ref t), .val (.ref lf), .val (.ref px)] []))
  refine o_aloadN hst X_3.here hx (hb hby drg_14) (pc' := 15) rfl rfl rfl ?_
  refine o_aloadN hst X_3.here hx (hb hby drg_15) (pc' := 16) rfl rfl rfl ?_
  obtain ⟨T_4, h_4, X_4, e_4, W_4, st_4⟩ := putF X_3 hx hZ hown (host := "") (Or.inl (own_w150 hw)) Via.refl e_3 F_graphLabels_g E_g (Or.inr ⟨(own_w151 hw), rfl, hnm⟩) (own_w122 hw) (ty := (.array (.object "java/lang/String"))) (by decide) rfl rfl (g := (mkF mI 16 #[.val (.ref g), .val (.ref ir), .val (.ref pi), .val (.ref gl), .val (.ref t), .val (.ref t), .val (.ref lf), .val (.ref px)] [(.ref gl), (.ref g)])) rfl rfl (hb hby drg_16)
  have Z0 := Nat.le_trans Z0 (Keep.of_wr W_4).1
  have Z1 := Nat.le_trans Z1 (Keep.of_wr W_4).1
  have K0 := K0.wr W_4 (Or.inl (List.mem_of_getElem? (i := 0) rfl))
  have F_iris_g := F_iris_g.other W_4 (Or.inr (slot_ne (Or.inr (own_w147 hw)) (Or.inr (own_w151 hw)) (by decide) (t := (.array (.object "java/lang/String"))) (t' := (.array (.object "java/lang/String"))) (by decide) (by decide)))
  have F_graphLabels_g := F_graphLabels_g.same W_4
  have F_linkSources_g := F_linkSources_g.other W_4 (Or.inr (slot_ne (Or.inr (own_w172 hw)) (Or.inr (own_w151 hw)) (by decide) (t := (.array .int)) (t' := (.array (.object "java/lang/String"))) (by decide) (by decide)))
  have F_linkPredicates_g := F_linkPredicates_g.other W_4 (Or.inr (slot_ne (Or.inr (own_w179 hw)) (Or.inr (own_w151 hw)) (by decide) (t := (.array .int)) (t' := (.array (.object "java/lang/String"))) (by decide) (by decide)))
  have F_linkTargets_g := F_linkTargets_g.other W_4 (Or.inr (slot_ne (Or.inr (own_w186 hw)) (Or.inr (own_w151 hw)) (by decide) (t := (.array .int)) (t' := (.array (.object "java/lang/String"))) (by decide) (by decide)))
  have F_linkMemberships_g := F_linkMemberships_g.other W_4 (Or.inr (slot_ne (Or.inr (own_w306 hw)) (Or.inr (own_w151 hw)) (by decide) (t := (.object own_MB)) (t' := (.array (.object "java/lang/String"))) (by decide) (by decide)))
  have F_literalSubjects_g := F_literalSubjects_g.other W_4 (Or.inr (slot_ne (Or.inr (own_w308 hw)) (Or.inr (own_w151 hw)) (by decide) (t := (.array .int)) (t' := (.array (.object "java/lang/String"))) (by decide) (by decide)))
  have F_literalPredicates_g := F_literalPredicates_g.other W_4 (Or.inr (slot_ne (Or.inr (own_w310 hw)) (Or.inr (own_w151 hw)) (by decide) (t := (.array .int)) (t' := (.array (.object "java/lang/String"))) (by decide) (by decide)))
  have F_literalMemberships_g := F_literalMemberships_g.other W_4 (Or.inr (slot_ne (Or.inr (own_w314 hw)) (Or.inr (own_w151 hw)) (by decide) (t := (.object own_MB)) (t' := (.array (.object "java/lang/String"))) (by decide) (by decide)))
  have F_literalObjects_g := F_literalObjects_g.other W_4 (Or.inr (slot_ne (Or.inr (own_w316 hw)) (Or.inr (own_w151 hw)) (by decide) (t := (.array .int)) (t' := (.array (.object "java/lang/String"))) (by decide) (by decide)))
  have F_lexicalForms_g := F_lexicalForms_g.other W_4 (Or.inr (slot_ne (Or.inr (own_w318 hw)) (Or.inr (own_w151 hw)) (by decide) (t := (.array (.object "java/lang/String"))) (t' := (.array (.object "java/lang/String"))) (by decide) (by decide)))
  have F_prefixes_g := F_prefixes_g.other W_4 (Or.inr (slot_ne (Or.inr (own_w320 hw)) (Or.inr (own_w151 hw)) (by decide) (t := (.object own_PX)) (t' := (.array (.object "java/lang/String"))) (by decide) (by decide)))
  have E_g := E_g.wr W_4
  have E_t := E_t.wr W_4
  have F_subjects_t := F_subjects_t.other W_4 (Or.inl (Ne.symm ne_g_t))
  have F_predicates_t := F_predicates_t.other W_4 (Or.inl (Ne.symm ne_g_t))
  have F_objects_t := F_objects_t.other W_4 (Or.inl (Ne.symm ne_g_t))
  have F_firstGraphs_t := F_firstGraphs_t.other W_4 (Or.inl (Ne.symm ne_g_t))
  have F_otherGraphs_t := F_otherGraphs_t.other W_4 (Or.inl (Ne.symm ne_g_t))
  have F_size_t := F_size_t.other W_4 (Or.inl (Ne.symm ne_g_t))
  have E_s := E_s.wr W_4
  have F_map_s := F_map_s.other W_4 (Or.inl (Ne.symm ne_g_s))
  have E_m := E_m.wr W_4
  have F_size_m := F_size_m.other W_4 (Or.inl (Ne.symm ne_g_m))
  have F_keySet_m := F_keySet_m.other W_4 (Or.inl (Ne.symm ne_g_m))
  have F_head_m := F_head_m.other W_4 (Or.inl (Ne.symm ne_g_m))
  have F_modCount_m := F_modCount_m.other W_4 (Or.inl (Ne.symm ne_g_m))
  have V_bs := V_bs.other W_4 (Ne.symm ne_g_bs)
  have V_bp := V_bp.other W_4 (Ne.symm ne_g_bp)
  have V_bo := V_bo.other W_4 (Ne.symm ne_g_bo)
  have V_bf := V_bf.other W_4 (Ne.symm ne_g_bf)
  have N_4 := Fr.snoc X_4 N_3 le_n0_g
  refine hst st_4 ?_
  show G (T_4.setTop (mkF mI 19 #[.val (.ref g), .val (.ref ir), .val (.ref pi), .val (.ref gl), .val (.ref t), .val (.ref t), .val (.ref lf), .val (.ref px)] []))
  refine o_aloadN hst X_4.here hx (hb hby drg_19) (pc' := 20) rfl rfl rfl ?_
  refine o_aload hst X_4.here hx (hb hby drg_20) (pc' := 22) rfl rfl rfl ?_
  obtain ⟨cq_5, kq_5, q_5a, q_5b, q_5c⟩ := isOf hZ e_4 E_t
  obtain ⟨_, _, ⟨T_5, L_5, k_5, n_5⟩, -, X_5, ⟨Lc_5, hQ_5, l_5, y_5, z_5⟩, st_5⟩ := X_4.virtualBack hx (y := (⟨own_TT, "subjects", "()[I"⟩ : MethodName)) (z := (⟨own_TT, "subjects", "()[I"⟩ : MethodName)) hown (mvT hZ (own_w152 hw)) (mvT hZ (own_w153 hw)) (notFace_of_selects (args := #[]) (mvT hZ (own_w155 hw))) (mvT hZ (own_w155 hw)) (mvT hZ (own_w154 hw)) (by decide) (backOf (W := 1) (rmgbs0 lL Z a0 hw [] t bs k_bs h_4 n0 Z0 F_subjects_t F_size_t V_bs) hZ (own_w156 hw) (own_w34 hw) (by decide) (by decide)) q_5a q_5c (g := (mkF mI 22 #[.val (.ref g), .val (.ref ir), .val (.ref pi), .val (.ref gl), .val (.ref t), .val (.ref t), .val (.ref lf), .val (.ref px)] [(.ref t), (.ref g)])) rfl (by rw [hml]; rfl) (Steps.refl _) (argsL := []) (rest := [(.ref g)]) (lenOf pd_18 rfl) rfl (by show 2 * 0 + _ ≤ _; exact Nat.le_of_eq rfl) (hb hby drg_22) (fun _ _ => ⟨rfl, e_4, (by decide : 0 + 1 ≤ _), (by decide : 0 + 0 ≤ _)⟩)
  dsimp only [Pt.U, Pt.locs, Pt.cells, Pt.slots] at X_5 l_5 y_5 z_5 st_5 hQ_5
  subst l_5 y_5 z_5
  obtain ⟨c_5, kc_5, rfl, N_5q, K_5, le_c_5, V_c_5⟩ := hQ_5
  have Z0 := Nat.le_trans Z0 K_5.1
  have Z1 := Nat.le_trans Z1 K_5.1
  have K0 := K0.trans K_5 all0
  have F_iris_g := F_iris_g.keep K_5 nin0
  have F_linkSources_g := F_linkSources_g.keep K_5 nin0
  have F_linkPredicates_g := F_linkPredicates_g.keep K_5 nin0
  have F_linkTargets_g := F_linkTargets_g.keep K_5 nin0
  have F_linkMemberships_g := F_linkMemberships_g.keep K_5 nin0
  have F_literalSubjects_g := F_literalSubjects_g.keep K_5 nin0
  have F_literalPredicates_g := F_literalPredicates_g.keep K_5 nin0
  have F_literalMemberships_g := F_literalMemberships_g.keep K_5 nin0
  have F_literalObjects_g := F_literalObjects_g.keep K_5 nin0
  have F_lexicalForms_g := F_lexicalForms_g.keep K_5 nin0
  have F_prefixes_g := F_prefixes_g.keep K_5 nin0
  have E_g := E_g.keep K_5
  have E_t := E_t.keep K_5
  have F_subjects_t := F_subjects_t.keep K_5 nin0
  have F_predicates_t := F_predicates_t.keep K_5 nin0
  have F_objects_t := F_objects_t.keep K_5 nin0
  have F_firstGraphs_t := F_firstGraphs_t.keep K_5 nin0
  have F_otherGraphs_t := F_otherGraphs_t.keep K_5 nin0
  have F_size_t := F_size_t.keep K_5 nin0
  have E_s := E_s.keep K_5
  have F_map_s := F_map_s.keep K_5 nin0
  have E_m := E_m.keep K_5
  have F_size_m := F_size_m.keep K_5 nin0
  have F_keySet_m := F_keySet_m.keep K_5 nin0
  have F_head_m := F_head_m.keep K_5 nin0
  have F_modCount_m := F_modCount_m.keep K_5 nin0
  have V_bs := V_bs.keep K_5 nin0
  have V_bp := V_bp.keep K_5 nin0
  have V_bo := V_bo.keep K_5 nin0
  have V_bf := V_bf.keep K_5 nin0
  have N_5 := Fr.app N_4 N_5q
  refine hst (fun _ kt => st_5.trans kt) ?_
  show G (T_5.setTop (mkF mI 25 #[.val (.ref g), .val (.ref ir), .val (.ref pi), .val (.ref gl), .val (.ref t), .val (.ref t), .val (.ref lf), .val (.ref px)] [(.ref c_5), (.ref g)]))
  obtain ⟨T_6, h_6, X_6, e_6, W_6, st_6⟩ := putF X_5 hx hZ hown (host := "") (Or.inl (own_w171 hw)) Via.refl rfl F_linkSources_g E_g (Or.inr ⟨(own_w172 hw), rfl, hnm⟩) (own_w122 hw) (ty := (.array .int)) (by decide) rfl rfl (g := (mkF mI 25 #[.val (.ref g), .val (.ref ir), .val (.ref pi), .val (.ref gl), .val (.ref t), .val (.ref t), .val (.ref lf), .val (.ref px)] [(.ref c_5), (.ref g)])) rfl rfl (hb hby drg_25)
  have Z0 := Nat.le_trans Z0 (Keep.of_wr W_6).1
  have Z1 := Nat.le_trans Z1 (Keep.of_wr W_6).1
  have K0 := K0.wr W_6 (Or.inl (List.mem_of_getElem? (i := 0) rfl))
  have F_iris_g := F_iris_g.other W_6 (Or.inr (slot_ne (Or.inr (own_w147 hw)) (Or.inr (own_w172 hw)) (by decide) (t := (.array (.object "java/lang/String"))) (t' := (.array .int)) (by decide) (by decide)))
  have F_linkSources_g := F_linkSources_g.same W_6
  have F_linkPredicates_g := F_linkPredicates_g.other W_6 (Or.inr (slot_ne (Or.inr (own_w179 hw)) (Or.inr (own_w172 hw)) (by decide) (t := (.array .int)) (t' := (.array .int)) (by decide) (by decide)))
  have F_linkTargets_g := F_linkTargets_g.other W_6 (Or.inr (slot_ne (Or.inr (own_w186 hw)) (Or.inr (own_w172 hw)) (by decide) (t := (.array .int)) (t' := (.array .int)) (by decide) (by decide)))
  have F_linkMemberships_g := F_linkMemberships_g.other W_6 (Or.inr (slot_ne (Or.inr (own_w306 hw)) (Or.inr (own_w172 hw)) (by decide) (t := (.object own_MB)) (t' := (.array .int)) (by decide) (by decide)))
  have F_literalSubjects_g := F_literalSubjects_g.other W_6 (Or.inr (slot_ne (Or.inr (own_w308 hw)) (Or.inr (own_w172 hw)) (by decide) (t := (.array .int)) (t' := (.array .int)) (by decide) (by decide)))
  have F_literalPredicates_g := F_literalPredicates_g.other W_6 (Or.inr (slot_ne (Or.inr (own_w310 hw)) (Or.inr (own_w172 hw)) (by decide) (t := (.array .int)) (t' := (.array .int)) (by decide) (by decide)))
  have F_literalMemberships_g := F_literalMemberships_g.other W_6 (Or.inr (slot_ne (Or.inr (own_w314 hw)) (Or.inr (own_w172 hw)) (by decide) (t := (.object own_MB)) (t' := (.array .int)) (by decide) (by decide)))
  have F_literalObjects_g := F_literalObjects_g.other W_6 (Or.inr (slot_ne (Or.inr (own_w316 hw)) (Or.inr (own_w172 hw)) (by decide) (t := (.array .int)) (t' := (.array .int)) (by decide) (by decide)))
  have F_lexicalForms_g := F_lexicalForms_g.other W_6 (Or.inr (slot_ne (Or.inr (own_w318 hw)) (Or.inr (own_w172 hw)) (by decide) (t := (.array (.object "java/lang/String"))) (t' := (.array .int)) (by decide) (by decide)))
  have F_prefixes_g := F_prefixes_g.other W_6 (Or.inr (slot_ne (Or.inr (own_w320 hw)) (Or.inr (own_w172 hw)) (by decide) (t := (.object own_PX)) (t' := (.array .int)) (by decide) (by decide)))
  have E_g := E_g.wr W_6
  have E_t := E_t.wr W_6
  have F_subjects_t := F_subjects_t.other W_6 (Or.inl (Ne.symm ne_g_t))
  have F_predicates_t := F_predicates_t.other W_6 (Or.inl (Ne.symm ne_g_t))
  have F_objects_t := F_objects_t.other W_6 (Or.inl (Ne.symm ne_g_t))
  have F_firstGraphs_t := F_firstGraphs_t.other W_6 (Or.inl (Ne.symm ne_g_t))
  have F_otherGraphs_t := F_otherGraphs_t.other W_6 (Or.inl (Ne.symm ne_g_t))
  have F_size_t := F_size_t.other W_6 (Or.inl (Ne.symm ne_g_t))
  have E_s := E_s.wr W_6
  have F_map_s := F_map_s.other W_6 (Or.inl (Ne.symm ne_g_s))
  have E_m := E_m.wr W_6
  have F_size_m := F_size_m.other W_6 (Or.inl (Ne.symm ne_g_m))
  have F_keySet_m := F_keySet_m.other W_6 (Or.inl (Ne.symm ne_g_m))
  have F_head_m := F_head_m.other W_6 (Or.inl (Ne.symm ne_g_m))
  have F_modCount_m := F_modCount_m.other W_6 (Or.inl (Ne.symm ne_g_m))
  have V_bs := V_bs.other W_6 (Ne.symm ne_g_bs)
  have V_bp := V_bp.other W_6 (Ne.symm ne_g_bp)
  have V_bo := V_bo.other W_6 (Ne.symm ne_g_bo)
  have V_bf := V_bf.other W_6 (Ne.symm ne_g_bf)
  have N_6 := Fr.snoc X_6 N_5 le_n0_g
  refine hst st_6 ?_
  show G (T_6.setTop (mkF mI 28 #[.val (.ref g), .val (.ref ir), .val (.ref pi), .val (.ref gl), .val (.ref t), .val (.ref t), .val (.ref lf), .val (.ref px)] []))
  refine o_aloadN hst X_6.here hx (hb hby drg_28) (pc' := 29) rfl rfl rfl ?_
  refine o_aload hst X_6.here hx (hb hby drg_29) (pc' := 31) rfl rfl rfl ?_
  obtain ⟨cq_7, kq_7, q_7a, q_7b, q_7c⟩ := isOf hZ e_6 E_t
  obtain ⟨_, _, ⟨T_7, L_7, k_7, n_7⟩, -, X_7, ⟨Lc_7, hQ_7, l_7, y_7, z_7⟩, st_7⟩ := X_6.virtualBack hx (y := (⟨own_TT, "predicates", "()[I"⟩ : MethodName)) (z := (⟨own_TT, "predicates", "()[I"⟩ : MethodName)) hown (mvT hZ (own_w173 hw)) (mvT hZ (own_w174 hw)) (notFace_of_selects (args := #[]) (mvT hZ (own_w176 hw))) (mvT hZ (own_w176 hw)) (mvT hZ (own_w175 hw)) (by decide) (backOf (W := 1) (rmgbp0 lL Z a0 hw [] t bp k_bp h_6 n0 Z0 F_predicates_t F_size_t V_bp) hZ (own_w177 hw) (own_w34 hw) (by decide) (by decide)) q_7a q_7c (g := (mkF mI 31 #[.val (.ref g), .val (.ref ir), .val (.ref pi), .val (.ref gl), .val (.ref t), .val (.ref t), .val (.ref lf), .val (.ref px)] [(.ref t), (.ref g)])) rfl (by rw [hml]; rfl) (Steps.refl _) (argsL := []) (rest := [(.ref g)]) (lenOf pd_18 rfl) rfl (by show 2 * 0 + _ ≤ _; exact Nat.le_of_eq rfl) (hb hby drg_31) (fun _ _ => ⟨rfl, e_6, (by decide : 1 + 1 ≤ _), (by decide : 0 + 0 ≤ _)⟩)
  dsimp only [Pt.U, Pt.locs, Pt.cells, Pt.slots] at X_7 l_7 y_7 z_7 st_7 hQ_7
  subst l_7 y_7 z_7
  obtain ⟨c_7, kc_7, rfl, N_7q, K_7, le_c_7, V_c_7⟩ := hQ_7
  have Z0 := Nat.le_trans Z0 K_7.1
  have Z1 := Nat.le_trans Z1 K_7.1
  have K0 := K0.trans K_7 all0
  have F_iris_g := F_iris_g.keep K_7 nin0
  have F_linkPredicates_g := F_linkPredicates_g.keep K_7 nin0
  have F_linkTargets_g := F_linkTargets_g.keep K_7 nin0
  have F_linkMemberships_g := F_linkMemberships_g.keep K_7 nin0
  have F_literalSubjects_g := F_literalSubjects_g.keep K_7 nin0
  have F_literalPredicates_g := F_literalPredicates_g.keep K_7 nin0
  have F_literalMemberships_g := F_literalMemberships_g.keep K_7 nin0
  have F_literalObjects_g := F_literalObjects_g.keep K_7 nin0
  have F_lexicalForms_g := F_lexicalForms_g.keep K_7 nin0
  have F_prefixes_g := F_prefixes_g.keep K_7 nin0
  have E_g := E_g.keep K_7
  have E_t := E_t.keep K_7
  have F_subjects_t := F_subjects_t.keep K_7 nin0
  have F_predicates_t := F_predicates_t.keep K_7 nin0
  have F_objects_t := F_objects_t.keep K_7 nin0
  have F_firstGraphs_t := F_firstGraphs_t.keep K_7 nin0
  have F_otherGraphs_t := F_otherGraphs_t.keep K_7 nin0
  have F_size_t := F_size_t.keep K_7 nin0
  have E_s := E_s.keep K_7
  have F_map_s := F_map_s.keep K_7 nin0
  have E_m := E_m.keep K_7
  have F_size_m := F_size_m.keep K_7 nin0
  have F_keySet_m := F_keySet_m.keep K_7 nin0
  have F_head_m := F_head_m.keep K_7 nin0
  have F_modCount_m := F_modCount_m.keep K_7 nin0
  have V_bs := V_bs.keep K_7 nin0
  have V_bp := V_bp.keep K_7 nin0
  have V_bo := V_bo.keep K_7 nin0
  have V_bf := V_bf.keep K_7 nin0
  have N_7 := Fr.app N_6 N_7q
  refine hst (fun _ kt => st_7.trans kt) ?_
  show G (T_7.setTop (mkF mI 34 #[.val (.ref g), .val (.ref ir), .val (.ref pi), .val (.ref gl), .val (.ref t), .val (.ref t), .val (.ref lf), .val (.ref px)] [(.ref c_7), (.ref g)]))
  obtain ⟨T_8, h_8, X_8, e_8, W_8, st_8⟩ := putF X_7 hx hZ hown (host := "") (Or.inl (own_w178 hw)) Via.refl rfl F_linkPredicates_g E_g (Or.inr ⟨(own_w179 hw), rfl, hnm⟩) (own_w122 hw) (ty := (.array .int)) (by decide) rfl rfl (g := (mkF mI 34 #[.val (.ref g), .val (.ref ir), .val (.ref pi), .val (.ref gl), .val (.ref t), .val (.ref t), .val (.ref lf), .val (.ref px)] [(.ref c_7), (.ref g)])) rfl rfl (hb hby drg_34)
  have Z0 := Nat.le_trans Z0 (Keep.of_wr W_8).1
  have Z1 := Nat.le_trans Z1 (Keep.of_wr W_8).1
  have K0 := K0.wr W_8 (Or.inl (List.mem_of_getElem? (i := 0) rfl))
  have F_iris_g := F_iris_g.other W_8 (Or.inr (slot_ne (Or.inr (own_w147 hw)) (Or.inr (own_w179 hw)) (by decide) (t := (.array (.object "java/lang/String"))) (t' := (.array .int)) (by decide) (by decide)))
  have F_linkPredicates_g := F_linkPredicates_g.same W_8
  have F_linkTargets_g := F_linkTargets_g.other W_8 (Or.inr (slot_ne (Or.inr (own_w186 hw)) (Or.inr (own_w179 hw)) (by decide) (t := (.array .int)) (t' := (.array .int)) (by decide) (by decide)))
  have F_linkMemberships_g := F_linkMemberships_g.other W_8 (Or.inr (slot_ne (Or.inr (own_w306 hw)) (Or.inr (own_w179 hw)) (by decide) (t := (.object own_MB)) (t' := (.array .int)) (by decide) (by decide)))
  have F_literalSubjects_g := F_literalSubjects_g.other W_8 (Or.inr (slot_ne (Or.inr (own_w308 hw)) (Or.inr (own_w179 hw)) (by decide) (t := (.array .int)) (t' := (.array .int)) (by decide) (by decide)))
  have F_literalPredicates_g := F_literalPredicates_g.other W_8 (Or.inr (slot_ne (Or.inr (own_w310 hw)) (Or.inr (own_w179 hw)) (by decide) (t := (.array .int)) (t' := (.array .int)) (by decide) (by decide)))
  have F_literalMemberships_g := F_literalMemberships_g.other W_8 (Or.inr (slot_ne (Or.inr (own_w314 hw)) (Or.inr (own_w179 hw)) (by decide) (t := (.object own_MB)) (t' := (.array .int)) (by decide) (by decide)))
  have F_literalObjects_g := F_literalObjects_g.other W_8 (Or.inr (slot_ne (Or.inr (own_w316 hw)) (Or.inr (own_w179 hw)) (by decide) (t := (.array .int)) (t' := (.array .int)) (by decide) (by decide)))
  have F_lexicalForms_g := F_lexicalForms_g.other W_8 (Or.inr (slot_ne (Or.inr (own_w318 hw)) (Or.inr (own_w179 hw)) (by decide) (t := (.array (.object "java/lang/String"))) (t' := (.array .int)) (by decide) (by decide)))
  have F_prefixes_g := F_prefixes_g.other W_8 (Or.inr (slot_ne (Or.inr (own_w320 hw)) (Or.inr (own_w179 hw)) (by decide) (t := (.object own_PX)) (t' := (.array .int)) (by decide) (by decide)))
  have E_g := E_g.wr W_8
  have E_t := E_t.wr W_8
  have F_subjects_t := F_subjects_t.other W_8 (Or.inl (Ne.symm ne_g_t))
  have F_predicates_t := F_predicates_t.other W_8 (Or.inl (Ne.symm ne_g_t))
  have F_objects_t := F_objects_t.other W_8 (Or.inl (Ne.symm ne_g_t))
  have F_firstGraphs_t := F_firstGraphs_t.other W_8 (Or.inl (Ne.symm ne_g_t))
  have F_otherGraphs_t := F_otherGraphs_t.other W_8 (Or.inl (Ne.symm ne_g_t))
  have F_size_t := F_size_t.other W_8 (Or.inl (Ne.symm ne_g_t))
  have E_s := E_s.wr W_8
  have F_map_s := F_map_s.other W_8 (Or.inl (Ne.symm ne_g_s))
  have E_m := E_m.wr W_8
  have F_size_m := F_size_m.other W_8 (Or.inl (Ne.symm ne_g_m))
  have F_keySet_m := F_keySet_m.other W_8 (Or.inl (Ne.symm ne_g_m))
  have F_head_m := F_head_m.other W_8 (Or.inl (Ne.symm ne_g_m))
  have F_modCount_m := F_modCount_m.other W_8 (Or.inl (Ne.symm ne_g_m))
  have V_bs := V_bs.other W_8 (Ne.symm ne_g_bs)
  have V_bp := V_bp.other W_8 (Ne.symm ne_g_bp)
  have V_bo := V_bo.other W_8 (Ne.symm ne_g_bo)
  have V_bf := V_bf.other W_8 (Ne.symm ne_g_bf)
  have N_8 := Fr.snoc X_8 N_7 le_n0_g
  refine hst st_8 ?_
  show G (T_8.setTop (mkF mI 37 #[.val (.ref g), .val (.ref ir), .val (.ref pi), .val (.ref gl), .val (.ref t), .val (.ref t), .val (.ref lf), .val (.ref px)] []))
  refine o_aloadN hst X_8.here hx (hb hby drg_37) (pc' := 38) rfl rfl rfl ?_
  refine o_aload hst X_8.here hx (hb hby drg_38) (pc' := 40) rfl rfl rfl ?_
  obtain ⟨cq_9, kq_9, q_9a, q_9b, q_9c⟩ := isOf hZ e_8 E_t
  obtain ⟨_, _, ⟨T_9, L_9, k_9, n_9⟩, -, X_9, ⟨Lc_9, hQ_9, l_9, y_9, z_9⟩, st_9⟩ := X_8.virtualBack hx (y := (⟨own_TT, "objects", "()[I"⟩ : MethodName)) (z := (⟨own_TT, "objects", "()[I"⟩ : MethodName)) hown (mvT hZ (own_w180 hw)) (mvT hZ (own_w181 hw)) (notFace_of_selects (args := #[]) (mvT hZ (own_w183 hw))) (mvT hZ (own_w183 hw)) (mvT hZ (own_w182 hw)) (by decide) (backOf (W := 1) (rmgbo0 lL Z a0 hw [] t bo k_bo h_8 n0 Z0 F_objects_t F_size_t V_bo) hZ (own_w184 hw) (own_w34 hw) (by decide) (by decide)) q_9a q_9c (g := (mkF mI 40 #[.val (.ref g), .val (.ref ir), .val (.ref pi), .val (.ref gl), .val (.ref t), .val (.ref t), .val (.ref lf), .val (.ref px)] [(.ref t), (.ref g)])) rfl (by rw [hml]; rfl) (Steps.refl _) (argsL := []) (rest := [(.ref g)]) (lenOf pd_18 rfl) rfl (by show 2 * 0 + _ ≤ _; exact Nat.le_of_eq rfl) (hb hby drg_40) (fun _ _ => ⟨rfl, e_8, (by decide : 2 + 1 ≤ _), (by decide : 0 + 0 ≤ _)⟩)
  dsimp only [Pt.U, Pt.locs, Pt.cells, Pt.slots] at X_9 l_9 y_9 z_9 st_9 hQ_9
  subst l_9 y_9 z_9
  obtain ⟨c_9, kc_9, rfl, N_9q, K_9, le_c_9, V_c_9⟩ := hQ_9
  have Z0 := Nat.le_trans Z0 K_9.1
  have Z1 := Nat.le_trans Z1 K_9.1
  have K0 := K0.trans K_9 all0
  have F_iris_g := F_iris_g.keep K_9 nin0
  have F_linkTargets_g := F_linkTargets_g.keep K_9 nin0
  have F_linkMemberships_g := F_linkMemberships_g.keep K_9 nin0
  have F_literalSubjects_g := F_literalSubjects_g.keep K_9 nin0
  have F_literalPredicates_g := F_literalPredicates_g.keep K_9 nin0
  have F_literalMemberships_g := F_literalMemberships_g.keep K_9 nin0
  have F_literalObjects_g := F_literalObjects_g.keep K_9 nin0
  have F_lexicalForms_g := F_lexicalForms_g.keep K_9 nin0
  have F_prefixes_g := F_prefixes_g.keep K_9 nin0
  have E_g := E_g.keep K_9
  have E_t := E_t.keep K_9
  have F_subjects_t := F_subjects_t.keep K_9 nin0
  have F_predicates_t := F_predicates_t.keep K_9 nin0
  have F_objects_t := F_objects_t.keep K_9 nin0
  have F_firstGraphs_t := F_firstGraphs_t.keep K_9 nin0
  have F_otherGraphs_t := F_otherGraphs_t.keep K_9 nin0
  have F_size_t := F_size_t.keep K_9 nin0
  have E_s := E_s.keep K_9
  have F_map_s := F_map_s.keep K_9 nin0
  have E_m := E_m.keep K_9
  have F_size_m := F_size_m.keep K_9 nin0
  have F_keySet_m := F_keySet_m.keep K_9 nin0
  have F_head_m := F_head_m.keep K_9 nin0
  have F_modCount_m := F_modCount_m.keep K_9 nin0
  have V_bs := V_bs.keep K_9 nin0
  have V_bp := V_bp.keep K_9 nin0
  have V_bo := V_bo.keep K_9 nin0
  have V_bf := V_bf.keep K_9 nin0
  have N_9 := Fr.app N_8 N_9q
  refine hst (fun _ kt => st_9.trans kt) ?_
  show G (T_9.setTop (mkF mI 43 #[.val (.ref g), .val (.ref ir), .val (.ref pi), .val (.ref gl), .val (.ref t), .val (.ref t), .val (.ref lf), .val (.ref px)] [(.ref c_9), (.ref g)]))
  obtain ⟨T_10, h_10, X_10, e_10, W_10, st_10⟩ := putF X_9 hx hZ hown (host := "") (Or.inl (own_w185 hw)) Via.refl rfl F_linkTargets_g E_g (Or.inr ⟨(own_w186 hw), rfl, hnm⟩) (own_w122 hw) (ty := (.array .int)) (by decide) rfl rfl (g := (mkF mI 43 #[.val (.ref g), .val (.ref ir), .val (.ref pi), .val (.ref gl), .val (.ref t), .val (.ref t), .val (.ref lf), .val (.ref px)] [(.ref c_9), (.ref g)])) rfl rfl (hb hby drg_43)
  have Z0 := Nat.le_trans Z0 (Keep.of_wr W_10).1
  have Z1 := Nat.le_trans Z1 (Keep.of_wr W_10).1
  have K0 := K0.wr W_10 (Or.inl (List.mem_of_getElem? (i := 0) rfl))
  have F_iris_g := F_iris_g.other W_10 (Or.inr (slot_ne (Or.inr (own_w147 hw)) (Or.inr (own_w186 hw)) (by decide) (t := (.array (.object "java/lang/String"))) (t' := (.array .int)) (by decide) (by decide)))
  have F_linkTargets_g := F_linkTargets_g.same W_10
  have F_linkMemberships_g := F_linkMemberships_g.other W_10 (Or.inr (slot_ne (Or.inr (own_w306 hw)) (Or.inr (own_w186 hw)) (by decide) (t := (.object own_MB)) (t' := (.array .int)) (by decide) (by decide)))
  have F_literalSubjects_g := F_literalSubjects_g.other W_10 (Or.inr (slot_ne (Or.inr (own_w308 hw)) (Or.inr (own_w186 hw)) (by decide) (t := (.array .int)) (t' := (.array .int)) (by decide) (by decide)))
  have F_literalPredicates_g := F_literalPredicates_g.other W_10 (Or.inr (slot_ne (Or.inr (own_w310 hw)) (Or.inr (own_w186 hw)) (by decide) (t := (.array .int)) (t' := (.array .int)) (by decide) (by decide)))
  have F_literalMemberships_g := F_literalMemberships_g.other W_10 (Or.inr (slot_ne (Or.inr (own_w314 hw)) (Or.inr (own_w186 hw)) (by decide) (t := (.object own_MB)) (t' := (.array .int)) (by decide) (by decide)))
  have F_literalObjects_g := F_literalObjects_g.other W_10 (Or.inr (slot_ne (Or.inr (own_w316 hw)) (Or.inr (own_w186 hw)) (by decide) (t := (.array .int)) (t' := (.array .int)) (by decide) (by decide)))
  have F_lexicalForms_g := F_lexicalForms_g.other W_10 (Or.inr (slot_ne (Or.inr (own_w318 hw)) (Or.inr (own_w186 hw)) (by decide) (t := (.array (.object "java/lang/String"))) (t' := (.array .int)) (by decide) (by decide)))
  have F_prefixes_g := F_prefixes_g.other W_10 (Or.inr (slot_ne (Or.inr (own_w320 hw)) (Or.inr (own_w186 hw)) (by decide) (t := (.object own_PX)) (t' := (.array .int)) (by decide) (by decide)))
  have E_g := E_g.wr W_10
  have E_t := E_t.wr W_10
  have F_subjects_t := F_subjects_t.other W_10 (Or.inl (Ne.symm ne_g_t))
  have F_predicates_t := F_predicates_t.other W_10 (Or.inl (Ne.symm ne_g_t))
  have F_objects_t := F_objects_t.other W_10 (Or.inl (Ne.symm ne_g_t))
  have F_firstGraphs_t := F_firstGraphs_t.other W_10 (Or.inl (Ne.symm ne_g_t))
  have F_otherGraphs_t := F_otherGraphs_t.other W_10 (Or.inl (Ne.symm ne_g_t))
  have F_size_t := F_size_t.other W_10 (Or.inl (Ne.symm ne_g_t))
  have E_s := E_s.wr W_10
  have F_map_s := F_map_s.other W_10 (Or.inl (Ne.symm ne_g_s))
  have E_m := E_m.wr W_10
  have F_size_m := F_size_m.other W_10 (Or.inl (Ne.symm ne_g_m))
  have F_keySet_m := F_keySet_m.other W_10 (Or.inl (Ne.symm ne_g_m))
  have F_head_m := F_head_m.other W_10 (Or.inl (Ne.symm ne_g_m))
  have F_modCount_m := F_modCount_m.other W_10 (Or.inl (Ne.symm ne_g_m))
  have V_bs := V_bs.other W_10 (Ne.symm ne_g_bs)
  have V_bp := V_bp.other W_10 (Ne.symm ne_g_bp)
  have V_bo := V_bo.other W_10 (Ne.symm ne_g_bo)
  have V_bf := V_bf.other W_10 (Ne.symm ne_g_bf)
  have N_10 := Fr.snoc X_10 N_9 le_n0_g
  refine hst st_10 ?_
  show G (T_10.setTop (mkF mI 46 #[.val (.ref g), .val (.ref ir), .val (.ref pi), .val (.ref gl), .val (.ref t), .val (.ref t), .val (.ref lf), .val (.ref px)] []))
  refine o_aloadN hst X_10.here hx (hb hby drg_46) (pc' := 47) rfl rfl rfl ?_
  refine o_aload hst X_10.here hx (hb hby drg_47) (pc' := 49) rfl rfl rfl ?_
  obtain ⟨cq_11, kq_11, q_11a, q_11b, q_11c⟩ := isOf hZ e_10 E_t
  obtain ⟨_, _, ⟨T_11, L_11, k_11, n_11⟩, -, X_11, ⟨Lc_11, hQ_11, l_11, y_11, z_11⟩, st_11⟩ := X_10.virtualBack hx (y := (⟨own_TT, "memberships", "()Lcom/example/weser/weser/core/Memberships;"⟩ : MethodName)) (z := (⟨own_TT, "memberships", "()Lcom/example/weser/weser/core/Memberships;"⟩ : MethodName)) hown (mvT hZ (own_w187 hw)) (mvT hZ (own_w188 hw)) (notFace_of_selects (args := #[]) (mvT hZ (own_w190 hw))) (mvT hZ (own_w190 hw)) (mvT hZ (own_w189 hw)) (by decide) (backOf (W := 1) (rmM0 lL Z a0 hw [] t s m bf k_bf h_10 n0 Z0 E_t F_size_t F_otherGraphs_t F_firstGraphs_t V_bf E_s F_map_s E_m F_size_m F_keySet_m F_head_m F_modCount_m le_n0_m) hZ (own_w191 hw) (own_w34 hw) (by decide) (by decide)) q_11a q_11c (g := (mkF mI 49 #[.val (.ref g), .val (.ref ir), .val (.ref pi), .val (.ref gl), .val (.ref t), .val (.ref t), .val (.ref lf), .val (.ref px)] [(.ref t), (.ref g)])) rfl (by rw [hml]; rfl) (Steps.refl _) (argsL := []) (rest := [(.ref g)]) (lenOf pd_19 rfl) rfl (by show 2 * 0 + _ ≤ _; exact Nat.le_of_eq rfl) (hb hby drg_49) (fun _ _ => ⟨rfl, e_10, (by decide : 3 + 5 ≤ _), (by decide : 0 + 9 ≤ _)⟩)
  dsimp only [Pt.U, Pt.locs, Pt.cells, Pt.slots] at X_11 l_11 y_11 z_11 st_11 hQ_11
  subst l_11 y_11 z_11
  obtain ⟨mb, ks, rfl, N_11q, K_11, le_ks, GF_size_m, GF_keySet_m, GF_head_m, GF_modCount_m, GE_ks, GF_this_0_ks, GF_reversed_ks⟩ := hQ_11
  have ne_g_ks : g ≠ ks := Nat.ne_of_lt (Nat.lt_of_lt_of_le F_iris_g.lt le_ks)
  have ne_t_ks : t ≠ ks := Nat.ne_of_lt (Nat.lt_of_lt_of_le E_t.lt le_ks)
  have ne_s_ks : s ≠ ks := Nat.ne_of_lt (Nat.lt_of_lt_of_le E_s.lt le_ks)
  have ne_m_ks : m ≠ ks := Nat.ne_of_lt (Nat.lt_of_lt_of_le E_m.lt le_ks)
  have ne_bs_ks : bs ≠ ks := Nat.ne_of_lt (Nat.lt_of_lt_of_le V_bs.lt le_ks)
  have ne_bp_ks : bp ≠ ks := Nat.ne_of_lt (Nat.lt_of_lt_of_le V_bp.lt le_ks)
  have ne_bo_ks : bo ≠ ks := Nat.ne_of_lt (Nat.lt_of_lt_of_le V_bo.lt le_ks)
  have ne_bf_ks : bf ≠ ks := Nat.ne_of_lt (Nat.lt_of_lt_of_le V_bf.lt le_ks)
  have ne_t_m : t ≠ m := ne_exa E_t E_m (by decide)
  have ne_s_m : s ≠ m := ne_exa E_s E_m (by decide)
  have ne_bs_m : bs ≠ m := Ne.symm (own_ne_arv E_m (own_w75 hw) V_bs)
  have ne_bp_m : bp ≠ m := Ne.symm (own_ne_arv E_m (own_w75 hw) V_bp)
  have ne_bo_m : bo ≠ m := Ne.symm (own_ne_arv E_m (own_w75 hw) V_bo)
  have ne_bf_m : bf ≠ m := Ne.symm (own_ne_arv E_m (own_w75 hw) V_bf)
  have Z0 := Nat.le_trans Z0 K_11.1
  have Z1 := Nat.le_trans Z1 K_11.1
  have K0 := K0.trans K_11 (allS (Or.inl (List.mem_of_getElem? (i := 1) rfl)) all0)
  have F_iris_g := F_iris_g.keep K_11 (ninS ne_g_m nin0)
  have F_linkMemberships_g := F_linkMemberships_g.keep K_11 (ninS ne_g_m nin0)
  have F_literalSubjects_g := F_literalSubjects_g.keep K_11 (ninS ne_g_m nin0)
  have F_literalPredicates_g := F_literalPredicates_g.keep K_11 (ninS ne_g_m nin0)
  have F_literalMemberships_g := F_literalMemberships_g.keep K_11 (ninS ne_g_m nin0)
  have F_literalObjects_g := F_literalObjects_g.keep K_11 (ninS ne_g_m nin0)
  have F_lexicalForms_g := F_lexicalForms_g.keep K_11 (ninS ne_g_m nin0)
  have F_prefixes_g := F_prefixes_g.keep K_11 (ninS ne_g_m nin0)
  have E_g := E_g.keep K_11
  have E_t := E_t.keep K_11
  have F_subjects_t := F_subjects_t.keep K_11 (ninS ne_t_m nin0)
  have F_predicates_t := F_predicates_t.keep K_11 (ninS ne_t_m nin0)
  have F_objects_t := F_objects_t.keep K_11 (ninS ne_t_m nin0)
  have F_firstGraphs_t := F_firstGraphs_t.keep K_11 (ninS ne_t_m nin0)
  have F_otherGraphs_t := F_otherGraphs_t.keep K_11 (ninS ne_t_m nin0)
  have F_size_t := F_size_t.keep K_11 (ninS ne_t_m nin0)
  have E_s := E_s.keep K_11
  have F_map_s := F_map_s.keep K_11 (ninS ne_s_m nin0)
  have E_m := E_m.keep K_11
  have V_bs := V_bs.keep K_11 (ninS ne_bs_m nin0)
  have V_bp := V_bp.keep K_11 (ninS ne_bp_m nin0)
  have V_bo := V_bo.keep K_11 (ninS ne_bo_m nin0)
  have V_bf := V_bf.keep K_11 (ninS ne_bf_m nin0)
  have F_size_m := GF_size_m
  have F_keySet_m := GF_keySet_m
  have F_head_m := GF_head_m
  have F_modCount_m := GF_modCount_m
  have E_ks := GE_ks
  have F_this_0_ks := GF_this_0_ks
  have F_reversed_ks := GF_reversed_ks
  have N_11 := Fr.app N_10 N_11q
  refine hst (fun _ kt => st_11.trans kt) ?_
  show G (T_11.setTop (mkF mI 52 #[.val (.ref g), .val (.ref ir), .val (.ref pi), .val (.ref gl), .val (.ref t), .val (.ref t), .val (.ref lf), .val (.ref px)] [(.ref mb), (.ref g)]))
  obtain ⟨T_12, h_12, X_12, e_12, W_12, st_12⟩ := putF X_11 hx hZ hown (host := "") (Or.inl (own_w305 hw)) Via.refl rfl F_linkMemberships_g E_g (Or.inr ⟨(own_w306 hw), rfl, hnm⟩) (own_w122 hw) (ty := (.object own_MB)) (by decide) rfl rfl (g := (mkF mI 52 #[.val (.ref g), .val (.ref ir), .val (.ref pi), .val (.ref gl), .val (.ref t), .val (.ref t), .val (.ref lf), .val (.ref px)] [(.ref mb), (.ref g)])) rfl rfl (hb hby drg_52)
  have Z0 := Nat.le_trans Z0 (Keep.of_wr W_12).1
  have Z1 := Nat.le_trans Z1 (Keep.of_wr W_12).1
  have K0 := K0.wr W_12 (Or.inl (List.mem_of_getElem? (i := 0) rfl))
  have F_iris_g := F_iris_g.other W_12 (Or.inr (slot_ne (Or.inr (own_w147 hw)) (Or.inr (own_w306 hw)) (by decide) (t := (.array (.object "java/lang/String"))) (t' := (.object own_MB)) (by decide) (by decide)))
  have F_linkMemberships_g := F_linkMemberships_g.same W_12
  have F_literalSubjects_g := F_literalSubjects_g.other W_12 (Or.inr (slot_ne (Or.inr (own_w308 hw)) (Or.inr (own_w306 hw)) (by decide) (t := (.array .int)) (t' := (.object own_MB)) (by decide) (by decide)))
  have F_literalPredicates_g := F_literalPredicates_g.other W_12 (Or.inr (slot_ne (Or.inr (own_w310 hw)) (Or.inr (own_w306 hw)) (by decide) (t := (.array .int)) (t' := (.object own_MB)) (by decide) (by decide)))
  have F_literalMemberships_g := F_literalMemberships_g.other W_12 (Or.inr (slot_ne (Or.inr (own_w314 hw)) (Or.inr (own_w306 hw)) (by decide) (t := (.object own_MB)) (t' := (.object own_MB)) (by decide) (by decide)))
  have F_literalObjects_g := F_literalObjects_g.other W_12 (Or.inr (slot_ne (Or.inr (own_w316 hw)) (Or.inr (own_w306 hw)) (by decide) (t := (.array .int)) (t' := (.object own_MB)) (by decide) (by decide)))
  have F_lexicalForms_g := F_lexicalForms_g.other W_12 (Or.inr (slot_ne (Or.inr (own_w318 hw)) (Or.inr (own_w306 hw)) (by decide) (t := (.array (.object "java/lang/String"))) (t' := (.object own_MB)) (by decide) (by decide)))
  have F_prefixes_g := F_prefixes_g.other W_12 (Or.inr (slot_ne (Or.inr (own_w320 hw)) (Or.inr (own_w306 hw)) (by decide) (t := (.object own_PX)) (t' := (.object own_MB)) (by decide) (by decide)))
  have E_g := E_g.wr W_12
  have E_t := E_t.wr W_12
  have F_subjects_t := F_subjects_t.other W_12 (Or.inl (Ne.symm ne_g_t))
  have F_predicates_t := F_predicates_t.other W_12 (Or.inl (Ne.symm ne_g_t))
  have F_objects_t := F_objects_t.other W_12 (Or.inl (Ne.symm ne_g_t))
  have F_firstGraphs_t := F_firstGraphs_t.other W_12 (Or.inl (Ne.symm ne_g_t))
  have F_otherGraphs_t := F_otherGraphs_t.other W_12 (Or.inl (Ne.symm ne_g_t))
  have F_size_t := F_size_t.other W_12 (Or.inl (Ne.symm ne_g_t))
  have E_s := E_s.wr W_12
  have F_map_s := F_map_s.other W_12 (Or.inl (Ne.symm ne_g_s))
  have E_m := E_m.wr W_12
  have V_bs := V_bs.other W_12 (Ne.symm ne_g_bs)
  have V_bp := V_bp.other W_12 (Ne.symm ne_g_bp)
  have V_bo := V_bo.other W_12 (Ne.symm ne_g_bo)
  have V_bf := V_bf.other W_12 (Ne.symm ne_g_bf)
  have F_size_m := F_size_m.other W_12 (Or.inl (Ne.symm ne_g_m))
  have F_keySet_m := F_keySet_m.other W_12 (Or.inl (Ne.symm ne_g_m))
  have F_head_m := F_head_m.other W_12 (Or.inl (Ne.symm ne_g_m))
  have F_modCount_m := F_modCount_m.other W_12 (Or.inl (Ne.symm ne_g_m))
  have E_ks := E_ks.wr W_12
  have F_this_0_ks := F_this_0_ks.other W_12 (Or.inl (Ne.symm ne_g_ks))
  have F_reversed_ks := F_reversed_ks.other W_12 (Or.inl (Ne.symm ne_g_ks))
  have N_12 := Fr.snoc X_12 N_11 le_n0_g
  refine hst st_12 ?_
  show G (T_12.setTop (mkF mI 55 #[.val (.ref g), .val (.ref ir), .val (.ref pi), .val (.ref gl), .val (.ref t), .val (.ref t), .val (.ref lf), .val (.ref px)] []))
  refine o_aloadN hst X_12.here hx (hb hby drg_55) (pc' := 56) rfl rfl rfl ?_
  refine o_aload hst X_12.here hx (hb hby drg_56) (pc' := 58) rfl rfl rfl ?_
  obtain ⟨cq_13, kq_13, q_13a, q_13b, q_13c⟩ := isOf hZ e_12 E_t
  obtain ⟨_, _, ⟨T_13, L_13, k_13, n_13⟩, -, X_13, ⟨Lc_13, hQ_13, l_13, y_13, z_13⟩, st_13⟩ := X_12.virtualBack hx (y := (⟨own_TT, "subjects", "()[I"⟩ : MethodName)) (z := (⟨own_TT, "subjects", "()[I"⟩ : MethodName)) hown (mvT hZ (own_w152 hw)) (mvT hZ (own_w153 hw)) (notFace_of_selects (args := #[]) (mvT hZ (own_w155 hw))) (mvT hZ (own_w155 hw)) (mvT hZ (own_w154 hw)) (by decide) (backOf (W := 1) (rmgbs0 lL Z a0 hw [] t bs k_bs h_12 n0 Z0 F_subjects_t F_size_t V_bs) hZ (own_w156 hw) (own_w34 hw) (by decide) (by decide)) q_13a q_13c (g := (mkF mI 58 #[.val (.ref g), .val (.ref ir), .val (.ref pi), .val (.ref gl), .val (.ref t), .val (.ref t), .val (.ref lf), .val (.ref px)] [(.ref t), (.ref g)])) rfl (by rw [hml]; rfl) (Steps.refl _) (argsL := []) (rest := [(.ref g)]) (lenOf pd_18 rfl) rfl (by show 2 * 0 + _ ≤ _; exact Nat.le_of_eq rfl) (hb hby drg_58) (fun _ _ => ⟨rfl, e_12, (by decide : 8 + 1 ≤ _), (by decide : 9 + 0 ≤ _)⟩)
  dsimp only [Pt.U, Pt.locs, Pt.cells, Pt.slots] at X_13 l_13 y_13 z_13 st_13 hQ_13
  subst l_13 y_13 z_13
  obtain ⟨c_13, kc_13, rfl, N_13q, K_13, le_c_13, V_c_13⟩ := hQ_13
  have Z0 := Nat.le_trans Z0 K_13.1
  have Z1 := Nat.le_trans Z1 K_13.1
  have K0 := K0.trans K_13 all0
  have F_iris_g := F_iris_g.keep K_13 nin0
  have F_literalSubjects_g := F_literalSubjects_g.keep K_13 nin0
  have F_literalPredicates_g := F_literalPredicates_g.keep K_13 nin0
  have F_literalMemberships_g := F_literalMemberships_g.keep K_13 nin0
  have F_literalObjects_g := F_literalObjects_g.keep K_13 nin0
  have F_lexicalForms_g := F_lexicalForms_g.keep K_13 nin0
  have F_prefixes_g := F_prefixes_g.keep K_13 nin0
  have E_g := E_g.keep K_13
  have E_t := E_t.keep K_13
  have F_subjects_t := F_subjects_t.keep K_13 nin0
  have F_predicates_t := F_predicates_t.keep K_13 nin0
  have F_objects_t := F_objects_t.keep K_13 nin0
  have F_firstGraphs_t := F_firstGraphs_t.keep K_13 nin0
  have F_otherGraphs_t := F_otherGraphs_t.keep K_13 nin0
  have F_size_t := F_size_t.keep K_13 nin0
  have E_s := E_s.keep K_13
  have F_map_s := F_map_s.keep K_13 nin0
  have E_m := E_m.keep K_13
  have V_bs := V_bs.keep K_13 nin0
  have V_bp := V_bp.keep K_13 nin0
  have V_bo := V_bo.keep K_13 nin0
  have V_bf := V_bf.keep K_13 nin0
  have F_size_m := F_size_m.keep K_13 nin0
  have F_keySet_m := F_keySet_m.keep K_13 nin0
  have F_head_m := F_head_m.keep K_13 nin0
  have F_modCount_m := F_modCount_m.keep K_13 nin0
  have E_ks := E_ks.keep K_13
  have F_this_0_ks := F_this_0_ks.keep K_13 nin0
  have F_reversed_ks := F_reversed_ks.keep K_13 nin0
  have N_13 := Fr.app N_12 N_13q
  refine hst (fun _ kt => st_13.trans kt) ?_
  show G (T_13.setTop (mkF mI 61 #[.val (.ref g), .val (.ref ir), .val (.ref pi), .val (.ref gl), .val (.ref t), .val (.ref t), .val (.ref lf), .val (.ref px)] [(.ref c_13), (.ref g)]))
  obtain ⟨T_14, h_14, X_14, e_14, W_14, st_14⟩ := putF X_13 hx hZ hown (host := "") (Or.inl (own_w307 hw)) Via.refl rfl F_literalSubjects_g E_g (Or.inr ⟨(own_w308 hw), rfl, hnm⟩) (own_w122 hw) (ty := (.array .int)) (by decide) rfl rfl (g := (mkF mI 61 #[.val (.ref g), .val (.ref ir), .val (.ref pi), .val (.ref gl), .val (.ref t), .val (.ref t), .val (.ref lf), .val (.ref px)] [(.ref c_13), (.ref g)])) rfl rfl (hb hby drg_61)
  have Z0 := Nat.le_trans Z0 (Keep.of_wr W_14).1
  have Z1 := Nat.le_trans Z1 (Keep.of_wr W_14).1
  have K0 := K0.wr W_14 (Or.inl (List.mem_of_getElem? (i := 0) rfl))
  have F_iris_g := F_iris_g.other W_14 (Or.inr (slot_ne (Or.inr (own_w147 hw)) (Or.inr (own_w308 hw)) (by decide) (t := (.array (.object "java/lang/String"))) (t' := (.array .int)) (by decide) (by decide)))
  have F_literalSubjects_g := F_literalSubjects_g.same W_14
  have F_literalPredicates_g := F_literalPredicates_g.other W_14 (Or.inr (slot_ne (Or.inr (own_w310 hw)) (Or.inr (own_w308 hw)) (by decide) (t := (.array .int)) (t' := (.array .int)) (by decide) (by decide)))
  have F_literalMemberships_g := F_literalMemberships_g.other W_14 (Or.inr (slot_ne (Or.inr (own_w314 hw)) (Or.inr (own_w308 hw)) (by decide) (t := (.object own_MB)) (t' := (.array .int)) (by decide) (by decide)))
  have F_literalObjects_g := F_literalObjects_g.other W_14 (Or.inr (slot_ne (Or.inr (own_w316 hw)) (Or.inr (own_w308 hw)) (by decide) (t := (.array .int)) (t' := (.array .int)) (by decide) (by decide)))
  have F_lexicalForms_g := F_lexicalForms_g.other W_14 (Or.inr (slot_ne (Or.inr (own_w318 hw)) (Or.inr (own_w308 hw)) (by decide) (t := (.array (.object "java/lang/String"))) (t' := (.array .int)) (by decide) (by decide)))
  have F_prefixes_g := F_prefixes_g.other W_14 (Or.inr (slot_ne (Or.inr (own_w320 hw)) (Or.inr (own_w308 hw)) (by decide) (t := (.object own_PX)) (t' := (.array .int)) (by decide) (by decide)))
  have E_g := E_g.wr W_14
  have E_t := E_t.wr W_14
  have F_subjects_t := F_subjects_t.other W_14 (Or.inl (Ne.symm ne_g_t))
  have F_predicates_t := F_predicates_t.other W_14 (Or.inl (Ne.symm ne_g_t))
  have F_objects_t := F_objects_t.other W_14 (Or.inl (Ne.symm ne_g_t))
  have F_firstGraphs_t := F_firstGraphs_t.other W_14 (Or.inl (Ne.symm ne_g_t))
  have F_otherGraphs_t := F_otherGraphs_t.other W_14 (Or.inl (Ne.symm ne_g_t))
  have F_size_t := F_size_t.other W_14 (Or.inl (Ne.symm ne_g_t))
  have E_s := E_s.wr W_14
  have F_map_s := F_map_s.other W_14 (Or.inl (Ne.symm ne_g_s))
  have E_m := E_m.wr W_14
  have V_bs := V_bs.other W_14 (Ne.symm ne_g_bs)
  have V_bp := V_bp.other W_14 (Ne.symm ne_g_bp)
  have V_bo := V_bo.other W_14 (Ne.symm ne_g_bo)
  have V_bf := V_bf.other W_14 (Ne.symm ne_g_bf)
  have F_size_m := F_size_m.other W_14 (Or.inl (Ne.symm ne_g_m))
  have F_keySet_m := F_keySet_m.other W_14 (Or.inl (Ne.symm ne_g_m))
  have F_head_m := F_head_m.other W_14 (Or.inl (Ne.symm ne_g_m))
  have F_modCount_m := F_modCount_m.other W_14 (Or.inl (Ne.symm ne_g_m))
  have E_ks := E_ks.wr W_14
  have F_this_0_ks := F_this_0_ks.other W_14 (Or.inl (Ne.symm ne_g_ks))
  have F_reversed_ks := F_reversed_ks.other W_14 (Or.inl (Ne.symm ne_g_ks))
  have N_14 := Fr.snoc X_14 N_13 le_n0_g
  refine hst st_14 ?_
  show G (T_14.setTop (mkF mI 64 #[.val (.ref g), .val (.ref ir), .val (.ref pi), .val (.ref gl), .val (.ref t), .val (.ref t), .val (.ref lf), .val (.ref px)] []))
  refine o_aloadN hst X_14.here hx (hb hby drg_64) (pc' := 65) rfl rfl rfl ?_
  refine o_aload hst X_14.here hx (hb hby drg_65) (pc' := 67) rfl rfl rfl ?_
  obtain ⟨cq_15, kq_15, q_15a, q_15b, q_15c⟩ := isOf hZ e_14 E_t
  obtain ⟨_, _, ⟨T_15, L_15, k_15, n_15⟩, -, X_15, ⟨Lc_15, hQ_15, l_15, y_15, z_15⟩, st_15⟩ := X_14.virtualBack hx (y := (⟨own_TT, "predicates", "()[I"⟩ : MethodName)) (z := (⟨own_TT, "predicates", "()[I"⟩ : MethodName)) hown (mvT hZ (own_w173 hw)) (mvT hZ (own_w174 hw)) (notFace_of_selects (args := #[]) (mvT hZ (own_w176 hw))) (mvT hZ (own_w176 hw)) (mvT hZ (own_w175 hw)) (by decide) (backOf (W := 1) (rmgbp0 lL Z a0 hw [] t bp k_bp h_14 n0 Z0 F_predicates_t F_size_t V_bp) hZ (own_w177 hw) (own_w34 hw) (by decide) (by decide)) q_15a q_15c (g := (mkF mI 67 #[.val (.ref g), .val (.ref ir), .val (.ref pi), .val (.ref gl), .val (.ref t), .val (.ref t), .val (.ref lf), .val (.ref px)] [(.ref t), (.ref g)])) rfl (by rw [hml]; rfl) (Steps.refl _) (argsL := []) (rest := [(.ref g)]) (lenOf pd_18 rfl) rfl (by show 2 * 0 + _ ≤ _; exact Nat.le_of_eq rfl) (hb hby drg_67) (fun _ _ => ⟨rfl, e_14, (by decide : 9 + 1 ≤ _), (by decide : 9 + 0 ≤ _)⟩)
  dsimp only [Pt.U, Pt.locs, Pt.cells, Pt.slots] at X_15 l_15 y_15 z_15 st_15 hQ_15
  subst l_15 y_15 z_15
  obtain ⟨c_15, kc_15, rfl, N_15q, K_15, le_c_15, V_c_15⟩ := hQ_15
  have Z0 := Nat.le_trans Z0 K_15.1
  have Z1 := Nat.le_trans Z1 K_15.1
  have K0 := K0.trans K_15 all0
  have F_iris_g := F_iris_g.keep K_15 nin0
  have F_literalPredicates_g := F_literalPredicates_g.keep K_15 nin0
  have F_literalMemberships_g := F_literalMemberships_g.keep K_15 nin0
  have F_literalObjects_g := F_literalObjects_g.keep K_15 nin0
  have F_lexicalForms_g := F_lexicalForms_g.keep K_15 nin0
  have F_prefixes_g := F_prefixes_g.keep K_15 nin0
  have E_g := E_g.keep K_15
  have E_t := E_t.keep K_15
  have F_subjects_t := F_subjects_t.keep K_15 nin0
  have F_predicates_t := F_predicates_t.keep K_15 nin0
  have F_objects_t := F_objects_t.keep K_15 nin0
  have F_firstGraphs_t := F_firstGraphs_t.keep K_15 nin0
  have F_otherGraphs_t := F_otherGraphs_t.keep K_15 nin0
  have F_size_t := F_size_t.keep K_15 nin0
  have E_s := E_s.keep K_15
  have F_map_s := F_map_s.keep K_15 nin0
  have E_m := E_m.keep K_15
  have V_bs := V_bs.keep K_15 nin0
  have V_bp := V_bp.keep K_15 nin0
  have V_bo := V_bo.keep K_15 nin0
  have V_bf := V_bf.keep K_15 nin0
  have F_size_m := F_size_m.keep K_15 nin0
  have F_keySet_m := F_keySet_m.keep K_15 nin0
  have F_head_m := F_head_m.keep K_15 nin0
  have F_modCount_m := F_modCount_m.keep K_15 nin0
  have E_ks := E_ks.keep K_15
  have F_this_0_ks := F_this_0_ks.keep K_15 nin0
  have F_reversed_ks := F_reversed_ks.keep K_15 nin0
  have N_15 := Fr.app N_14 N_15q
  refine hst (fun _ kt => st_15.trans kt) ?_
  show G (T_15.setTop (mkF mI 70 #[.val (.ref g), .val (.ref ir), .val (.ref pi), .val (.ref gl), .val (.ref t), .val (.ref t), .val (.ref lf), .val (.ref px)] [(.ref c_15), (.ref g)]))
  obtain ⟨T_16, h_16, X_16, e_16, W_16, st_16⟩ := putF X_15 hx hZ hown (host := "") (Or.inl (own_w309 hw)) Via.refl rfl F_literalPredicates_g E_g (Or.inr ⟨(own_w310 hw), rfl, hnm⟩) (own_w122 hw) (ty := (.array .int)) (by decide) rfl rfl (g := (mkF mI 70 #[.val (.ref g), .val (.ref ir), .val (.ref pi), .val (.ref gl), .val (.ref t), .val (.ref t), .val (.ref lf), .val (.ref px)] [(.ref c_15), (.ref g)])) rfl rfl (hb hby drg_70)
  have Z0 := Nat.le_trans Z0 (Keep.of_wr W_16).1
  have Z1 := Nat.le_trans Z1 (Keep.of_wr W_16).1
  have K0 := K0.wr W_16 (Or.inl (List.mem_of_getElem? (i := 0) rfl))
  have F_iris_g := F_iris_g.other W_16 (Or.inr (slot_ne (Or.inr (own_w147 hw)) (Or.inr (own_w310 hw)) (by decide) (t := (.array (.object "java/lang/String"))) (t' := (.array .int)) (by decide) (by decide)))
  have F_literalPredicates_g := F_literalPredicates_g.same W_16
  have F_literalMemberships_g := F_literalMemberships_g.other W_16 (Or.inr (slot_ne (Or.inr (own_w314 hw)) (Or.inr (own_w310 hw)) (by decide) (t := (.object own_MB)) (t' := (.array .int)) (by decide) (by decide)))
  have F_literalObjects_g := F_literalObjects_g.other W_16 (Or.inr (slot_ne (Or.inr (own_w316 hw)) (Or.inr (own_w310 hw)) (by decide) (t := (.array .int)) (t' := (.array .int)) (by decide) (by decide)))
  have F_lexicalForms_g := F_lexicalForms_g.other W_16 (Or.inr (slot_ne (Or.inr (own_w318 hw)) (Or.inr (own_w310 hw)) (by decide) (t := (.array (.object "java/lang/String"))) (t' := (.array .int)) (by decide) (by decide)))
  have F_prefixes_g := F_prefixes_g.other W_16 (Or.inr (slot_ne (Or.inr (own_w320 hw)) (Or.inr (own_w310 hw)) (by decide) (t := (.object own_PX)) (t' := (.array .int)) (by decide) (by decide)))
  have E_g := E_g.wr W_16
  have E_t := E_t.wr W_16
  have F_subjects_t := F_subjects_t.other W_16 (Or.inl (Ne.symm ne_g_t))
  have F_predicates_t := F_predicates_t.other W_16 (Or.inl (Ne.symm ne_g_t))
  have F_objects_t := F_objects_t.other W_16 (Or.inl (Ne.symm ne_g_t))
  have F_firstGraphs_t := F_firstGraphs_t.other W_16 (Or.inl (Ne.symm ne_g_t))
  have F_otherGraphs_t := F_otherGraphs_t.other W_16 (Or.inl (Ne.symm ne_g_t))
  have F_size_t := F_size_t.other W_16 (Or.inl (Ne.symm ne_g_t))
  have E_s := E_s.wr W_16
  have F_map_s := F_map_s.other W_16 (Or.inl (Ne.symm ne_g_s))
  have E_m := E_m.wr W_16
  have V_bs := V_bs.other W_16 (Ne.symm ne_g_bs)
  have V_bp := V_bp.other W_16 (Ne.symm ne_g_bp)
  have V_bo := V_bo.other W_16 (Ne.symm ne_g_bo)
  have V_bf := V_bf.other W_16 (Ne.symm ne_g_bf)
  have F_size_m := F_size_m.other W_16 (Or.inl (Ne.symm ne_g_m))
  have F_keySet_m := F_keySet_m.other W_16 (Or.inl (Ne.symm ne_g_m))
  have F_head_m := F_head_m.other W_16 (Or.inl (Ne.symm ne_g_m))
  have F_modCount_m := F_modCount_m.other W_16 (Or.inl (Ne.symm ne_g_m))
  have E_ks := E_ks.wr W_16
  have F_this_0_ks := F_this_0_ks.other W_16 (Or.inl (Ne.symm ne_g_ks))
  have F_reversed_ks := F_reversed_ks.other W_16 (Or.inl (Ne.symm ne_g_ks))
  have N_16 := Fr.snoc X_16 N_15 le_n0_g
  refine hst st_16 ?_
  show G (T_16.setTop (mkF mI 73 #[.val (.ref g), .val (.ref ir), .val (.ref pi), .val (.ref gl), .val (.ref t), .val (.ref t), .val (.ref lf), .val (.ref px)] []))
  refine o_aloadN hst X_16.here hx (hb hby drg_73) (pc' := 74) rfl rfl rfl ?_
  refine o_aload hst X_16.here hx (hb hby drg_74) (pc' := 76) rfl rfl rfl ?_
  obtain ⟨cq_17, kq_17, q_17a, q_17b, q_17c⟩ := isOf hZ e_16 E_t
  obtain ⟨_, _, ⟨T_17, L_17, k_17, n_17⟩, -, X_17, ⟨Lc_17, hQ_17, l_17, y_17, z_17⟩, st_17⟩ := X_16.virtualBack hx (y := (⟨own_TT, "memberships", "()Lcom/example/weser/weser/core/Memberships;"⟩ : MethodName)) (z := (⟨own_TT, "memberships", "()Lcom/example/weser/weser/core/Memberships;"⟩ : MethodName)) hown (mvT hZ (own_w187 hw)) (mvT hZ (own_w188 hw)) (notFace_of_selects (args := #[]) (mvT hZ (own_w190 hw))) (mvT hZ (own_w190 hw)) (mvT hZ (own_w189 hw)) (by decide) (backOf (W := 1) (rmM9 lL Z a0 hw [] t s m bf k_bf ks h_16 n0 Z0 E_t F_size_t F_otherGraphs_t F_firstGraphs_t V_bf E_s F_map_s E_m F_size_m F_keySet_m F_head_m F_modCount_m E_ks F_this_0_ks F_reversed_ks le_n0_m) hZ (own_w191 hw) (own_w34 hw) (by decide) (by decide)) q_17a q_17c (g := (mkF mI 76 #[.val (.ref g), .val (.ref ir), .val (.ref pi), .val (.ref gl), .val (.ref t), .val (.ref t), .val (.ref lf), .val (.ref px)] [(.ref t), (.ref g)])) rfl (by rw [hml]; rfl) (Steps.refl _) (argsL := []) (rest := [(.ref g)]) (lenOf pd_19 rfl) rfl (by show 2 * 0 + _ ≤ _; exact Nat.le_of_eq rfl) (hb hby drg_76) (fun _ _ => ⟨rfl, e_16, (by decide : 10 + 4 ≤ _), (by decide : 9 + 7 ≤ _)⟩)
  dsimp only [Pt.U, Pt.locs, Pt.cells, Pt.slots] at X_17 l_17 y_17 z_17 st_17 hQ_17
  subst l_17 y_17 z_17
  obtain ⟨mb, rfl, N_17q, K_17⟩ := hQ_17
  have Z0 := Nat.le_trans Z0 K_17.1
  have Z1 := Nat.le_trans Z1 K_17.1
  have K0 := K0.trans K_17 all0
  have F_iris_g := F_iris_g.keep K_17 nin0
  have F_literalMemberships_g := F_literalMemberships_g.keep K_17 nin0
  have F_literalObjects_g := F_literalObjects_g.keep K_17 nin0
  have F_lexicalForms_g := F_lexicalForms_g.keep K_17 nin0
  have F_prefixes_g := F_prefixes_g.keep K_17 nin0
  have E_g := E_g.keep K_17
  have E_t := E_t.keep K_17
  have F_subjects_t := F_subjects_t.keep K_17 nin0
  have F_predicates_t := F_predicates_t.keep K_17 nin0
  have F_objects_t := F_objects_t.keep K_17 nin0
  have F_firstGraphs_t := F_firstGraphs_t.keep K_17 nin0
  have F_otherGraphs_t := F_otherGraphs_t.keep K_17 nin0
  have F_size_t := F_size_t.keep K_17 nin0
  have E_s := E_s.keep K_17
  have F_map_s := F_map_s.keep K_17 nin0
  have E_m := E_m.keep K_17
  have V_bs := V_bs.keep K_17 nin0
  have V_bp := V_bp.keep K_17 nin0
  have V_bo := V_bo.keep K_17 nin0
  have V_bf := V_bf.keep K_17 nin0
  have F_size_m := F_size_m.keep K_17 nin0
  have F_keySet_m := F_keySet_m.keep K_17 nin0
  have F_head_m := F_head_m.keep K_17 nin0
  have F_modCount_m := F_modCount_m.keep K_17 nin0
  have E_ks := E_ks.keep K_17
  have F_this_0_ks := F_this_0_ks.keep K_17 nin0
  have F_reversed_ks := F_reversed_ks.keep K_17 nin0
  have N_17 := Fr.app N_16 N_17q
  refine hst (fun _ kt => st_17.trans kt) ?_
  show G (T_17.setTop (mkF mI 79 #[.val (.ref g), .val (.ref ir), .val (.ref pi), .val (.ref gl), .val (.ref t), .val (.ref t), .val (.ref lf), .val (.ref px)] [(.ref mb), (.ref g)]))
  obtain ⟨T_18, h_18, X_18, e_18, W_18, st_18⟩ := putF X_17 hx hZ hown (host := "") (Or.inl (own_w313 hw)) Via.refl rfl F_literalMemberships_g E_g (Or.inr ⟨(own_w314 hw), rfl, hnm⟩) (own_w122 hw) (ty := (.object own_MB)) (by decide) rfl rfl (g := (mkF mI 79 #[.val (.ref g), .val (.ref ir), .val (.ref pi), .val (.ref gl), .val (.ref t), .val (.ref t), .val (.ref lf), .val (.ref px)] [(.ref mb), (.ref g)])) rfl rfl (hb hby drg_79)
  have Z0 := Nat.le_trans Z0 (Keep.of_wr W_18).1
  have Z1 := Nat.le_trans Z1 (Keep.of_wr W_18).1
  have K0 := K0.wr W_18 (Or.inl (List.mem_of_getElem? (i := 0) rfl))
  have F_iris_g := F_iris_g.other W_18 (Or.inr (slot_ne (Or.inr (own_w147 hw)) (Or.inr (own_w314 hw)) (by decide) (t := (.array (.object "java/lang/String"))) (t' := (.object own_MB)) (by decide) (by decide)))
  have F_literalMemberships_g := F_literalMemberships_g.same W_18
  have F_literalObjects_g := F_literalObjects_g.other W_18 (Or.inr (slot_ne (Or.inr (own_w316 hw)) (Or.inr (own_w314 hw)) (by decide) (t := (.array .int)) (t' := (.object own_MB)) (by decide) (by decide)))
  have F_lexicalForms_g := F_lexicalForms_g.other W_18 (Or.inr (slot_ne (Or.inr (own_w318 hw)) (Or.inr (own_w314 hw)) (by decide) (t := (.array (.object "java/lang/String"))) (t' := (.object own_MB)) (by decide) (by decide)))
  have F_prefixes_g := F_prefixes_g.other W_18 (Or.inr (slot_ne (Or.inr (own_w320 hw)) (Or.inr (own_w314 hw)) (by decide) (t := (.object own_PX)) (t' := (.object own_MB)) (by decide) (by decide)))
  have E_g := E_g.wr W_18
  have E_t := E_t.wr W_18
  have F_subjects_t := F_subjects_t.other W_18 (Or.inl (Ne.symm ne_g_t))
  have F_predicates_t := F_predicates_t.other W_18 (Or.inl (Ne.symm ne_g_t))
  have F_objects_t := F_objects_t.other W_18 (Or.inl (Ne.symm ne_g_t))
  have F_firstGraphs_t := F_firstGraphs_t.other W_18 (Or.inl (Ne.symm ne_g_t))
  have F_otherGraphs_t := F_otherGraphs_t.other W_18 (Or.inl (Ne.symm ne_g_t))
  have F_size_t := F_size_t.other W_18 (Or.inl (Ne.symm ne_g_t))
  have E_s := E_s.wr W_18
  have F_map_s := F_map_s.other W_18 (Or.inl (Ne.symm ne_g_s))
  have E_m := E_m.wr W_18
  have V_bs := V_bs.other W_18 (Ne.symm ne_g_bs)
  have V_bp := V_bp.other W_18 (Ne.symm ne_g_bp)
  have V_bo := V_bo.other W_18 (Ne.symm ne_g_bo)
  have V_bf := V_bf.other W_18 (Ne.symm ne_g_bf)
  have F_size_m := F_size_m.other W_18 (Or.inl (Ne.symm ne_g_m))
  have F_keySet_m := F_keySet_m.other W_18 (Or.inl (Ne.symm ne_g_m))
  have F_head_m := F_head_m.other W_18 (Or.inl (Ne.symm ne_g_m))
  have F_modCount_m := F_modCount_m.other W_18 (Or.inl (Ne.symm ne_g_m))
  have E_ks := E_ks.wr W_18
  have F_this_0_ks := F_this_0_ks.other W_18 (Or.inl (Ne.symm ne_g_ks))
  have F_reversed_ks := F_reversed_ks.other W_18 (Or.inl (Ne.symm ne_g_ks))
  have N_18 := Fr.snoc X_18 N_17 le_n0_g
  refine hst st_18 ?_
  show G (T_18.setTop (mkF mI 82 #[.val (.ref g), .val (.ref ir), .val (.ref pi), .val (.ref gl), .val (.ref t), .val (.ref t), .val (.ref lf), .val (.ref px)] []))
  refine o_aloadN hst X_18.here hx (hb hby drg_82) (pc' := 83) rfl rfl rfl ?_
  refine o_aload hst X_18.here hx (hb hby drg_83) (pc' := 85) rfl rfl rfl ?_
  obtain ⟨cq_19, kq_19, q_19a, q_19b, q_19c⟩ := isOf hZ e_18 E_t
  obtain ⟨_, _, ⟨T_19, L_19, k_19, n_19⟩, -, X_19, ⟨Lc_19, hQ_19, l_19, y_19, z_19⟩, st_19⟩ := X_18.virtualBack hx (y := (⟨own_TT, "objects", "()[I"⟩ : MethodName)) (z := (⟨own_TT, "objects", "()[I"⟩ : MethodName)) hown (mvT hZ (own_w180 hw)) (mvT hZ (own_w181 hw)) (notFace_of_selects (args := #[]) (mvT hZ (own_w183 hw))) (mvT hZ (own_w183 hw)) (mvT hZ (own_w182 hw)) (by decide) (backOf (W := 1) (rmgbo0 lL Z a0 hw [] t bo k_bo h_18 n0 Z0 F_objects_t F_size_t V_bo) hZ (own_w184 hw) (own_w34 hw) (by decide) (by decide)) q_19a q_19c (g := (mkF mI 85 #[.val (.ref g), .val (.ref ir), .val (.ref pi), .val (.ref gl), .val (.ref t), .val (.ref t), .val (.ref lf), .val (.ref px)] [(.ref t), (.ref g)])) rfl (by rw [hml]; rfl) (Steps.refl _) (argsL := []) (rest := [(.ref g)]) (lenOf pd_18 rfl) rfl (by show 2 * 0 + _ ≤ _; exact Nat.le_of_eq rfl) (hb hby drg_85) (fun _ _ => ⟨rfl, e_18, (by decide : 14 + 1 ≤ _), (by decide : 16 + 0 ≤ _)⟩)
  dsimp only [Pt.U, Pt.locs, Pt.cells, Pt.slots] at X_19 l_19 y_19 z_19 st_19 hQ_19
  subst l_19 y_19 z_19
  obtain ⟨c_19, kc_19, rfl, N_19q, K_19, le_c_19, V_c_19⟩ := hQ_19
  have Z0 := Nat.le_trans Z0 K_19.1
  have Z1 := Nat.le_trans Z1 K_19.1
  have K0 := K0.trans K_19 all0
  have F_iris_g := F_iris_g.keep K_19 nin0
  have F_literalObjects_g := F_literalObjects_g.keep K_19 nin0
  have F_lexicalForms_g := F_lexicalForms_g.keep K_19 nin0
  have F_prefixes_g := F_prefixes_g.keep K_19 nin0
  have E_g := E_g.keep K_19
  have E_t := E_t.keep K_19
  have F_subjects_t := F_subjects_t.keep K_19 nin0
  have F_predicates_t := F_predicates_t.keep K_19 nin0
  have F_objects_t := F_objects_t.keep K_19 nin0
  have F_firstGraphs_t := F_firstGraphs_t.keep K_19 nin0
  have F_otherGraphs_t := F_otherGraphs_t.keep K_19 nin0
  have F_size_t := F_size_t.keep K_19 nin0
  have E_s := E_s.keep K_19
  have F_map_s := F_map_s.keep K_19 nin0
  have E_m := E_m.keep K_19
  have V_bs := V_bs.keep K_19 nin0
  have V_bp := V_bp.keep K_19 nin0
  have V_bo := V_bo.keep K_19 nin0
  have V_bf := V_bf.keep K_19 nin0
  have F_size_m := F_size_m.keep K_19 nin0
  have F_keySet_m := F_keySet_m.keep K_19 nin0
  have F_head_m := F_head_m.keep K_19 nin0
  have F_modCount_m := F_modCount_m.keep K_19 nin0
  have E_ks := E_ks.keep K_19
  have F_this_0_ks := F_this_0_ks.keep K_19 nin0
  have F_reversed_ks := F_reversed_ks.keep K_19 nin0
  have N_19 := Fr.app N_18 N_19q
  refine hst (fun _ kt => st_19.trans kt) ?_
  show G (T_19.setTop (mkF mI 88 #[.val (.ref g), .val (.ref ir), .val (.ref pi), .val (.ref gl), .val (.ref t), .val (.ref t), .val (.ref lf), .val (.ref px)] [(.ref c_19), (.ref g)]))
  obtain ⟨T_20, h_20, X_20, e_20, W_20, st_20⟩ := putF X_19 hx hZ hown (host := "") (Or.inl (own_w315 hw)) Via.refl rfl F_literalObjects_g E_g (Or.inr ⟨(own_w316 hw), rfl, hnm⟩) (own_w122 hw) (ty := (.array .int)) (by decide) rfl rfl (g := (mkF mI 88 #[.val (.ref g), .val (.ref ir), .val (.ref pi), .val (.ref gl), .val (.ref t), .val (.ref t), .val (.ref lf), .val (.ref px)] [(.ref c_19), (.ref g)])) rfl rfl (hb hby drg_88)
  have Z0 := Nat.le_trans Z0 (Keep.of_wr W_20).1
  have Z1 := Nat.le_trans Z1 (Keep.of_wr W_20).1
  have K0 := K0.wr W_20 (Or.inl (List.mem_of_getElem? (i := 0) rfl))
  have F_iris_g := F_iris_g.other W_20 (Or.inr (slot_ne (Or.inr (own_w147 hw)) (Or.inr (own_w316 hw)) (by decide) (t := (.array (.object "java/lang/String"))) (t' := (.array .int)) (by decide) (by decide)))
  have F_literalObjects_g := F_literalObjects_g.same W_20
  have F_lexicalForms_g := F_lexicalForms_g.other W_20 (Or.inr (slot_ne (Or.inr (own_w318 hw)) (Or.inr (own_w316 hw)) (by decide) (t := (.array (.object "java/lang/String"))) (t' := (.array .int)) (by decide) (by decide)))
  have F_prefixes_g := F_prefixes_g.other W_20 (Or.inr (slot_ne (Or.inr (own_w320 hw)) (Or.inr (own_w316 hw)) (by decide) (t := (.object own_PX)) (t' := (.array .int)) (by decide) (by decide)))
  have E_g := E_g.wr W_20
  have E_t := E_t.wr W_20
  have F_subjects_t := F_subjects_t.other W_20 (Or.inl (Ne.symm ne_g_t))
  have F_predicates_t := F_predicates_t.other W_20 (Or.inl (Ne.symm ne_g_t))
  have F_objects_t := F_objects_t.other W_20 (Or.inl (Ne.symm ne_g_t))
  have F_firstGraphs_t := F_firstGraphs_t.other W_20 (Or.inl (Ne.symm ne_g_t))
  have F_otherGraphs_t := F_otherGraphs_t.other W_20 (Or.inl (Ne.symm ne_g_t))
  have F_size_t := F_size_t.other W_20 (Or.inl (Ne.symm ne_g_t))
  have E_s := E_s.wr W_20
  have F_map_s := F_map_s.other W_20 (Or.inl (Ne.symm ne_g_s))
  have E_m := E_m.wr W_20
  have V_bs := V_bs.other W_20 (Ne.symm ne_g_bs)
  have V_bp := V_bp.other W_20 (Ne.symm ne_g_bp)
  have V_bo := V_bo.other W_20 (Ne.symm ne_g_bo)
  have V_bf := V_bf.other W_20 (Ne.symm ne_g_bf)
  have F_size_m := F_size_m.other W_20 (Or.inl (Ne.symm ne_g_m))
  have F_keySet_m := F_keySet_m.other W_20 (Or.inl (Ne.symm ne_g_m))
  have F_head_m := F_head_m.other W_20 (Or.inl (Ne.symm ne_g_m))
  have F_modCount_m := F_modCount_m.other W_20 (Or.inl (Ne.symm ne_g_m))
  have E_ks := E_ks.wr W_20
  have F_this_0_ks := F_this_0_ks.other W_20 (Or.inl (Ne.symm ne_g_ks))
  have F_reversed_ks := F_reversed_ks.other W_20 (Or.inl (Ne.symm ne_g_ks))
  have N_20 := Fr.snoc X_20 N_19 le_n0_g
  refine hst st_20 ?_
  show G (T_20.setTop (mkF mI 91 #[.val (.ref g), .val (.ref ir), .val (.ref pi), .val (.ref gl), .val (.ref t), .val (.ref t), .val (.ref lf), .val (.ref px)] []))
  refine o_aloadN hst X_20.here hx (hb hby drg_91) (pc' := 92) rfl rfl rfl ?_
  refine o_aload hst X_20.here hx (hb hby drg_92) (pc' := 94) rfl rfl rfl ?_
  obtain ⟨T_21, h_21, X_21, e_21, W_21, st_21⟩ := putF X_20 hx hZ hown (host := "") (Or.inl (own_w317 hw)) Via.refl e_20 F_lexicalForms_g E_g (Or.inr ⟨(own_w318 hw), rfl, hnm⟩) (own_w122 hw) (ty := (.array (.object "java/lang/String"))) (by decide) rfl rfl (g := (mkF mI 94 #[.val (.ref g), .val (.ref ir), .val (.ref pi), .val (.ref gl), .val (.ref t), .val (.ref t), .val (.ref lf), .val (.ref px)] [(.ref lf), (.ref g)])) rfl rfl (hb hby drg_94)
  have Z0 := Nat.le_trans Z0 (Keep.of_wr W_21).1
  have Z1 := Nat.le_trans Z1 (Keep.of_wr W_21).1
  have K0 := K0.wr W_21 (Or.inl (List.mem_of_getElem? (i := 0) rfl))
  have F_iris_g := F_iris_g.other W_21 (Or.inr (slot_ne (Or.inr (own_w147 hw)) (Or.inr (own_w318 hw)) (by decide) (t := (.array (.object "java/lang/String"))) (t' := (.array (.object "java/lang/String"))) (by decide) (by decide)))
  have F_lexicalForms_g := F_lexicalForms_g.same W_21
  have F_prefixes_g := F_prefixes_g.other W_21 (Or.inr (slot_ne (Or.inr (own_w320 hw)) (Or.inr (own_w318 hw)) (by decide) (t := (.object own_PX)) (t' := (.array (.object "java/lang/String"))) (by decide) (by decide)))
  have E_g := E_g.wr W_21
  have E_t := E_t.wr W_21
  have F_subjects_t := F_subjects_t.other W_21 (Or.inl (Ne.symm ne_g_t))
  have F_predicates_t := F_predicates_t.other W_21 (Or.inl (Ne.symm ne_g_t))
  have F_objects_t := F_objects_t.other W_21 (Or.inl (Ne.symm ne_g_t))
  have F_firstGraphs_t := F_firstGraphs_t.other W_21 (Or.inl (Ne.symm ne_g_t))
  have F_otherGraphs_t := F_otherGraphs_t.other W_21 (Or.inl (Ne.symm ne_g_t))
  have F_size_t := F_size_t.other W_21 (Or.inl (Ne.symm ne_g_t))
  have E_s := E_s.wr W_21
  have F_map_s := F_map_s.other W_21 (Or.inl (Ne.symm ne_g_s))
  have E_m := E_m.wr W_21
  have V_bs := V_bs.other W_21 (Ne.symm ne_g_bs)
  have V_bp := V_bp.other W_21 (Ne.symm ne_g_bp)
  have V_bo := V_bo.other W_21 (Ne.symm ne_g_bo)
  have V_bf := V_bf.other W_21 (Ne.symm ne_g_bf)
  have F_size_m := F_size_m.other W_21 (Or.inl (Ne.symm ne_g_m))
  have F_keySet_m := F_keySet_m.other W_21 (Or.inl (Ne.symm ne_g_m))
  have F_head_m := F_head_m.other W_21 (Or.inl (Ne.symm ne_g_m))
  have F_modCount_m := F_modCount_m.other W_21 (Or.inl (Ne.symm ne_g_m))
  have E_ks := E_ks.wr W_21
  have F_this_0_ks := F_this_0_ks.other W_21 (Or.inl (Ne.symm ne_g_ks))
  have F_reversed_ks := F_reversed_ks.other W_21 (Or.inl (Ne.symm ne_g_ks))
  have N_21 := Fr.snoc X_21 N_20 le_n0_g
  refine hst st_21 ?_
  show G (T_21.setTop (mkF mI 97 #[.val (.ref g), .val (.ref ir), .val (.ref pi), .val (.ref gl), .val (.ref t), .val (.ref t), .val (.ref lf), .val (.ref px)] []))
  refine o_aloadN hst X_21.here hx (hb hby drg_97) (pc' := 98) rfl rfl rfl ?_
  refine o_aload hst X_21.here hx (hb hby drg_98) (pc' := 100) rfl rfl rfl ?_
  obtain ⟨T_22, h_22, X_22, e_22, W_22, st_22⟩ := putF X_21 hx hZ hown (host := "") (Or.inl (own_w319 hw)) Via.refl e_21 F_prefixes_g E_g (Or.inr ⟨(own_w320 hw), rfl, hnm⟩) (own_w122 hw) (ty := (.object own_PX)) (by decide) rfl rfl (g := (mkF mI 100 #[.val (.ref g), .val (.ref ir), .val (.ref pi), .val (.ref gl), .val (.ref t), .val (.ref t), .val (.ref lf), .val (.ref px)] [(.ref px), (.ref g)])) rfl rfl (hb hby drg_100)
  have Z0 := Nat.le_trans Z0 (Keep.of_wr W_22).1
  have Z1 := Nat.le_trans Z1 (Keep.of_wr W_22).1
  have K0 := K0.wr W_22 (Or.inl (List.mem_of_getElem? (i := 0) rfl))
  have F_iris_g := F_iris_g.other W_22 (Or.inr (slot_ne (Or.inr (own_w147 hw)) (Or.inr (own_w320 hw)) (by decide) (t := (.array (.object "java/lang/String"))) (t' := (.object own_PX)) (by decide) (by decide)))
  have F_prefixes_g := F_prefixes_g.same W_22
  have E_g := E_g.wr W_22
  have E_t := E_t.wr W_22
  have F_subjects_t := F_subjects_t.other W_22 (Or.inl (Ne.symm ne_g_t))
  have F_predicates_t := F_predicates_t.other W_22 (Or.inl (Ne.symm ne_g_t))
  have F_objects_t := F_objects_t.other W_22 (Or.inl (Ne.symm ne_g_t))
  have F_firstGraphs_t := F_firstGraphs_t.other W_22 (Or.inl (Ne.symm ne_g_t))
  have F_otherGraphs_t := F_otherGraphs_t.other W_22 (Or.inl (Ne.symm ne_g_t))
  have F_size_t := F_size_t.other W_22 (Or.inl (Ne.symm ne_g_t))
  have E_s := E_s.wr W_22
  have F_map_s := F_map_s.other W_22 (Or.inl (Ne.symm ne_g_s))
  have E_m := E_m.wr W_22
  have V_bs := V_bs.other W_22 (Ne.symm ne_g_bs)
  have V_bp := V_bp.other W_22 (Ne.symm ne_g_bp)
  have V_bo := V_bo.other W_22 (Ne.symm ne_g_bo)
  have V_bf := V_bf.other W_22 (Ne.symm ne_g_bf)
  have F_size_m := F_size_m.other W_22 (Or.inl (Ne.symm ne_g_m))
  have F_keySet_m := F_keySet_m.other W_22 (Or.inl (Ne.symm ne_g_m))
  have F_head_m := F_head_m.other W_22 (Or.inl (Ne.symm ne_g_m))
  have F_modCount_m := F_modCount_m.other W_22 (Or.inl (Ne.symm ne_g_m))
  have E_ks := E_ks.wr W_22
  have F_this_0_ks := F_this_0_ks.other W_22 (Or.inl (Ne.symm ne_g_ks))
  have F_reversed_ks := F_reversed_ks.other W_22 (Or.inl (Ne.symm ne_g_ks))
  have N_22 := Fr.snoc X_22 N_21 le_n0_g
  refine hst st_22 ?_
  show G (T_22.setTop (mkF mI 103 #[.val (.ref g), .val (.ref ir), .val (.ref pi), .val (.ref gl), .val (.ref t), .val (.ref t), .val (.ref lf), .val (.ref px)] []))
  exact hend (own_goVoid X_22 hx Bd.returns (hb hby drg_103) Bd.notSynchronized (by rw [e_22]; exact ⟨rfl, N_22, K0, E_g, F_iris_g⟩) (by decide) (by decide))
theorem den_0 : decode jdk_42_method_66_code 0 = .ok (.aload_n 0, 1) := by decide +kernel
theorem den_1 : decode jdk_42_method_66_code 1 = .ok (.aload_n 1, 1) := by decide +kernel
theorem den_2 : decode jdk_42_method_66_code 2 = .ok (.if_acmp .ne 5, 3) := by decide +kernel
theorem den_7 : decode jdk_42_method_66_code 7 = .ok (.aload_n 1, 1) := by decide +kernel
theorem den_8 : decode jdk_42_method_66_code 8 = .ok (.instanceof 10, 3) := by decide +kernel
theorem den_11 : decode jdk_42_method_66_code 11 = .ok (.ifCond .eq 43, 3) := by decide +kernel
theorem den_54 : decode jdk_42_method_66_code 54 = .ok (.iconst 0, 1) := by decide +kernel
theorem den_55 : decode jdk_42_method_66_code 55 = .ok (.ireturn, 1) := by decide +kernel
theorem ef_en (mI : MethodId) (r : Addr) : entryFrame mI #[(.ref r), .null] 3 = mkF mI 0 #[.val (.ref r), .val .null, .unset] [] := by first | (simp [entryFrame, mkF, argsToLocals, Value.category]; done) | rfl
theorem pn_en : plainName "java/lang/String" = true := by first | decide +kernel | (simp [plainName, overriddenIn]; done)
set_option maxRecDepth 65536 in
set_option maxHeartbeats 40000000 in
theorem rmen (lL : Launch) (Z : State) (a0 : Array Value) (hw : ∀ d ∈ tables_1, d.before a0 Z = true) (ws : List Jvm.Cond) (r : Addr) (h0 : Heap) (n0 : Nat) (Z0 : n0 ≤ h0.size) :
    MetFree lL (⟨"java/lang/String", "equals", "(Ljava/lang/Object;)Z"⟩ : MethodName) (head1 (Jvm.Cond.code (⟨"java/lang/String", "equals", "(Ljava/lang/Object;)Z"⟩ : MethodName) jdk_42_method_66_code 3 (some .boolean) :: ws) ({ frames := 0, cells := 0, slots := 0, locals := 0 } : Room)) (fun a_ U_ => a_ = #[(.ref r), .null] ∧ Z.Warmed39 U_.vm ∧ U_.heap = h0) (fun _ _ _ _ _ => True) (fun _ U_ o_ W_ => ∃ v_ L_, o_ = .returned v_ ∧ own_QI (0 : Int32) h0 n0 v_ W_.heap L_ ∧ FrameEnd U_ o_ W_ L_ ({ frames := 0, cells := 0, slots := 0, locals := 0 } : Room).cells ({ frames := 0, cells := 0, slots := 0, locals := 0 } : Room).slots) := by
  refine MetFree.of_bodySF (plainFor_of_name pn_en) hisR ?_
  intro pP eE sS mI args below meth cC s₁ Bd hml0 hP hK
  obtain ⟨rfl, hZ, hh⟩ := hP
  have hx := Bd.exec
  have hby := Bd.bytes
  have hml : cC.maxLocals = 3 := hml0
  have hown : sS.vm.findClass "java/lang/String" = some mI.cls := by have z := findClass_of_methodNamed Bd.named; exact z
  have hnm := (name_of_methodNamed Bd.named Bd.method).1
  have X0 : Stand pP lL eE ({ frames := 0, cells := 0, slots := 0, locals := 0 } : Room) sS mI #[(.ref r), .null] below meth cC s₁ [] 0 0 := Stand.of_body Bd
  have e0 : s₁.heap = h0 := by rw [← hh, Bd.state]; rfl
  have N0 := Fr.nil n0
  obtain ⟨G, hG, hst, hend⟩ := own_abs pP eE below sS (own_QI (0 : Int32) h0 n0) ({ frames := 0, cells := 0, slots := 0, locals := 0 } : Room).cells ({ frames := 0, cells := 0, slots := 0, locals := 0 } : Room).slots
  refine hG (S := s₁.setTop (entryFrame mI #[(.ref r), .null] 3)) (hst (fun t_ kt_ => castTop (ef_en mI r) kt_) ?_)
  show G (s₁.setTop (mkF mI 0 #[.val (.ref r), .val .null, .unset] []))
  refine o_aloadN hst X0.here hx (hb hby den_0) (pc' := 1) rfl rfl rfl ?_
  refine o_aloadN hst X0.here hx (hb hby den_1) (pc' := 2) rfl rfl rfl ?_
  refine hst (fun _ kt => Jvm.RoadKit.acmp (g := (mkF mI 2 #[.val (.ref r), .val .null, .unset] [.null, (.ref r)])) X0 hx rfl rfl rfl (pc0 := 2) (pc' := 7) (same := false) rfl (hb hby den_2) rfl (decide_eq_false nofun) (by decide) (by decide) kt) ?_
  show G (s₁.setTop (mkF mI 7 #[.val (.ref r), .val .null, .unset] []))
  refine o_aloadN hst X0.here hx (hb hby den_7) (pc' := 8) rfl rfl rfl ?_
  refine hst (X0.instanceofNull hx (g := (mkF mI 8 #[.val (.ref r), .val .null, .unset] [.null])) rfl rfl (hb hby den_8)) ?_
  show G (s₁.setTop (mkF mI 11 #[.val (.ref r), .val .null, .unset] [(.int (0 : Int32))]))
  have hc11 : (0 : Int32) = (0 : Int32) := rfl
  refine hst (fun _ kt => XS.ifYes X0.here hx rfl (pc0 := 11) (pc' := 54) rfl (hb hby den_11) rfl ((if0 _ _).trans (teq hc11).1) (by decide) (by decide) kt) ?_
  show G (s₁.setTop (mkF mI 54 #[.val (.ref r), .val .null, .unset] []))
  refine o_iconst hst X0.here hx (hb hby den_54) (pc' := 55) rfl (z := (0 : Int32)) rfl ?_
  exact hend (own_goRet X0 hx Bd.returns rfl (Or.inl ⟨rfl, by simp, _, rfl⟩) (hb hby den_55) Bd.notSynchronized (by rw [e0]; exact ⟨rfl, N0, rfl⟩) (by decide) (by decide))
theorem dey_0 : decode method_3_code 0 = .ok (.iload_n 0, 1) := by decide +kernel
theorem dey_1 : decode method_3_code 1 = .ok (.ifCond .ne 5, 3) := by decide +kernel
theorem dey_4 : decode method_3_code 4 = .ok (.aconst_null, 1) := by decide +kernel
theorem dey_5 : decode method_3_code 5 = .ok (.areturn, 1) := by decide +kernel
theorem dey_6 : decode method_3_code 6 = .ok (.iload_n 0, 1) := by decide +kernel
theorem dey_7 : decode method_3_code 7 = .ok (.iconst 1, 1) := by decide +kernel
theorem dey_8 : decode method_3_code 8 = .ok (.if_icmp .ne 18, 3) := by decide +kernel
theorem dey_11 : decode method_3_code 11 = .ok (.new 13, 3) := by decide +kernel
theorem dey_14 : decode method_3_code 14 = .ok (.dup, 1) := by decide +kernel
theorem dey_15 : decode method_3_code 15 = .ok (.iconst 1, 1) := by decide +kernel
theorem dey_16 : decode method_3_code 16 = .ok (.newarray .char, 2) := by decide +kernel
theorem dey_18 : decode method_3_code 18 = .ok (.dup, 1) := by decide +kernel
theorem dey_19 : decode method_3_code 19 = .ok (.iconst 0, 1) := by decide +kernel
theorem dey_20 : decode method_3_code 20 = .ok (.iload_n 1, 1) := by decide +kernel
theorem dey_21 : decode method_3_code 21 = .ok (.castore, 1) := by decide +kernel
theorem dey_22 : decode method_3_code 22 = .ok (.invokespecial 38, 3) := by decide +kernel
theorem dey_25 : decode method_3_code 25 = .ok (.areturn, 1) := by decide +kernel
theorem dey_26 : decode method_3_code 26 = .ok (.iload_n 2, 1) := by decide +kernel
theorem dey_27 : decode method_3_code 27 = .ok (.sipush 255, 3) := by decide +kernel
theorem dey_30 : decode method_3_code 30 = .ok (.iand, 1) := by decide +kernel
theorem dey_31 : decode method_3_code 31 = .ok (.i2c, 1) := by decide +kernel
theorem dey_32 : decode method_3_code 32 = .ok (.invokestatic 15, 3) := by decide +kernel
theorem dey_35 : decode method_3_code 35 = .ok (.areturn, 1) := by decide +kernel
theorem ef_ey (mI : MethodId) (kd : Int32) (q : Int32) (y : Int32) : entryFrame mI #[(.int kd), (.int q), (.int y)] 3 = mkF mI 0 #[.val (.int kd), .val (.int q), .val (.int y)] [] := by first | (simp [entryFrame, mkF, argsToLocals, Value.category]; done) | rfl
theorem pn_ey : plainName x.cls = true := by first | decide +kernel | (simp [plainName, overriddenIn]; done)
set_option maxRecDepth 65536 in
set_option maxHeartbeats 40000000 in
theorem rmey (lL : Launch) (Z : State) (a0 : Array Value) (hw : ∀ d ∈ tables_1, d.before a0 Z = true) (ws : List Jvm.Cond) (kd : Int32) (q : Int32) (y : Int32) (cz : Int32) (h0 : Heap) (n0 : Nat) (Z0 : n0 ≤ h0.size) (S_c : Sta Z h0 "java/lang/String" "COMPACT_STRINGS" "Z" (.int cz)) (hcz : ¬ cz = 0) (hq0 : ¬ nar .char q < 0) (hq1 : ¬ (255 : Int32) < nar .char q) :
    MetFree lL (⟨x.cls, "entry", "(ICI)Ljava/lang/String;"⟩ : MethodName) (head1 (Jvm.Cond.code (⟨x.cls, "entry", "(ICI)Ljava/lang/String;"⟩ : MethodName) method_3_code 3 (some (.object "java/lang/String")) :: ws) ({ frames := 4, cells := 3, slots := 6, locals := 66 } : Room)) (fun a_ U_ => a_ = #[(.int kd), (.int q), (.int y)] ∧ Z.Warmed39 U_.vm ∧ U_.heap = h0) (fun _ _ _ _ _ => True) (fun _ U_ o_ W_ => ∃ v_ L_, o_ = .returned v_ ∧ own_Qe Z (own_eo kd q y) h0 n0 v_ W_.heap L_ ∧ FrameEnd U_ o_ W_ L_ ({ frames := 4, cells := 3, slots := 6, locals := 66 } : Room).cells ({ frames := 4, cells := 3, slots := 6, locals := 66 } : Room).slots) := by
  refine MetFree.of_bodySF (plainFor_of_name pn_ey) hisR ?_
  intro pP eE sS mI args below meth cC s₁ Bd hml0 hP hK
  obtain ⟨rfl, hZ, hh⟩ := hP
  have hx := Bd.exec
  have hby := Bd.bytes
  have hml : cC.maxLocals = 3 := hml0
  have hown : sS.vm.findClass x.cls = some mI.cls := by have z := findClass_of_methodNamed Bd.named; exact z
  have hnm := (name_of_methodNamed Bd.named Bd.method).1
  have X0 : Stand pP lL eE ({ frames := 4, cells := 3, slots := 6, locals := 66 } : Room) sS mI #[(.int kd), (.int q), (.int y)] below meth cC s₁ [] 0 0 := Stand.of_body Bd
  have e0 : s₁.heap = h0 := by rw [← hh, Bd.state]; rfl
  have N0 := Fr.nil n0
  obtain ⟨G, hG, hst, hend⟩ := own_abs pP eE below sS (own_Qe Z (own_eo kd q y) h0 n0) ({ frames := 4, cells := 3, slots := 6, locals := 66 } : Room).cells ({ frames := 4, cells := 3, slots := 6, locals := 66 } : Room).slots
  refine hG (S := s₁.setTop (entryFrame mI #[(.int kd), (.int q), (.int y)] 3)) (hst (fun t_ kt_ => castTop (ef_ey mI kd q y) kt_) ?_)
  have Z1 := Nat.le_refl h0.size
  have K0 := Keep.refl h0 []
  show G (s₁.setTop (mkF mI 0 #[.val (.int kd), .val (.int q), .val (.int y)] []))
  refine o_iloadN hst X0.here hx (hb hby dey_0) (pc' := 1) rfl rfl ?_
  by_cases hk0 : kd = (0 : Int32)
  ·
    refine hst (fun _ kt => XS.ifNo X0.here hx rfl (hb hby dey_1) rfl ((if0 _ _).trans (teq hk0).2) kt) ?_
    show G (s₁.setTop (mkF mI 4 #[.val (.int kd), .val (.int q), .val (.int y)] []))
    refine o_aconstNull hst X0.here hx (hb hby dey_4) (pc' := 5) rfl ?_
    exact hend (own_goRet X0 hx Bd.returns rfl (Or.inr (Or.inr (Or.inr (Or.inr ⟨rfl, rfl, rfl⟩)))) (hb hby dey_5) Bd.notSynchronized (by rw [e0]; exact ⟨_, rfl, N0, K0, by rw [own_eo, if_pos hk0]; rfl⟩) (by decide) (by decide))
  ·
    refine hst (fun _ kt => XS.ifYes X0.here hx rfl (pc0 := 1) (pc' := 6) rfl (hb hby dey_1) rfl ((if0 _ _).trans (feq hk0).2) (by decide) (by decide) kt) ?_
    show G (s₁.setTop (mkF mI 6 #[.val (.int kd), .val (.int q), .val (.int y)] []))
    refine o_iloadN hst X0.here hx (hb hby dey_6) (pc' := 7) rfl rfl ?_
    refine o_iconst hst X0.here hx (hb hby dey_7) (pc' := 8) rfl (z := (1 : Int32)) rfl ?_
    by_cases hk1 : kd = (1 : Int32)
    ·
      refine hst (fun _ kt => XS.icmpNo X0.here hx rfl (hb hby dey_8) rfl (teq hk1).2 kt) ?_
      show G (s₁.setTop (mkF mI 11 #[.val (.int kd), .val (.int q), .val (.int y)] []))
      obtain ⟨T_1, h_1, X_1, e_1, E_1, A_1, D_1, -, st_1⟩ := newO X0 hx hZ hown (own_w4 hw) (own_w16 hw) (own_w8 hw) e0 (g := (mkF mI 11 #[.val (.int kd), .val (.int q), .val (.int y)] [])) rfl (hb hby dey_11) (by decide) (by decide)
      obtain ⟨r, g_r⟩ : ∃ z, z = h0.size := ⟨_, rfl⟩
      rw [← g_r] at A_1 D_1 st_1
      have le_n0_r : n0 ≤ r := Nat.le_trans Z0 (Nat.le_of_eq g_r.symm)
      have le_hh_r : h0.size ≤ r := Nat.le_trans Z1 (Nat.le_of_eq g_r.symm)
      have Z0 := Nat.le_trans Z0 E_1.1
      have Z1 := Nat.le_trans Z1 E_1.1
      have K0 := K0.ext E_1
      have S_c := S_c.ext E_1
      have E_r : Exa Z h_1 r "java/lang/String" := A_1
      have F_value_r : Fld Z h_1 r "java/lang/String" "value" "[B" .null := D_1 (Or.inr (own_w29 hw)) (ty := (.array .byte)) (by decide)
      have F_coder_r : Fld Z h_1 r "java/lang/String" "coder" "B" (.int (0 : Int32)) := D_1 (Or.inr (own_w31 hw)) (ty := .byte) (by decide)
      refine hst st_1 ?_
      show G (T_1.setTop (mkF mI 14 #[.val (.int kd), .val (.int q), .val (.int y)] [(.ref r)]))
      refine o_dup hst X_1.here hx (hb hby dey_14) (pc' := 15) rfl rfl ?_
      refine o_iconst hst X_1.here hx (hb hby dey_15) (pc' := 16) rfl (z := (1 : Int32)) rfl ?_
      obtain ⟨T_2, h_2, k_b, X_2, e_2, E_2, A_2, st_2⟩ := newP (aty := .char) X_1 hx hZ (own_w334 hw) e_1 (g := (mkF mI 16 #[.val (.int kd), .val (.int q), .val (.int y)] [(.int (1 : Int32)), (.ref r), (.ref r)])) rfl (hb hby dey_16) rfl (by decide) (cap := 1) (by decide) (by decide) (by decide) (by decide)
      obtain ⟨b, g_b⟩ : ∃ z, z = h_1.size := ⟨_, rfl⟩
      rw [← g_b] at A_2 st_2
      have ne_r_b : r ≠ b := Nat.ne_of_lt (Nat.lt_of_lt_of_le E_r.lt (Nat.le_of_eq g_b.symm))
      have le_n0_b : n0 ≤ b := Nat.le_trans Z0 (Nat.le_of_eq g_b.symm)
      have le_hh_b : h0.size ≤ b := Nat.le_trans Z1 (Nat.le_of_eq g_b.symm)
      have Z0 := Nat.le_trans Z0 E_2.1
      have Z1 := Nat.le_trans Z1 E_2.1
      have K0 := K0.ext E_2
      have S_c := S_c.ext E_2
      have E_r := E_r.ext E_2
      have F_value_r := F_value_r.ext E_2
      have F_coder_r := F_coder_r.ext E_2
      have V_b : Arv Z h_2 b k_b .char (1 : Int32) [(.int (0 : Int32))] (.int (0 : Int32)) := (Arv.new A_2 (by decide)).pad (pad_rep [] (.int (0 : Int32)) 1)
      refine hst st_2 ?_
      show G (T_2.setTop (mkF mI 18 #[.val (.int kd), .val (.int q), .val (.int y)] [(.ref b), (.ref r), (.ref r)]))
      refine o_dup hst X_2.here hx (hb hby dey_18) (pc' := 19) rfl rfl ?_
      refine o_iconst hst X_2.here hx (hb hby dey_19) (pc' := 20) rfl (z := (0 : Int32)) rfl ?_
      refine o_iloadN hst X_2.here hx (hb hby dey_20) (pc' := 21) rfl rfl ?_
      obtain ⟨cl_3, Ar_3, q_3, S_3, M_3, Hs_3, Gs_3⟩ := V_b
      have hin_3 : ¬ ((0 : Int32) < 0 ∨ cl_3.slots.size ≤ ((0 : Int32)).toNatClampNeg) := inb_of S_3 ⟨by decide, by decide⟩
      obtain ⟨T_3, h_3, X_3, e_3, W_3, st_3⟩ := stC X_2 hx hZ e_2 Ar_3 (j := (0 : Int32)) hin_3 (g := (mkF mI 21 #[.val (.int kd), .val (.int q), .val (.int y)] [(.int q), (.int (0 : Int32)), (.ref b), (.ref b), (.ref r), (.ref r)])) rfl rfl (hb hby dey_21)
      have V_b := Arv.set Ar_3 q_3 S_3 M_3 Hs_3 Gs_3 (fits_nar_char _) W_3 0 rfl (Nat.le_of_ble_eq_true rfl)
      have V_b : Arv Z h_3 b k_b .char (1 : Int32) [(.int (nar .char q))] (.int (0 : Int32)) := V_b
      have Z0 := Nat.le_trans Z0 (Keep.of_wr W_3).1
      have Z1 := Nat.le_trans Z1 (Keep.of_wr W_3).1
      have K0 := K0.wr W_3 (Or.inr le_hh_b)
      have S_c := S_c.wr W_3
      have E_r := E_r.wr W_3
      have F_value_r := F_value_r.other W_3 (Or.inl ne_r_b)
      have F_coder_r := F_coder_r.other W_3 (Or.inl ne_r_b)
      have N_3 := Fr.snoc X_3 N0 le_n0_b
      refine hst st_3 ?_
      show G (T_3.setTop (mkF mI 22 #[.val (.int kd), .val (.int q), .val (.int y)] [(.ref b), (.ref r), (.ref r)]))
      have hws : ∀ d ∈ StrChars.Road.words, d.before a0 Z = true := fun d hd => hw d ((by decide +kernel : ∀ d ∈ StrChars.Road.words, d ∈ tables_1) d hd)
      have hp : ∀ ch ∈ ([(nar .char q)] : List Int32), ¬ ch < 0 ∧ ¬ (255 : Int32) < ch := by
        intro ch hch
        simp only [List.mem_cons, List.not_mem_nil, or_false] at hch
        subst hch
        exact ⟨hq0, hq1⟩
      obtain ⟨_, _, ⟨T_4, L_4, k_4, n_4⟩, -, X_4, ⟨Lc_4, hQ_4, l_4, y_4, z_4⟩, st_4⟩ := X_3.specialBack hx (y := (⟨"java/lang/String", "<init>", "([C)V"⟩ : MethodName)) rfl hown (mvT hZ (own_w335 hw)) (mvT hZ (own_w336 hw)) (mvT hZ (own_w337 hw)) (by decide) (StrChars.Road.backV (W := 1) hZ hws (kI := 4) (own_w16 hw) (cs := ([(nar .char q)] : List Int32)) (bs := (([(nar .char q)] : List Int32)).map (fun c => c.toInt8.toInt32)) (n := 1) le_n0_r Z0 E_r F_value_r F_coder_r V_b S_c hcz rfl rfl (by decide) (by decide) hp rfl (by decide) (by decide)) (g := (mkF mI 22 #[.val (.int kd), .val (.int q), .val (.int y)] [(.ref b), (.ref r), (.ref r)])) rfl (by rw [hml]; rfl) (Steps.refl _) (a := r) (argsL := [(.ref b)]) (rest := [(.ref r)]) (lenOf pd_20 rfl) rfl (by show 2 * 0 + _ ≤ _; exact Nat.le_of_eq rfl) (hb hby dey_22) (fun _ _ => ⟨rfl, e_3, (by decide : 2 + 1 ≤ _), (by decide : 5 + 1 ≤ _)⟩)
      dsimp only [Pt.U, Pt.locs, Pt.cells, Pt.slots] at X_4 l_4 y_4 z_4 st_4 hQ_4
      subst l_4 y_4 z_4
      obtain ⟨rfl, N_4q, K_4, Ex_4, Cd_4, bb, kbb, u1, u2, u3, Vl_4, Ab_4⟩ := hQ_4
      have Z0 := Nat.le_trans Z0 K_4.1
      have Z1 := Nat.le_trans Z1 K_4.1
      have K0 := K0.trans K_4 (allS (Or.inr le_hh_r) all0)
      have E_r := E_r.keep K_4
      have N_4 := Fr.app N_3 N_4q
      refine hst (fun _ kt => st_4.trans kt) ?_
      show G (T_4.setTop (mkF mI 25 #[.val (.int kd), .val (.int q), .val (.int y)] [(.ref r)]))
      exact hend (own_goRet X_4 hx Bd.returns rfl (Or.inr (Or.inr (Or.inr (Or.inr ⟨rfl, rfl, rfl⟩)))) (hb hby dey_25) Bd.notSynchronized (by exact ⟨_, rfl, N_4, K0, by rw [own_eo, if_neg hk0, if_pos hk1]; exact ⟨r, bb, kbb, rfl, Ex_4.lt, Ab_4.lt, Ex_4, Cd_4, Vl_4, Ab_4⟩⟩) (by decide) (by decide))
    ·
      refine hst (fun _ kt => XS.icmpYes X0.here hx rfl (pc0 := 8) (pc' := 26) rfl (hb hby dey_8) rfl (feq hk1).2 (by decide) (by decide) kt) ?_
      show G (s₁.setTop (mkF mI 26 #[.val (.int kd), .val (.int q), .val (.int y)] []))
      refine o_iloadN hst X0.here hx (hb hby dey_26) (pc' := 27) rfl rfl ?_
      refine o_sipush hst X0.here hx (hb hby dey_27) (pc' := 30) rfl (z := (255 : Int32)) rfl ?_
      refine o_iand hst X0.here hx (hb hby dey_30) (pc' := 31) rfl ?_
      refine o_i2c hst X0.here hx (hb hby dey_31) (pc' := 32) rfl ?_
      show G (s₁.setTop (mkF mI 32 #[.val (.int kd), .val (.int q), .val (.int y)] [(.int (own_ch y))]))
      obtain ⟨_, _, ⟨T_5, L_5, k_5, n_5⟩, -, X_5, ⟨Lc_5, hQ_5, l_5, y_5, z_5⟩, st_5⟩ := Jvm.LawKit.callS X0 hx (y := (⟨"java/lang/String", "valueOf", "(C)Ljava/lang/String;"⟩ : MethodName)) hown (mvT hZ (own_w6 hw)) (mvT hZ (own_w7 hw)) (mvT hZ (own_w8 hw)) (mvT hZ (own_w9 hw)) (by decide) (backOf (W := 0) (rmvo lL Z a0 hw [] (own_ch y) cz h0 n0 Z0 S_c hcz (own_ch_le y)) hZ (own_w9 hw) (own_w8 hw) (by decide) (by decide)) (g := (mkF mI 32 #[.val (.int kd), .val (.int q), .val (.int y)] [(.int (own_ch y))])) rfl (by rw [hml]; rfl) (argsL := [(.int (own_ch y))]) (rest := []) (lenOf pd_21 rfl) rfl (by show 2 * 0 + _ ≤ _; exact Nat.le_of_eq rfl) (hb hby dey_32) (fun _ _ => ⟨rfl, e0, (by decide : 0 + 2 ≤ _), (by decide : 0 + 5 ≤ _)⟩)
      dsimp only [Pt.U, Pt.locs, Pt.cells, Pt.slots] at X_5 l_5 y_5 z_5 st_5 hQ_5
      subst l_5 y_5 z_5
      obtain ⟨r, b, k_b, rfl, N_5q, K_5, le_r, le_b, E_r, C_r, V_r, A_b⟩ := hQ_5
      have S_c := own_Sta_keepL S_c K_5 all0
      have Z0 := Nat.le_trans Z0 K_5.1
      have Z1 := Nat.le_trans Z1 K_5.1
      have K0 := K0.trans K_5 all0
      have N_5 := Fr.app N0 N_5q
      refine hst (fun _ kt => st_5 _ kt) ?_
      show G (T_5.setTop (mkF mI 35 #[.val (.int kd), .val (.int q), .val (.int y)] [(.ref r)]))
      exact hend (own_goRet X_5 hx Bd.returns rfl (Or.inr (Or.inr (Or.inr (Or.inr ⟨rfl, rfl, rfl⟩)))) (hb hby dey_35) Bd.notSynchronized (by exact ⟨_, rfl, N_5, K0, by rw [own_eo, if_neg hk0, if_neg hk1]; exact ⟨r, b, k_b, rfl, E_r.lt, A_b.lt, E_r, C_r, V_r, A_b⟩⟩) (by decide) (by decide))
theorem dmt_0 : decode method_4_code 0 = .ok (.iload_n 0, 1) := by decide +kernel
theorem dmt_1 : decode method_4_code 1 = .ok (.ifCond .ne 5, 3) := by decide +kernel
theorem dmt_4 : decode method_4_code 4 = .ok (.iconst 0, 1) := by decide +kernel
theorem dmt_5 : decode method_4_code 5 = .ok (.ireturn, 1) := by decide +kernel
theorem dmt_6 : decode method_4_code 6 = .ok (.iload_n 0, 1) := by decide +kernel
theorem dmt_7 : decode method_4_code 7 = .ok (.iconst 1, 1) := by decide +kernel
theorem dmt_8 : decode method_4_code 8 = .ok (.if_icmp .ne 5, 3) := by decide +kernel
theorem dmt_11 : decode method_4_code 11 = .ok (.iconst 1, 1) := by decide +kernel
theorem dmt_12 : decode method_4_code 12 = .ok (.ireturn, 1) := by decide +kernel
theorem dmt_13 : decode method_4_code 13 = .ok (.iload_n 2, 1) := by decide +kernel
theorem dmt_14 : decode method_4_code 14 = .ok (.sipush 255, 3) := by decide +kernel
theorem dmt_17 : decode method_4_code 17 = .ok (.iand, 1) := by decide +kernel
theorem dmt_18 : decode method_4_code 18 = .ok (.i2c, 1) := by decide +kernel
theorem dmt_19 : decode method_4_code 19 = .ok (.iload_n 1, 1) := by decide +kernel
theorem dmt_20 : decode method_4_code 20 = .ok (.if_icmp .ne 7, 3) := by decide +kernel
theorem dmt_23 : decode method_4_code 23 = .ok (.iconst 1, 1) := by decide +kernel
theorem dmt_24 : decode method_4_code 24 = .ok (.goto 4, 3) := by decide +kernel
theorem dmt_27 : decode method_4_code 27 = .ok (.iconst 0, 1) := by decide +kernel
theorem dmt_28 : decode method_4_code 28 = .ok (.ireturn, 1) := by decide +kernel
theorem ef_mt (mI : MethodId) (kd : Int32) (q : Int32) (y : Int32) : entryFrame mI #[(.int kd), (.int q), (.int y)] 3 = mkF mI 0 #[.val (.int kd), .val (.int q), .val (.int y)] [] := by first | (simp [entryFrame, mkF, argsToLocals, Value.category]; done) | rfl
theorem pn_mt : plainName x.cls = true := by first | decide +kernel | (simp [plainName, overriddenIn]; done)
set_option maxRecDepth 65536 in
set_option maxHeartbeats 40000000 in
theorem rmmt (lL : Launch) (Z : State) (a0 : Array Value) (hw : ∀ d ∈ tables_1, d.before a0 Z = true) (ws : List Jvm.Cond) (kd : Int32) (q : Int32) (y : Int32) (h0 : Heap) (n0 : Nat) (Z0 : n0 ≤ h0.size) :
    MetFree lL (⟨x.cls, "matches", "(ICI)Z"⟩ : MethodName) (head1 (Jvm.Cond.code (⟨x.cls, "matches", "(ICI)Z"⟩ : MethodName) method_4_code 3 (some .boolean) :: ws) ({ frames := 0, cells := 0, slots := 0, locals := 0 } : Room)) (fun a_ U_ => a_ = #[(.int kd), (.int q), (.int y)] ∧ Z.Warmed39 U_.vm ∧ U_.heap = h0) (fun _ _ _ _ _ => True) (fun _ U_ o_ W_ => ∃ v_ L_, o_ = .returned v_ ∧ own_QI (own_mt kd q y) h0 n0 v_ W_.heap L_ ∧ FrameEnd U_ o_ W_ L_ ({ frames := 0, cells := 0, slots := 0, locals := 0 } : Room).cells ({ frames := 0, cells := 0, slots := 0, locals := 0 } : Room).slots) := by
  refine MetFree.of_bodySF (plainFor_of_name pn_mt) hisR ?_
  intro pP eE sS mI args below meth cC s₁ Bd hml0 hP hK
  obtain ⟨rfl, hZ, hh⟩ := hP
  have hx := Bd.exec
  have hby := Bd.bytes
  have hml : cC.maxLocals = 3 := hml0
  have hown : sS.vm.findClass x.cls = some mI.cls := by have z := findClass_of_methodNamed Bd.named; exact z
  have hnm := (name_of_methodNamed Bd.named Bd.method).1
  have X0 : Stand pP lL eE ({ frames := 0, cells := 0, slots := 0, locals := 0 } : Room) sS mI #[(.int kd), (.int q), (.int y)] below meth cC s₁ [] 0 0 := Stand.of_body Bd
  have e0 : s₁.heap = h0 := by rw [← hh, Bd.state]; rfl
  have N0 := Fr.nil n0
  obtain ⟨G, hG, hst, hend⟩ := own_abs pP eE below sS (own_QI (own_mt kd q y) h0 n0) ({ frames := 0, cells := 0, slots := 0, locals := 0 } : Room).cells ({ frames := 0, cells := 0, slots := 0, locals := 0 } : Room).slots
  refine hG (S := s₁.setTop (entryFrame mI #[(.int kd), (.int q), (.int y)] 3)) (hst (fun t_ kt_ => castTop (ef_mt mI kd q y) kt_) ?_)
  show G (s₁.setTop (mkF mI 0 #[.val (.int kd), .val (.int q), .val (.int y)] []))
  refine o_iloadN hst X0.here hx (hb hby dmt_0) (pc' := 1) rfl rfl ?_
  by_cases hk0 : kd = (0 : Int32)
  ·
    refine hst (fun _ kt => XS.ifNo X0.here hx rfl (hb hby dmt_1) rfl ((if0 _ _).trans (teq hk0).2) kt) ?_
    show G (s₁.setTop (mkF mI 4 #[.val (.int kd), .val (.int q), .val (.int y)] []))
    refine o_iconst hst X0.here hx (hb hby dmt_4) (pc' := 5) rfl (z := (0 : Int32)) rfl ?_
    exact hend (own_goRet X0 hx Bd.returns rfl (Or.inl ⟨rfl, by simp, _, rfl⟩) (hb hby dmt_5) Bd.notSynchronized (by rw [e0]; exact ⟨by rw [own_mt, if_pos hk0], N0, rfl⟩) (by decide) (by decide))
  ·
    refine hst (fun _ kt => XS.ifYes X0.here hx rfl (pc0 := 1) (pc' := 6) rfl (hb hby dmt_1) rfl ((if0 _ _).trans (feq hk0).2) (by decide) (by decide) kt) ?_
    show G (s₁.setTop (mkF mI 6 #[.val (.int kd), .val (.int q), .val (.int y)] []))
    refine o_iloadN hst X0.here hx (hb hby dmt_6) (pc' := 7) rfl rfl ?_
    refine o_iconst hst X0.here hx (hb hby dmt_7) (pc' := 8) rfl (z := (1 : Int32)) rfl ?_
    by_cases hk1 : kd = (1 : Int32)
    ·
      refine hst (fun _ kt => XS.icmpNo X0.here hx rfl (hb hby dmt_8) rfl (teq hk1).2 kt) ?_
      show G (s₁.setTop (mkF mI 11 #[.val (.int kd), .val (.int q), .val (.int y)] []))
      refine o_iconst hst X0.here hx (hb hby dmt_11) (pc' := 12) rfl (z := (1 : Int32)) rfl ?_
      exact hend (own_goRet X0 hx Bd.returns rfl (Or.inl ⟨rfl, by simp, _, rfl⟩) (hb hby dmt_12) Bd.notSynchronized (by rw [e0]; exact ⟨by rw [own_mt, if_neg hk0, if_pos hk1], N0, rfl⟩) (by decide) (by decide))
    ·
      refine hst (fun _ kt => XS.icmpYes X0.here hx rfl (pc0 := 8) (pc' := 13) rfl (hb hby dmt_8) rfl (feq hk1).2 (by decide) (by decide) kt) ?_
      show G (s₁.setTop (mkF mI 13 #[.val (.int kd), .val (.int q), .val (.int y)] []))
      refine o_iloadN hst X0.here hx (hb hby dmt_13) (pc' := 14) rfl rfl ?_
      refine o_sipush hst X0.here hx (hb hby dmt_14) (pc' := 17) rfl (z := (255 : Int32)) rfl ?_
      refine o_iand hst X0.here hx (hb hby dmt_17) (pc' := 18) rfl ?_
      refine o_i2c hst X0.here hx (hb hby dmt_18) (pc' := 19) rfl ?_
      show G (s₁.setTop (mkF mI 19 #[.val (.int kd), .val (.int q), .val (.int y)] [(.int (own_ch y))]))
      refine o_iloadN hst X0.here hx (hb hby dmt_19) (pc' := 20) rfl rfl ?_
      by_cases hk2 : (own_ch y) = q
      ·
        refine hst (fun _ kt => XS.icmpNo X0.here hx rfl (hb hby dmt_20) rfl (teq hk2).2 kt) ?_
        show G (s₁.setTop (mkF mI 23 #[.val (.int kd), .val (.int q), .val (.int y)] []))
        refine o_iconst hst X0.here hx (hb hby dmt_23) (pc' := 24) rfl (z := (1 : Int32)) rfl ?_
        refine o_goto hst X0.here hx (hb hby dmt_24) (by decide) (pc' := 28) (by decide) ?_
        exact hend (own_goRet X0 hx Bd.returns rfl (Or.inl ⟨rfl, by simp, _, rfl⟩) (hb hby dmt_28) Bd.notSynchronized (by rw [e0]; exact ⟨by rw [own_mt, if_neg hk0, if_neg hk1, if_pos hk2], N0, rfl⟩) (by decide) (by decide))
      ·
        refine hst (fun _ kt => XS.icmpYes X0.here hx rfl (pc0 := 20) (pc' := 27) rfl (hb hby dmt_20) rfl (feq hk2).2 (by decide) (by decide) kt) ?_
        show G (s₁.setTop (mkF mI 27 #[.val (.int kd), .val (.int q), .val (.int y)] []))
        refine o_iconst hst X0.here hx (hb hby dmt_27) (pc' := 28) rfl (z := (0 : Int32)) rfl ?_
        exact hend (own_goRet X0 hx Bd.returns rfl (Or.inl ⟨rfl, by simp, _, rfl⟩) (hb hby dmt_28) Bd.notSynchronized (by rw [e0]; exact ⟨by rw [own_mt, if_neg hk0, if_neg hk1, if_neg hk2], N0, rfl⟩) (by decide) (by decide))
theorem dnd_0 : decode prog_29_method_8_code 0 = .ok (.iconst (-1), 1) := by decide +kernel
theorem dnd_1 : decode prog_29_method_8_code 1 = .ok (.istore_n 2, 1) := by decide +kernel
theorem dnd_2 : decode prog_29_method_8_code 2 = .ok (.iconst 0, 1) := by decide +kernel
theorem dnd_3 : decode prog_29_method_8_code 3 = .ok (.istore_n 3, 1) := by decide +kernel
theorem dnd_4 : decode prog_29_method_8_code 4 = .ok (.iload_n 3, 1) := by decide +kernel
theorem dnd_5 : decode prog_29_method_8_code 5 = .ok (.aload_n 0, 1) := by decide +kernel
theorem dnd_6 : decode prog_29_method_8_code 6 = .ok (.getfield 7, 3) := by decide +kernel
theorem dnd_9 : decode prog_29_method_8_code 9 = .ok (.arraylength, 1) := by decide +kernel
theorem dnd_10 : decode prog_29_method_8_code 10 = .ok (.if_icmp .ge 28, 3) := by decide +kernel
theorem dnd_13 : decode prog_29_method_8_code 13 = .ok (.iload_n 2, 1) := by decide +kernel
theorem dnd_14 : decode prog_29_method_8_code 14 = .ok (.ifCond .ge 24, 3) := by decide +kernel
theorem dnd_17 : decode prog_29_method_8_code 17 = .ok (.aload_n 1, 1) := by decide +kernel
theorem dnd_18 : decode prog_29_method_8_code 18 = .ok (.aload_n 0, 1) := by decide +kernel
theorem dnd_19 : decode prog_29_method_8_code 19 = .ok (.getfield 7, 3) := by decide +kernel
theorem dnd_22 : decode prog_29_method_8_code 22 = .ok (.iload_n 3, 1) := by decide +kernel
theorem dnd_23 : decode prog_29_method_8_code 23 = .ok (.aaload, 1) := by decide +kernel
theorem dnd_24 : decode prog_29_method_8_code 24 = .ok (.invokevirtual 68, 3) := by decide +kernel
theorem dnd_27 : decode prog_29_method_8_code 27 = .ok (.ifCond .eq 5, 3) := by decide +kernel
theorem dnd_30 : decode prog_29_method_8_code 30 = .ok (.iload_n 3, 1) := by decide +kernel
theorem dnd_31 : decode prog_29_method_8_code 31 = .ok (.istore_n 2, 1) := by decide +kernel
theorem dnd_32 : decode prog_29_method_8_code 32 = .ok (.iinc 3 1, 3) := by decide +kernel
theorem dnd_35 : decode prog_29_method_8_code 35 = .ok (.goto (-31), 3) := by decide +kernel
theorem dnd_38 : decode prog_29_method_8_code 38 = .ok (.iload_n 2, 1) := by decide +kernel
theorem dnd_39 : decode prog_29_method_8_code 39 = .ok (.ireturn, 1) := by decide +kernel
theorem ef_nd (mI : MethodId) (g : Addr) (q : Addr) : entryFrame mI #[(.ref g), (.ref q)] 4 = mkF mI 0 #[.val (.ref g), .val (.ref q), .unset, .unset] [] := by first | (simp [entryFrame, mkF, argsToLocals, Value.category]; done) | rfl
theorem pn_nd : plainName own_RG = true := by first | decide +kernel | (simp [plainName, overriddenIn]; done)
set_option maxRecDepth 65536 in
set_option maxHeartbeats 40000000 in
theorem rmnd (lL : Launch) (Z : State) (a0 : Array Value) (hw : ∀ d ∈ tables_1, d.before a0 Z = true) (ws : List Jvm.Cond) (g : Addr) (q : Addr) (ir : Addr) (d : Addr) (ki : ClassId) (k_d : ClassId) (nn : Int32) (u : Int32) (cz : Int32) (B0 : Nat) (r0 : Value) (r1 : Value) (r2 : Value) (o0 : Option Int32) (o1 : Option Int32) (o2 : Option Int32) (h0 : Heap) (n0 : Nat) (Z0 : n0 ≤ h0.size) (hin : own_In nn) (F_iris_g : Fld Z h0 g own_RG "iris" "[Ljava/lang/String;" (.ref ir)) (V_ir : Arv Z h0 ir ki (.object "java/lang/String") nn (own_rs nn r0 r1 r2) .null) (C_s0 : own_St Z h0 B0 r0 o0) (C_s1 : own_St Z h0 B0 r1 o1) (C_s2 : own_St Z h0 B0 r2 o2) (hBq : B0 ≤ q) (E_q : Exa Z h0 q "java/lang/String") (F_coder_q : Fld Z h0 q "java/lang/String" "coder" "B" (.int (0 : Int32))) (F_value_q : Fld Z h0 q "java/lang/String" "value" "[B" (.ref d)) (V_d : Arv Z h0 d k_d .byte (1 : Int32) [(.int u)] (.int (0 : Int32))) (S_c : Sta Z h0 "java/lang/String" "COMPACT_STRINGS" "Z" (.int cz)) (hcz : ¬ cz = 0) :
    MetFree lL (⟨own_RG, "node", "(Ljava/lang/String;)I"⟩ : MethodName) (head1 (Jvm.Cond.code (⟨own_RG, "node", "(Ljava/lang/String;)I"⟩ : MethodName) prog_29_method_8_code 4 (some .int) :: ws) ({ frames := 2, cells := 0, slots := 0, locals := 30 } : Room)) (fun a_ U_ => a_ = #[(.ref g), (.ref q)] ∧ Z.Warmed39 U_.vm ∧ U_.heap = h0) (fun _ _ _ _ _ => True) (fun _ U_ o_ W_ => ∃ v_ L_, o_ = .returned v_ ∧ own_QI (own_nd nn u o0 o1 o2) h0 n0 v_ W_.heap L_ ∧ FrameEnd U_ o_ W_ L_ ({ frames := 2, cells := 0, slots := 0, locals := 30 } : Room).cells ({ frames := 2, cells := 0, slots := 0, locals := 30 } : Room).slots) := by
  refine MetFree.of_bodySF (plainFor_of_name pn_nd) hisR ?_
  intro pP eE sS mI args below meth cC s₁ Bd hml0 hP hK
  obtain ⟨rfl, hZ, hh⟩ := hP
  have hx := Bd.exec
  have hby := Bd.bytes
  have hml : cC.maxLocals = 4 := hml0
  have hown : sS.vm.findClass own_RG = some mI.cls := by have z := findClass_of_methodNamed Bd.named; exact z
  have hnm := (name_of_methodNamed Bd.named Bd.method).1
  have X0 : Stand pP lL eE ({ frames := 2, cells := 0, slots := 0, locals := 30 } : Room) sS mI #[(.ref g), (.ref q)] below meth cC s₁ [] 0 0 := Stand.of_body Bd
  have e0 : s₁.heap = h0 := by rw [← hh, Bd.state]; rfl
  have N0 := Fr.nil n0
  obtain ⟨G, hG, hst, hend⟩ := own_abs pP eE below sS (own_QI (own_nd nn u o0 o1 o2) h0 n0) ({ frames := 2, cells := 0, slots := 0, locals := 30 } : Room).cells ({ frames := 2, cells := 0, slots := 0, locals := 30 } : Room).slots
  refine hG (S := s₁.setTop (entryFrame mI #[(.ref g), (.ref q)] 4)) (hst (fun t_ kt_ => castTop (ef_nd mI g q) kt_) ?_)
  rcases hin with rfl | rfl | rfl | rfl
  ·
    have V_ir : Arv Z h0 ir ki (.object "java/lang/String") (0 : Int32) [] .null := V_ir
    show G (s₁.setTop (mkF mI 0 #[.val (.ref g), .val (.ref q), .unset, .unset] []))
    refine o_iconst hst X0.here hx (hb hby dnd_0) (pc' := 1) rfl (z := (-1 : Int32)) rfl ?_
    refine o_istoreN hst X0.here hx (hb hby dnd_1) (pc' := 2) rfl (Lt := #[.val (.ref g), .val (.ref q), .val (.int (-1 : Int32)), .unset]) rfl ?_
    refine o_iconst hst X0.here hx (hb hby dnd_2) (pc' := 3) rfl (z := (0 : Int32)) rfl ?_
    refine o_istoreN hst X0.here hx (hb hby dnd_3) (pc' := 4) rfl (Lt := #[.val (.ref g), .val (.ref q), .val (.int (-1 : Int32)), .val (.int (0 : Int32))]) rfl ?_
    refine o_iloadN hst X0.here hx (hb hby dnd_4) (pc' := 5) rfl rfl ?_
    refine o_aloadN hst X0.here hx (hb hby dnd_5) (pc' := 6) rfl rfl rfl ?_
    obtain ⟨T_1, X_1, e_1, st_1⟩ := getF X0 hx hZ hown (host := "") (Or.inl (own_w146 hw)) Via.refl e0 F_iris_g (g := (mkF mI 6 #[.val (.ref g), .val (.ref q), .val (.int (-1 : Int32)), .val (.int (0 : Int32))] [(.ref g), (.int (0 : Int32))])) rfl rfl (hb hby dnd_6)
    refine hst st_1 ?_
    show G (T_1.setTop (mkF mI 9 #[.val (.ref g), .val (.ref q), .val (.int (-1 : Int32)), .val (.int (0 : Int32))] [(.ref ir), (.int (0 : Int32))]))
    obtain ⟨cl_2, Ar_2, -, S_2, M_2, -, -⟩ := id V_ir
    refine hst (X_1.arraylength hx (by rw [e_1]; exact Ar_2.1) (State.isArrayOf_alike hZ.alike Ar_2.2.1) (g := (mkF mI 9 #[.val (.ref g), .val (.ref q), .val (.int (-1 : Int32)), .val (.int (0 : Int32))] [(.ref ir), (.int (0 : Int32))])) rfl rfl (hb hby dnd_9)) ?_
    rw [len_of S_2 M_2]
    show G (T_1.setTop (mkF mI 10 #[.val (.ref g), .val (.ref q), .val (.int (-1 : Int32)), .val (.int (0 : Int32))] [(.int (0 : Int32)), (.int (0 : Int32))]))
    have hl0 : ¬ ((0 : Int32) < (0 : Int32)) := by decide
    refine hst (fun _ kt => XS.icmpYes X_1.here hx rfl (pc0 := 10) (pc' := 38) rfl (hb hby dnd_10) rfl (flt hl0).2.1 (by decide) (by decide) kt) ?_
    show G (T_1.setTop (mkF mI 38 #[.val (.ref g), .val (.ref q), .val (.int (-1 : Int32)), .val (.int (0 : Int32))] []))
    refine o_iloadN hst X_1.here hx (hb hby dnd_38) (pc' := 39) rfl rfl ?_
    exact hend (own_goRet X_1 hx Bd.returns rfl (Or.inl ⟨rfl, by simp, _, rfl⟩) (hb hby dnd_39) Bd.notSynchronized (by rw [e_1]; exact ⟨by simp [own_nd], N0, rfl⟩) (by decide) (by decide))
  ·
    have V_ir : Arv Z h0 ir ki (.object "java/lang/String") (1 : Int32) [r0] .null := V_ir
    show G (s₁.setTop (mkF mI 0 #[.val (.ref g), .val (.ref q), .unset, .unset] []))
    refine o_iconst hst X0.here hx (hb hby dnd_0) (pc' := 1) rfl (z := (-1 : Int32)) rfl ?_
    refine o_istoreN hst X0.here hx (hb hby dnd_1) (pc' := 2) rfl (Lt := #[.val (.ref g), .val (.ref q), .val (.int (-1 : Int32)), .unset]) rfl ?_
    refine o_iconst hst X0.here hx (hb hby dnd_2) (pc' := 3) rfl (z := (0 : Int32)) rfl ?_
    refine o_istoreN hst X0.here hx (hb hby dnd_3) (pc' := 4) rfl (Lt := #[.val (.ref g), .val (.ref q), .val (.int (-1 : Int32)), .val (.int (0 : Int32))]) rfl ?_
    refine o_iloadN hst X0.here hx (hb hby dnd_4) (pc' := 5) rfl rfl ?_
    refine o_aloadN hst X0.here hx (hb hby dnd_5) (pc' := 6) rfl rfl rfl ?_
    obtain ⟨T_3, X_3, e_3, st_3⟩ := getF X0 hx hZ hown (host := "") (Or.inl (own_w146 hw)) Via.refl e0 F_iris_g (g := (mkF mI 6 #[.val (.ref g), .val (.ref q), .val (.int (-1 : Int32)), .val (.int (0 : Int32))] [(.ref g), (.int (0 : Int32))])) rfl rfl (hb hby dnd_6)
    refine hst st_3 ?_
    show G (T_3.setTop (mkF mI 9 #[.val (.ref g), .val (.ref q), .val (.int (-1 : Int32)), .val (.int (0 : Int32))] [(.ref ir), (.int (0 : Int32))]))
    obtain ⟨cl_4, Ar_4, -, S_4, M_4, -, -⟩ := id V_ir
    refine hst (X_3.arraylength hx (by rw [e_3]; exact Ar_4.1) (State.isArrayOf_alike hZ.alike Ar_4.2.1) (g := (mkF mI 9 #[.val (.ref g), .val (.ref q), .val (.int (-1 : Int32)), .val (.int (0 : Int32))] [(.ref ir), (.int (0 : Int32))])) rfl rfl (hb hby dnd_9)) ?_
    rw [len_of S_4 M_4]
    show G (T_3.setTop (mkF mI 10 #[.val (.ref g), .val (.ref q), .val (.int (-1 : Int32)), .val (.int (0 : Int32))] [(.int (1 : Int32)), (.int (0 : Int32))]))
    have hl0 : (0 : Int32) < (1 : Int32) := by decide
    refine hst (fun _ kt => XS.icmpNo X_3.here hx rfl (hb hby dnd_10) rfl (tlt hl0).2.1 kt) ?_
    show G (T_3.setTop (mkF mI 13 #[.val (.ref g), .val (.ref q), .val (.int (-1 : Int32)), .val (.int (0 : Int32))] []))
    refine o_iloadN hst X_3.here hx (hb hby dnd_13) (pc' := 14) rfl rfl ?_
    have hm0 : (-1 : Int32) < (0 : Int32) := by decide
    refine hst (fun _ kt => XS.ifNo X_3.here hx rfl (hb hby dnd_14) rfl ((if0 _ _).trans (tlt hm0).2.1) kt) ?_
    show G (T_3.setTop (mkF mI 17 #[.val (.ref g), .val (.ref q), .val (.int (-1 : Int32)), .val (.int (0 : Int32))] []))
    refine o_aloadN hst X_3.here hx (hb hby dnd_17) (pc' := 18) rfl rfl rfl ?_
    refine o_aloadN hst X_3.here hx (hb hby dnd_18) (pc' := 19) rfl rfl rfl ?_
    obtain ⟨T_5, X_5, e_5, st_5⟩ := getF X_3 hx hZ hown (host := "") (Or.inl (own_w146 hw)) Via.refl e_3 F_iris_g (g := (mkF mI 19 #[.val (.ref g), .val (.ref q), .val (.int (-1 : Int32)), .val (.int (0 : Int32))] [(.ref g), (.ref q)])) rfl rfl (hb hby dnd_19)
    refine hst st_5 ?_
    show G (T_5.setTop (mkF mI 22 #[.val (.ref g), .val (.ref q), .val (.int (-1 : Int32)), .val (.int (0 : Int32))] [(.ref ir), (.ref q)]))
    refine o_iloadN hst X_5.here hx (hb hby dnd_22) (pc' := 23) rfl rfl ?_
    obtain ⟨cl_6, Ar_6, -, S_6, M_6, Hs_6, -⟩ := id V_ir
    have hin_6 : ¬ ((0 : Int32) < 0 ∨ cl_6.slots.size ≤ ((0 : Int32)).toNatClampNeg) := inb_of S_6 ⟨by decide, by decide⟩
    have hat_6 : cl_6.slots[((0 : Int32)).toNatClampNeg]? = some r0 := Has.at Hs_6 hin_6 rfl
    refine hst (X_5.aaload hx (j := (0 : Int32)) (v := r0) (by rw [e_5]; exact Ar_6.1) (State.isArrayOf_alike hZ.alike Ar_6.2.1) rfl Ar_6.2.2 hin_6 hat_6 (g := (mkF mI 23 #[.val (.ref g), .val (.ref q), .val (.int (-1 : Int32)), .val (.int (0 : Int32))] [(.int (0 : Int32)), (.ref ir), (.ref q)])) rfl rfl (hb hby dnd_23)) ?_
    show G (T_5.setTop (mkF mI 24 #[.val (.ref g), .val (.ref q), .val (.int (-1 : Int32)), .val (.int (0 : Int32))] [r0, (.ref q)]))
    have J0 : ∀ (ev : Int32) (Tj_7 : State) (lj_7 : List Loc) (Xj_7 : Stand pP lL eE ({ frames := 2, cells := 0, slots := 0, locals := 30 } : Room) sS mI #[(.ref g), (.ref q)] below meth cC Tj_7 lj_7 0 0) (ej_7 : Tj_7.heap = h0) (Nj_7 : Fr n0 lj_7) (hev : ev = own_m u o0), G (Tj_7.setTop (mkF mI 27 #[.val (.ref g), .val (.ref q), .val (.int (-1 : Int32)), .val (.int (0 : Int32))] [(.int ev)])) := by
      intro ev Tj_7 lj_7 Xj_7 ej_7 Nj_7 hev
      show G (Tj_7.setTop (mkF mI 27 #[.val (.ref g), .val (.ref q), .val (.int (-1 : Int32)), .val (.int (0 : Int32))] [(.int ev)]))
      by_cases hz0 : ev = (0 : Int32)
      ·
        refine hst (fun _ kt => XS.ifYes Xj_7.here hx rfl (pc0 := 27) (pc' := 32) rfl (hb hby dnd_27) rfl ((if0 _ _).trans (teq hz0).1) (by decide) (by decide) kt) ?_
        show G (Tj_7.setTop (mkF mI 32 #[.val (.ref g), .val (.ref q), .val (.int (-1 : Int32)), .val (.int (0 : Int32))] []))
        rw [hev] at hz0
        refine o_iinc hst Xj_7.here hx (hb hby dnd_32) (pc' := 35) rfl rfl (Lt := #[.val (.ref g), .val (.ref q), .val (.int (-1 : Int32)), .val (.int ((0 : Int32) + (1 : Int32)))]) rfl ?_
        rw [show ((0 : Int32) + (1 : Int32)) = (1 : Int32) from by decide]
        show G (Tj_7.setTop (mkF mI 35 #[.val (.ref g), .val (.ref q), .val (.int (-1 : Int32)), .val (.int (1 : Int32))] []))
        refine o_goto hst Xj_7.here hx (hb hby dnd_35) (by decide) (pc' := 4) (by decide) ?_
        refine o_iloadN hst Xj_7.here hx (hb hby dnd_4) (pc' := 5) rfl rfl ?_
        refine o_aloadN hst Xj_7.here hx (hb hby dnd_5) (pc' := 6) rfl rfl rfl ?_
        obtain ⟨T_8, X_8, e_8, st_8⟩ := getF Xj_7 hx hZ hown (host := "") (Or.inl (own_w146 hw)) Via.refl ej_7 F_iris_g (g := (mkF mI 6 #[.val (.ref g), .val (.ref q), .val (.int (-1 : Int32)), .val (.int (1 : Int32))] [(.ref g), (.int (1 : Int32))])) rfl rfl (hb hby dnd_6)
        refine hst st_8 ?_
        show G (T_8.setTop (mkF mI 9 #[.val (.ref g), .val (.ref q), .val (.int (-1 : Int32)), .val (.int (1 : Int32))] [(.ref ir), (.int (1 : Int32))]))
        obtain ⟨cl_9, Ar_9, -, S_9, M_9, -, -⟩ := id V_ir
        refine hst (X_8.arraylength hx (by rw [e_8]; exact Ar_9.1) (State.isArrayOf_alike hZ.alike Ar_9.2.1) (g := (mkF mI 9 #[.val (.ref g), .val (.ref q), .val (.int (-1 : Int32)), .val (.int (1 : Int32))] [(.ref ir), (.int (1 : Int32))])) rfl rfl (hb hby dnd_9)) ?_
        rw [len_of S_9 M_9]
        show G (T_8.setTop (mkF mI 10 #[.val (.ref g), .val (.ref q), .val (.int (-1 : Int32)), .val (.int (1 : Int32))] [(.int (1 : Int32)), (.int (1 : Int32))]))
        have hl1 : ¬ ((1 : Int32) < (1 : Int32)) := by decide
        refine hst (fun _ kt => XS.icmpYes X_8.here hx rfl (pc0 := 10) (pc' := 38) rfl (hb hby dnd_10) rfl (flt hl1).2.1 (by decide) (by decide) kt) ?_
        show G (T_8.setTop (mkF mI 38 #[.val (.ref g), .val (.ref q), .val (.int (-1 : Int32)), .val (.int (1 : Int32))] []))
        refine o_iloadN hst X_8.here hx (hb hby dnd_38) (pc' := 39) rfl rfl ?_
        exact hend (own_goRet X_8 hx Bd.returns rfl (Or.inl ⟨rfl, by simp, _, rfl⟩) (hb hby dnd_39) Bd.notSynchronized (by rw [e_8]; exact ⟨by simp [own_nd, hz0], Nj_7, rfl⟩) (by decide) (by decide))
      ·
        refine hst (fun _ kt => XS.ifNo Xj_7.here hx rfl (hb hby dnd_27) rfl ((if0 _ _).trans (feq hz0).1) kt) ?_
        show G (Tj_7.setTop (mkF mI 30 #[.val (.ref g), .val (.ref q), .val (.int (-1 : Int32)), .val (.int (0 : Int32))] []))
        rw [hev] at hz0
        refine o_iloadN hst Xj_7.here hx (hb hby dnd_30) (pc' := 31) rfl rfl ?_
        refine o_istoreN hst Xj_7.here hx (hb hby dnd_31) (pc' := 32) rfl (Lt := #[.val (.ref g), .val (.ref q), .val (.int (0 : Int32)), .val (.int (0 : Int32))]) rfl ?_
        refine o_iinc hst Xj_7.here hx (hb hby dnd_32) (pc' := 35) rfl rfl (Lt := #[.val (.ref g), .val (.ref q), .val (.int (0 : Int32)), .val (.int ((0 : Int32) + (1 : Int32)))]) rfl ?_
        rw [show ((0 : Int32) + (1 : Int32)) = (1 : Int32) from by decide]
        show G (Tj_7.setTop (mkF mI 35 #[.val (.ref g), .val (.ref q), .val (.int (0 : Int32)), .val (.int (1 : Int32))] []))
        refine o_goto hst Xj_7.here hx (hb hby dnd_35) (by decide) (pc' := 4) (by decide) ?_
        refine o_iloadN hst Xj_7.here hx (hb hby dnd_4) (pc' := 5) rfl rfl ?_
        refine o_aloadN hst Xj_7.here hx (hb hby dnd_5) (pc' := 6) rfl rfl rfl ?_
        obtain ⟨T_10, X_10, e_10, st_10⟩ := getF Xj_7 hx hZ hown (host := "") (Or.inl (own_w146 hw)) Via.refl ej_7 F_iris_g (g := (mkF mI 6 #[.val (.ref g), .val (.ref q), .val (.int (0 : Int32)), .val (.int (1 : Int32))] [(.ref g), (.int (1 : Int32))])) rfl rfl (hb hby dnd_6)
        refine hst st_10 ?_
        show G (T_10.setTop (mkF mI 9 #[.val (.ref g), .val (.ref q), .val (.int (0 : Int32)), .val (.int (1 : Int32))] [(.ref ir), (.int (1 : Int32))]))
        obtain ⟨cl_11, Ar_11, -, S_11, M_11, -, -⟩ := id V_ir
        refine hst (X_10.arraylength hx (by rw [e_10]; exact Ar_11.1) (State.isArrayOf_alike hZ.alike Ar_11.2.1) (g := (mkF mI 9 #[.val (.ref g), .val (.ref q), .val (.int (0 : Int32)), .val (.int (1 : Int32))] [(.ref ir), (.int (1 : Int32))])) rfl rfl (hb hby dnd_9)) ?_
        rw [len_of S_11 M_11]
        show G (T_10.setTop (mkF mI 10 #[.val (.ref g), .val (.ref q), .val (.int (0 : Int32)), .val (.int (1 : Int32))] [(.int (1 : Int32)), (.int (1 : Int32))]))
        have hx0 : ¬ ((1 : Int32) < (1 : Int32)) := by decide
        refine hst (fun _ kt => XS.icmpYes X_10.here hx rfl (pc0 := 10) (pc' := 38) rfl (hb hby dnd_10) rfl (flt hx0).2.1 (by decide) (by decide) kt) ?_
        show G (T_10.setTop (mkF mI 38 #[.val (.ref g), .val (.ref q), .val (.int (0 : Int32)), .val (.int (1 : Int32))] []))
        refine o_iloadN hst X_10.here hx (hb hby dnd_38) (pc' := 39) rfl rfl ?_
        exact hend (own_goRet X_10 hx Bd.returns rfl (Or.inl ⟨rfl, by simp, _, rfl⟩) (hb hby dnd_39) Bd.notSynchronized (by rw [e_10]; exact ⟨by simp [own_nd, hz0], Nj_7, rfl⟩) (by decide) (by decide))
    cases ho0 : o0 with
    | none =>
      have er0 : r0 = .null := by have z := C_s0; rw [ho0] at z; exact z
      rw [er0]
      show G (T_5.setTop (mkF mI 24 #[.val (.ref g), .val (.ref q), .val (.int (-1 : Int32)), .val (.int (0 : Int32))] [.null, (.ref q)]))
      obtain ⟨cq_12, kq_12, q_12a, q_12b, q_12c⟩ := isOf hZ e_5 E_q
      obtain ⟨_, _, ⟨T_12, L_12, k_12, n_12⟩, -, X_12, ⟨Lc_12, hQ_12, l_12, y_12, z_12⟩, st_12⟩ := X_5.virtualBack hx (y := (⟨"java/lang/String", "equals", "(Ljava/lang/Object;)Z"⟩ : MethodName)) (z := (⟨"java/lang/String", "equals", "(Ljava/lang/Object;)Z"⟩ : MethodName)) hown (mvT hZ (own_w329 hw)) (mvT hZ (own_w330 hw)) (notFace_of_selects (args := #[]) (mvT hZ (own_w332 hw))) (mvT hZ (own_w332 hw)) (mvT hZ (own_w331 hw)) (by decide) (backOf (W := 0) (rmen lL Z a0 hw [] q  h0 n0 Z0) hZ (own_w333 hw) (own_w8 hw) (by decide) (by decide)) q_12a q_12c (g := (mkF mI 24 #[.val (.ref g), .val (.ref q), .val (.int (-1 : Int32)), .val (.int (0 : Int32))] [.null, (.ref q)])) rfl (by rw [hml]; rfl) (Steps.refl _) (argsL := [.null]) (rest := []) (lenOf pd_22 rfl) rfl (by show 2 * 0 + _ ≤ _; exact Nat.le_of_eq rfl) (hb hby dnd_24) (fun _ _ => ⟨rfl, e_5, (by decide : 0 + 0 ≤ _), (by decide : 0 + 0 ≤ _)⟩)
      dsimp only [Pt.U, Pt.locs, Pt.cells, Pt.slots] at X_12 l_12 y_12 z_12 st_12 hQ_12
      subst l_12 y_12 z_12
      obtain ⟨rfl, N_12q, eh_12⟩ := hQ_12
      have N_12 := Fr.app N0 N_12q
      refine hst (fun _ kt => st_12.trans kt) ?_
      show G (T_12.setTop (mkF mI 27 #[.val (.ref g), .val (.ref q), .val (.int (-1 : Int32)), .val (.int (0 : Int32))] [(.int (0 : Int32))]))
      exact J0 _ T_12 _ X_12 eh_12 N_12 (by rw [ho0]; rfl)
    | some wv =>
      obtain ⟨sa, sb, k_sb, er0, hsa, hsb, E_sa, C_sa, V_sa, A_sb⟩ : own_St Z h0 B0 r0 (some wv) := by have z := C_s0; rw [ho0] at z; exact z
      rw [er0]
      show G (T_5.setTop (mkF mI 24 #[.val (.ref g), .val (.ref q), .val (.int (-1 : Int32)), .val (.int (0 : Int32))] [(.ref sa), (.ref q)]))
      obtain ⟨cq_13, kq_13, q_13a, q_13b, q_13c⟩ := isOf hZ e_5 E_q
      obtain ⟨_, _, ⟨T_13, L_13, k_13, n_13⟩, -, X_13, ⟨Lc_13, hQ_13, l_13, y_13, z_13⟩, st_13⟩ := X_5.virtualBack hx (y := (⟨"java/lang/String", "equals", "(Ljava/lang/Object;)Z"⟩ : MethodName)) (z := (⟨"java/lang/String", "equals", "(Ljava/lang/Object;)Z"⟩ : MethodName)) hown (mvT hZ (own_w329 hw)) (mvT hZ (own_w330 hw)) (notFace_of_selects (args := #[]) (mvT hZ (own_w332 hw))) (mvT hZ (own_w332 hw)) (mvT hZ (own_w331 hw)) (by decide) (backOf (W := 0) (rmeq lL Z a0 hw [] q sa d sb k_d k_sb u wv cz h0 n0 Z0 (fun z => absurd hsa (by subst z; exact Nat.not_lt.mpr hBq)) E_q F_coder_q F_value_q V_d E_sa C_sa V_sa A_sb S_c hcz) hZ (own_w333 hw) (own_w8 hw) (by decide) (by decide)) q_13a q_13c (g := (mkF mI 24 #[.val (.ref g), .val (.ref q), .val (.int (-1 : Int32)), .val (.int (0 : Int32))] [(.ref sa), (.ref q)])) rfl (by rw [hml]; rfl) (Steps.refl _) (argsL := [(.ref sa)]) (rest := []) (lenOf pd_22 rfl) rfl (by show 2 * 0 + _ ≤ _; exact Nat.le_of_eq rfl) (hb hby dnd_24) (fun _ _ => ⟨rfl, e_5, (by decide : 0 + 0 ≤ _), (by decide : 0 + 0 ≤ _)⟩)
      dsimp only [Pt.U, Pt.locs, Pt.cells, Pt.slots] at X_13 l_13 y_13 z_13 st_13 hQ_13
      subst l_13 y_13 z_13
      obtain ⟨rfl, N_13q, eh_13⟩ := hQ_13
      have N_13 := Fr.app N0 N_13q
      refine hst (fun _ kt => st_13.trans kt) ?_
      show G (T_13.setTop (mkF mI 27 #[.val (.ref g), .val (.ref q), .val (.int (-1 : Int32)), .val (.int (0 : Int32))] [(.int (own_eq u wv))]))
      exact J0 _ T_13 _ X_13 eh_13 N_13 (by rw [ho0]; rfl)
  ·
    have V_ir : Arv Z h0 ir ki (.object "java/lang/String") (2 : Int32) [r0, r1] .null := V_ir
    show G (s₁.setTop (mkF mI 0 #[.val (.ref g), .val (.ref q), .unset, .unset] []))
    refine o_iconst hst X0.here hx (hb hby dnd_0) (pc' := 1) rfl (z := (-1 : Int32)) rfl ?_
    refine o_istoreN hst X0.here hx (hb hby dnd_1) (pc' := 2) rfl (Lt := #[.val (.ref g), .val (.ref q), .val (.int (-1 : Int32)), .unset]) rfl ?_
    refine o_iconst hst X0.here hx (hb hby dnd_2) (pc' := 3) rfl (z := (0 : Int32)) rfl ?_
    refine o_istoreN hst X0.here hx (hb hby dnd_3) (pc' := 4) rfl (Lt := #[.val (.ref g), .val (.ref q), .val (.int (-1 : Int32)), .val (.int (0 : Int32))]) rfl ?_
    refine o_iloadN hst X0.here hx (hb hby dnd_4) (pc' := 5) rfl rfl ?_
    refine o_aloadN hst X0.here hx (hb hby dnd_5) (pc' := 6) rfl rfl rfl ?_
    obtain ⟨T_14, X_14, e_14, st_14⟩ := getF X0 hx hZ hown (host := "") (Or.inl (own_w146 hw)) Via.refl e0 F_iris_g (g := (mkF mI 6 #[.val (.ref g), .val (.ref q), .val (.int (-1 : Int32)), .val (.int (0 : Int32))] [(.ref g), (.int (0 : Int32))])) rfl rfl (hb hby dnd_6)
    refine hst st_14 ?_
    show G (T_14.setTop (mkF mI 9 #[.val (.ref g), .val (.ref q), .val (.int (-1 : Int32)), .val (.int (0 : Int32))] [(.ref ir), (.int (0 : Int32))]))
    obtain ⟨cl_15, Ar_15, -, S_15, M_15, -, -⟩ := id V_ir
    refine hst (X_14.arraylength hx (by rw [e_14]; exact Ar_15.1) (State.isArrayOf_alike hZ.alike Ar_15.2.1) (g := (mkF mI 9 #[.val (.ref g), .val (.ref q), .val (.int (-1 : Int32)), .val (.int (0 : Int32))] [(.ref ir), (.int (0 : Int32))])) rfl rfl (hb hby dnd_9)) ?_
    rw [len_of S_15 M_15]
    show G (T_14.setTop (mkF mI 10 #[.val (.ref g), .val (.ref q), .val (.int (-1 : Int32)), .val (.int (0 : Int32))] [(.int (2 : Int32)), (.int (0 : Int32))]))
    have hl0 : (0 : Int32) < (2 : Int32) := by decide
    refine hst (fun _ kt => XS.icmpNo X_14.here hx rfl (hb hby dnd_10) rfl (tlt hl0).2.1 kt) ?_
    show G (T_14.setTop (mkF mI 13 #[.val (.ref g), .val (.ref q), .val (.int (-1 : Int32)), .val (.int (0 : Int32))] []))
    refine o_iloadN hst X_14.here hx (hb hby dnd_13) (pc' := 14) rfl rfl ?_
    have hm0 : (-1 : Int32) < (0 : Int32) := by decide
    refine hst (fun _ kt => XS.ifNo X_14.here hx rfl (hb hby dnd_14) rfl ((if0 _ _).trans (tlt hm0).2.1) kt) ?_
    show G (T_14.setTop (mkF mI 17 #[.val (.ref g), .val (.ref q), .val (.int (-1 : Int32)), .val (.int (0 : Int32))] []))
    refine o_aloadN hst X_14.here hx (hb hby dnd_17) (pc' := 18) rfl rfl rfl ?_
    refine o_aloadN hst X_14.here hx (hb hby dnd_18) (pc' := 19) rfl rfl rfl ?_
    obtain ⟨T_16, X_16, e_16, st_16⟩ := getF X_14 hx hZ hown (host := "") (Or.inl (own_w146 hw)) Via.refl e_14 F_iris_g (g := (mkF mI 19 #[.val (.ref g), .val (.ref q), .val (.int (-1 : Int32)), .val (.int (0 : Int32))] [(.ref g), (.ref q)])) rfl rfl (hb hby dnd_19)
    refine hst st_16 ?_
    show G (T_16.setTop (mkF mI 22 #[.val (.ref g), .val (.ref q), .val (.int (-1 : Int32)), .val (.int (0 : Int32))] [(.ref ir), (.ref q)]))
    refine o_iloadN hst X_16.here hx (hb hby dnd_22) (pc' := 23) rfl rfl ?_
    obtain ⟨cl_17, Ar_17, -, S_17, M_17, Hs_17, -⟩ := id V_ir
    have hin_17 : ¬ ((0 : Int32) < 0 ∨ cl_17.slots.size ≤ ((0 : Int32)).toNatClampNeg) := inb_of S_17 ⟨by decide, by decide⟩
    have hat_17 : cl_17.slots[((0 : Int32)).toNatClampNeg]? = some r0 := Has.at Hs_17 hin_17 rfl
    refine hst (X_16.aaload hx (j := (0 : Int32)) (v := r0) (by rw [e_16]; exact Ar_17.1) (State.isArrayOf_alike hZ.alike Ar_17.2.1) rfl Ar_17.2.2 hin_17 hat_17 (g := (mkF mI 23 #[.val (.ref g), .val (.ref q), .val (.int (-1 : Int32)), .val (.int (0 : Int32))] [(.int (0 : Int32)), (.ref ir), (.ref q)])) rfl rfl (hb hby dnd_23)) ?_
    show G (T_16.setTop (mkF mI 24 #[.val (.ref g), .val (.ref q), .val (.int (-1 : Int32)), .val (.int (0 : Int32))] [r0, (.ref q)]))
    have J0 : ∀ (ev : Int32) (Tj_18 : State) (lj_18 : List Loc) (Xj_18 : Stand pP lL eE ({ frames := 2, cells := 0, slots := 0, locals := 30 } : Room) sS mI #[(.ref g), (.ref q)] below meth cC Tj_18 lj_18 0 0) (ej_18 : Tj_18.heap = h0) (Nj_18 : Fr n0 lj_18) (hev : ev = own_m u o0), G (Tj_18.setTop (mkF mI 27 #[.val (.ref g), .val (.ref q), .val (.int (-1 : Int32)), .val (.int (0 : Int32))] [(.int ev)])) := by
      intro ev Tj_18 lj_18 Xj_18 ej_18 Nj_18 hev
      show G (Tj_18.setTop (mkF mI 27 #[.val (.ref g), .val (.ref q), .val (.int (-1 : Int32)), .val (.int (0 : Int32))] [(.int ev)]))
      by_cases hz0 : ev = (0 : Int32)
      ·
        refine hst (fun _ kt => XS.ifYes Xj_18.here hx rfl (pc0 := 27) (pc' := 32) rfl (hb hby dnd_27) rfl ((if0 _ _).trans (teq hz0).1) (by decide) (by decide) kt) ?_
        show G (Tj_18.setTop (mkF mI 32 #[.val (.ref g), .val (.ref q), .val (.int (-1 : Int32)), .val (.int (0 : Int32))] []))
        rw [hev] at hz0
        refine o_iinc hst Xj_18.here hx (hb hby dnd_32) (pc' := 35) rfl rfl (Lt := #[.val (.ref g), .val (.ref q), .val (.int (-1 : Int32)), .val (.int ((0 : Int32) + (1 : Int32)))]) rfl ?_
        rw [show ((0 : Int32) + (1 : Int32)) = (1 : Int32) from by decide]
        show G (Tj_18.setTop (mkF mI 35 #[.val (.ref g), .val (.ref q), .val (.int (-1 : Int32)), .val (.int (1 : Int32))] []))
        refine o_goto hst Xj_18.here hx (hb hby dnd_35) (by decide) (pc' := 4) (by decide) ?_
        refine o_iloadN hst Xj_18.here hx (hb hby dnd_4) (pc' := 5) rfl rfl ?_
        refine o_aloadN hst Xj_18.here hx (hb hby dnd_5) (pc' := 6) rfl rfl rfl ?_
        obtain ⟨T_19, X_19, e_19, st_19⟩ := getF Xj_18 hx hZ hown (host := "") (Or.inl (own_w146 hw)) Via.refl ej_18 F_iris_g (g := (mkF mI 6 #[.val (.ref g), .val (.ref q), .val (.int (-1 : Int32)), .val (.int (1 : Int32))] [(.ref g), (.int (1 : Int32))])) rfl rfl (hb hby dnd_6)
        refine hst st_19 ?_
        show G (T_19.setTop (mkF mI 9 #[.val (.ref g), .val (.ref q), .val (.int (-1 : Int32)), .val (.int (1 : Int32))] [(.ref ir), (.int (1 : Int32))]))
        obtain ⟨cl_20, Ar_20, -, S_20, M_20, -, -⟩ := id V_ir
        refine hst (X_19.arraylength hx (by rw [e_19]; exact Ar_20.1) (State.isArrayOf_alike hZ.alike Ar_20.2.1) (g := (mkF mI 9 #[.val (.ref g), .val (.ref q), .val (.int (-1 : Int32)), .val (.int (1 : Int32))] [(.ref ir), (.int (1 : Int32))])) rfl rfl (hb hby dnd_9)) ?_
        rw [len_of S_20 M_20]
        show G (T_19.setTop (mkF mI 10 #[.val (.ref g), .val (.ref q), .val (.int (-1 : Int32)), .val (.int (1 : Int32))] [(.int (2 : Int32)), (.int (1 : Int32))]))
        have hl1 : (1 : Int32) < (2 : Int32) := by decide
        refine hst (fun _ kt => XS.icmpNo X_19.here hx rfl (hb hby dnd_10) rfl (tlt hl1).2.1 kt) ?_
        show G (T_19.setTop (mkF mI 13 #[.val (.ref g), .val (.ref q), .val (.int (-1 : Int32)), .val (.int (1 : Int32))] []))
        refine o_iloadN hst X_19.here hx (hb hby dnd_13) (pc' := 14) rfl rfl ?_
        have hm1 : (-1 : Int32) < (0 : Int32) := by decide
        refine hst (fun _ kt => XS.ifNo X_19.here hx rfl (hb hby dnd_14) rfl ((if0 _ _).trans (tlt hm1).2.1) kt) ?_
        show G (T_19.setTop (mkF mI 17 #[.val (.ref g), .val (.ref q), .val (.int (-1 : Int32)), .val (.int (1 : Int32))] []))
        refine o_aloadN hst X_19.here hx (hb hby dnd_17) (pc' := 18) rfl rfl rfl ?_
        refine o_aloadN hst X_19.here hx (hb hby dnd_18) (pc' := 19) rfl rfl rfl ?_
        obtain ⟨T_21, X_21, e_21, st_21⟩ := getF X_19 hx hZ hown (host := "") (Or.inl (own_w146 hw)) Via.refl e_19 F_iris_g (g := (mkF mI 19 #[.val (.ref g), .val (.ref q), .val (.int (-1 : Int32)), .val (.int (1 : Int32))] [(.ref g), (.ref q)])) rfl rfl (hb hby dnd_19)
        refine hst st_21 ?_
        show G (T_21.setTop (mkF mI 22 #[.val (.ref g), .val (.ref q), .val (.int (-1 : Int32)), .val (.int (1 : Int32))] [(.ref ir), (.ref q)]))
        refine o_iloadN hst X_21.here hx (hb hby dnd_22) (pc' := 23) rfl rfl ?_
        obtain ⟨cl_22, Ar_22, -, S_22, M_22, Hs_22, -⟩ := id V_ir
        have hin_22 : ¬ ((1 : Int32) < 0 ∨ cl_22.slots.size ≤ ((1 : Int32)).toNatClampNeg) := inb_of S_22 ⟨by decide, by decide⟩
        have hat_22 : cl_22.slots[((1 : Int32)).toNatClampNeg]? = some r1 := Has.at Hs_22 hin_22 rfl
        refine hst (X_21.aaload hx (j := (1 : Int32)) (v := r1) (by rw [e_21]; exact Ar_22.1) (State.isArrayOf_alike hZ.alike Ar_22.2.1) rfl Ar_22.2.2 hin_22 hat_22 (g := (mkF mI 23 #[.val (.ref g), .val (.ref q), .val (.int (-1 : Int32)), .val (.int (1 : Int32))] [(.int (1 : Int32)), (.ref ir), (.ref q)])) rfl rfl (hb hby dnd_23)) ?_
        show G (T_21.setTop (mkF mI 24 #[.val (.ref g), .val (.ref q), .val (.int (-1 : Int32)), .val (.int (1 : Int32))] [r1, (.ref q)]))
        have J1 : ∀ (ev : Int32) (Tj_23 : State) (lj_23 : List Loc) (Xj_23 : Stand pP lL eE ({ frames := 2, cells := 0, slots := 0, locals := 30 } : Room) sS mI #[(.ref g), (.ref q)] below meth cC Tj_23 lj_23 0 0) (ej_23 : Tj_23.heap = h0) (Nj_23 : Fr n0 lj_23) (hev : ev = own_m u o1), G (Tj_23.setTop (mkF mI 27 #[.val (.ref g), .val (.ref q), .val (.int (-1 : Int32)), .val (.int (1 : Int32))] [(.int ev)])) := by
          intro ev Tj_23 lj_23 Xj_23 ej_23 Nj_23 hev
          show G (Tj_23.setTop (mkF mI 27 #[.val (.ref g), .val (.ref q), .val (.int (-1 : Int32)), .val (.int (1 : Int32))] [(.int ev)]))
          by_cases hz1 : ev = (0 : Int32)
          ·
            refine hst (fun _ kt => XS.ifYes Xj_23.here hx rfl (pc0 := 27) (pc' := 32) rfl (hb hby dnd_27) rfl ((if0 _ _).trans (teq hz1).1) (by decide) (by decide) kt) ?_
            show G (Tj_23.setTop (mkF mI 32 #[.val (.ref g), .val (.ref q), .val (.int (-1 : Int32)), .val (.int (1 : Int32))] []))
            rw [hev] at hz1
            refine o_iinc hst Xj_23.here hx (hb hby dnd_32) (pc' := 35) rfl rfl (Lt := #[.val (.ref g), .val (.ref q), .val (.int (-1 : Int32)), .val (.int ((1 : Int32) + (1 : Int32)))]) rfl ?_
            rw [show ((1 : Int32) + (1 : Int32)) = (2 : Int32) from by decide]
            show G (Tj_23.setTop (mkF mI 35 #[.val (.ref g), .val (.ref q), .val (.int (-1 : Int32)), .val (.int (2 : Int32))] []))
            refine o_goto hst Xj_23.here hx (hb hby dnd_35) (by decide) (pc' := 4) (by decide) ?_
            refine o_iloadN hst Xj_23.here hx (hb hby dnd_4) (pc' := 5) rfl rfl ?_
            refine o_aloadN hst Xj_23.here hx (hb hby dnd_5) (pc' := 6) rfl rfl rfl ?_
            obtain ⟨T_24, X_24, e_24, st_24⟩ := getF Xj_23 hx hZ hown (host := "") (Or.inl (own_w146 hw)) Via.refl ej_23 F_iris_g (g := (mkF mI 6 #[.val (.ref g), .val (.ref q), .val (.int (-1 : Int32)), .val (.int (2 : Int32))] [(.ref g), (.int (2 : Int32))])) rfl rfl (hb hby dnd_6)
            refine hst st_24 ?_
            show G (T_24.setTop (mkF mI 9 #[.val (.ref g), .val (.ref q), .val (.int (-1 : Int32)), .val (.int (2 : Int32))] [(.ref ir), (.int (2 : Int32))]))
            obtain ⟨cl_25, Ar_25, -, S_25, M_25, -, -⟩ := id V_ir
            refine hst (X_24.arraylength hx (by rw [e_24]; exact Ar_25.1) (State.isArrayOf_alike hZ.alike Ar_25.2.1) (g := (mkF mI 9 #[.val (.ref g), .val (.ref q), .val (.int (-1 : Int32)), .val (.int (2 : Int32))] [(.ref ir), (.int (2 : Int32))])) rfl rfl (hb hby dnd_9)) ?_
            rw [len_of S_25 M_25]
            show G (T_24.setTop (mkF mI 10 #[.val (.ref g), .val (.ref q), .val (.int (-1 : Int32)), .val (.int (2 : Int32))] [(.int (2 : Int32)), (.int (2 : Int32))]))
            have hl2 : ¬ ((2 : Int32) < (2 : Int32)) := by decide
            refine hst (fun _ kt => XS.icmpYes X_24.here hx rfl (pc0 := 10) (pc' := 38) rfl (hb hby dnd_10) rfl (flt hl2).2.1 (by decide) (by decide) kt) ?_
            show G (T_24.setTop (mkF mI 38 #[.val (.ref g), .val (.ref q), .val (.int (-1 : Int32)), .val (.int (2 : Int32))] []))
            refine o_iloadN hst X_24.here hx (hb hby dnd_38) (pc' := 39) rfl rfl ?_
            exact hend (own_goRet X_24 hx Bd.returns rfl (Or.inl ⟨rfl, by simp, _, rfl⟩) (hb hby dnd_39) Bd.notSynchronized (by rw [e_24]; exact ⟨by simp [own_nd, hz0, hz1], Nj_23, rfl⟩) (by decide) (by decide))
          ·
            refine hst (fun _ kt => XS.ifNo Xj_23.here hx rfl (hb hby dnd_27) rfl ((if0 _ _).trans (feq hz1).1) kt) ?_
            show G (Tj_23.setTop (mkF mI 30 #[.val (.ref g), .val (.ref q), .val (.int (-1 : Int32)), .val (.int (1 : Int32))] []))
            rw [hev] at hz1
            refine o_iloadN hst Xj_23.here hx (hb hby dnd_30) (pc' := 31) rfl rfl ?_
            refine o_istoreN hst Xj_23.here hx (hb hby dnd_31) (pc' := 32) rfl (Lt := #[.val (.ref g), .val (.ref q), .val (.int (1 : Int32)), .val (.int (1 : Int32))]) rfl ?_
            refine o_iinc hst Xj_23.here hx (hb hby dnd_32) (pc' := 35) rfl rfl (Lt := #[.val (.ref g), .val (.ref q), .val (.int (1 : Int32)), .val (.int ((1 : Int32) + (1 : Int32)))]) rfl ?_
            rw [show ((1 : Int32) + (1 : Int32)) = (2 : Int32) from by decide]
            show G (Tj_23.setTop (mkF mI 35 #[.val (.ref g), .val (.ref q), .val (.int (1 : Int32)), .val (.int (2 : Int32))] []))
            refine o_goto hst Xj_23.here hx (hb hby dnd_35) (by decide) (pc' := 4) (by decide) ?_
            refine o_iloadN hst Xj_23.here hx (hb hby dnd_4) (pc' := 5) rfl rfl ?_
            refine o_aloadN hst Xj_23.here hx (hb hby dnd_5) (pc' := 6) rfl rfl rfl ?_
            obtain ⟨T_26, X_26, e_26, st_26⟩ := getF Xj_23 hx hZ hown (host := "") (Or.inl (own_w146 hw)) Via.refl ej_23 F_iris_g (g := (mkF mI 6 #[.val (.ref g), .val (.ref q), .val (.int (1 : Int32)), .val (.int (2 : Int32))] [(.ref g), (.int (2 : Int32))])) rfl rfl (hb hby dnd_6)
            refine hst st_26 ?_
            show G (T_26.setTop (mkF mI 9 #[.val (.ref g), .val (.ref q), .val (.int (1 : Int32)), .val (.int (2 : Int32))] [(.ref ir), (.int (2 : Int32))]))
            obtain ⟨cl_27, Ar_27, -, S_27, M_27, -, -⟩ := id V_ir
            refine hst (X_26.arraylength hx (by rw [e_26]; exact Ar_27.1) (State.isArrayOf_alike hZ.alike Ar_27.2.1) (g := (mkF mI 9 #[.val (.ref g), .val (.ref q), .val (.int (1 : Int32)), .val (.int (2 : Int32))] [(.ref ir), (.int (2 : Int32))])) rfl rfl (hb hby dnd_9)) ?_
            rw [len_of S_27 M_27]
            show G (T_26.setTop (mkF mI 10 #[.val (.ref g), .val (.ref q), .val (.int (1 : Int32)), .val (.int (2 : Int32))] [(.int (2 : Int32)), (.int (2 : Int32))]))
            have hx1 : ¬ ((2 : Int32) < (2 : Int32)) := by decide
            refine hst (fun _ kt => XS.icmpYes X_26.here hx rfl (pc0 := 10) (pc' := 38) rfl (hb hby dnd_10) rfl (flt hx1).2.1 (by decide) (by decide) kt) ?_
            show G (T_26.setTop (mkF mI 38 #[.val (.ref g), .val (.ref q), .val (.int (1 : Int32)), .val (.int (2 : Int32))] []))
            refine o_iloadN hst X_26.here hx (hb hby dnd_38) (pc' := 39) rfl rfl ?_
            exact hend (own_goRet X_26 hx Bd.returns rfl (Or.inl ⟨rfl, by simp, _, rfl⟩) (hb hby dnd_39) Bd.notSynchronized (by rw [e_26]; exact ⟨by simp [own_nd, hz0, hz1], Nj_23, rfl⟩) (by decide) (by decide))
        cases ho1 : o1 with
        | none =>
          have er1 : r1 = .null := by have z := C_s1; rw [ho1] at z; exact z
          rw [er1]
          show G (T_21.setTop (mkF mI 24 #[.val (.ref g), .val (.ref q), .val (.int (-1 : Int32)), .val (.int (1 : Int32))] [.null, (.ref q)]))
          obtain ⟨cq_28, kq_28, q_28a, q_28b, q_28c⟩ := isOf hZ e_21 E_q
          obtain ⟨_, _, ⟨T_28, L_28, k_28, n_28⟩, -, X_28, ⟨Lc_28, hQ_28, l_28, y_28, z_28⟩, st_28⟩ := X_21.virtualBack hx (y := (⟨"java/lang/String", "equals", "(Ljava/lang/Object;)Z"⟩ : MethodName)) (z := (⟨"java/lang/String", "equals", "(Ljava/lang/Object;)Z"⟩ : MethodName)) hown (mvT hZ (own_w329 hw)) (mvT hZ (own_w330 hw)) (notFace_of_selects (args := #[]) (mvT hZ (own_w332 hw))) (mvT hZ (own_w332 hw)) (mvT hZ (own_w331 hw)) (by decide) (backOf (W := 0) (rmen lL Z a0 hw [] q  h0 n0 Z0) hZ (own_w333 hw) (own_w8 hw) (by decide) (by decide)) q_28a q_28c (g := (mkF mI 24 #[.val (.ref g), .val (.ref q), .val (.int (-1 : Int32)), .val (.int (1 : Int32))] [.null, (.ref q)])) rfl (by rw [hml]; rfl) (Steps.refl _) (argsL := [.null]) (rest := []) (lenOf pd_22 rfl) rfl (by show 2 * 0 + _ ≤ _; exact Nat.le_of_eq rfl) (hb hby dnd_24) (fun _ _ => ⟨rfl, e_21, (by decide : 0 + 0 ≤ _), (by decide : 0 + 0 ≤ _)⟩)
          dsimp only [Pt.U, Pt.locs, Pt.cells, Pt.slots] at X_28 l_28 y_28 z_28 st_28 hQ_28
          subst l_28 y_28 z_28
          obtain ⟨rfl, N_28q, eh_28⟩ := hQ_28
          have N_28 := Fr.app Nj_18 N_28q
          refine hst (fun _ kt => st_28.trans kt) ?_
          show G (T_28.setTop (mkF mI 27 #[.val (.ref g), .val (.ref q), .val (.int (-1 : Int32)), .val (.int (1 : Int32))] [(.int (0 : Int32))]))
          exact J1 _ T_28 _ X_28 eh_28 N_28 (by rw [ho1]; rfl)
        | some wv =>
          obtain ⟨sa, sb, k_sb, er1, hsa, hsb, E_sa, C_sa, V_sa, A_sb⟩ : own_St Z h0 B0 r1 (some wv) := by have z := C_s1; rw [ho1] at z; exact z
          rw [er1]
          show G (T_21.setTop (mkF mI 24 #[.val (.ref g), .val (.ref q), .val (.int (-1 : Int32)), .val (.int (1 : Int32))] [(.ref sa), (.ref q)]))
          obtain ⟨cq_29, kq_29, q_29a, q_29b, q_29c⟩ := isOf hZ e_21 E_q
          obtain ⟨_, _, ⟨T_29, L_29, k_29, n_29⟩, -, X_29, ⟨Lc_29, hQ_29, l_29, y_29, z_29⟩, st_29⟩ := X_21.virtualBack hx (y := (⟨"java/lang/String", "equals", "(Ljava/lang/Object;)Z"⟩ : MethodName)) (z := (⟨"java/lang/String", "equals", "(Ljava/lang/Object;)Z"⟩ : MethodName)) hown (mvT hZ (own_w329 hw)) (mvT hZ (own_w330 hw)) (notFace_of_selects (args := #[]) (mvT hZ (own_w332 hw))) (mvT hZ (own_w332 hw)) (mvT hZ (own_w331 hw)) (by decide) (backOf (W := 0) (rmeq lL Z a0 hw [] q sa d sb k_d k_sb u wv cz h0 n0 Z0 (fun z => absurd hsa (by subst z; exact Nat.not_lt.mpr hBq)) E_q F_coder_q F_value_q V_d E_sa C_sa V_sa A_sb S_c hcz) hZ (own_w333 hw) (own_w8 hw) (by decide) (by decide)) q_29a q_29c (g := (mkF mI 24 #[.val (.ref g), .val (.ref q), .val (.int (-1 : Int32)), .val (.int (1 : Int32))] [(.ref sa), (.ref q)])) rfl (by rw [hml]; rfl) (Steps.refl _) (argsL := [(.ref sa)]) (rest := []) (lenOf pd_22 rfl) rfl (by show 2 * 0 + _ ≤ _; exact Nat.le_of_eq rfl) (hb hby dnd_24) (fun _ _ => ⟨rfl, e_21, (by decide : 0 + 0 ≤ _), (by decide : 0 + 0 ≤ _)⟩)
          dsimp only [Pt.U, Pt.locs, Pt.cells, Pt.slots] at X_29 l_29 y_29 z_29 st_29 hQ_29
          subst l_29 y_29 z_29
          obtain ⟨rfl, N_29q, eh_29⟩ := hQ_29
          have N_29 := Fr.app Nj_18 N_29q
          refine hst (fun _ kt => st_29.trans kt) ?_
          show G (T_29.setTop (mkF mI 27 #[.val (.ref g), .val (.ref q), .val (.int (-1 : Int32)), .val (.int (1 : Int32))] [(.int (own_eq u wv))]))
          exact J1 _ T_29 _ X_29 eh_29 N_29 (by rw [ho1]; rfl)
      ·
        refine hst (fun _ kt => XS.ifNo Xj_18.here hx rfl (hb hby dnd_27) rfl ((if0 _ _).trans (feq hz0).1) kt) ?_
        show G (Tj_18.setTop (mkF mI 30 #[.val (.ref g), .val (.ref q), .val (.int (-1 : Int32)), .val (.int (0 : Int32))] []))
        rw [hev] at hz0
        refine o_iloadN hst Xj_18.here hx (hb hby dnd_30) (pc' := 31) rfl rfl ?_
        refine o_istoreN hst Xj_18.here hx (hb hby dnd_31) (pc' := 32) rfl (Lt := #[.val (.ref g), .val (.ref q), .val (.int (0 : Int32)), .val (.int (0 : Int32))]) rfl ?_
        refine o_iinc hst Xj_18.here hx (hb hby dnd_32) (pc' := 35) rfl rfl (Lt := #[.val (.ref g), .val (.ref q), .val (.int (0 : Int32)), .val (.int ((0 : Int32) + (1 : Int32)))]) rfl ?_
        rw [show ((0 : Int32) + (1 : Int32)) = (1 : Int32) from by decide]
        show G (Tj_18.setTop (mkF mI 35 #[.val (.ref g), .val (.ref q), .val (.int (0 : Int32)), .val (.int (1 : Int32))] []))
        refine o_goto hst Xj_18.here hx (hb hby dnd_35) (by decide) (pc' := 4) (by decide) ?_
        refine o_iloadN hst Xj_18.here hx (hb hby dnd_4) (pc' := 5) rfl rfl ?_
        refine o_aloadN hst Xj_18.here hx (hb hby dnd_5) (pc' := 6) rfl rfl rfl ?_
        obtain ⟨T_30, X_30, e_30, st_30⟩ := getF Xj_18 hx hZ hown (host := "") (Or.inl (own_w146 hw)) Via.refl ej_18 F_iris_g (g := (mkF mI 6 #[.val (.ref g), .val (.ref q), .val (.int (0 : Int32)), .val (.int (1 : Int32))] [(.ref g), (.int (1 : Int32))])) rfl rfl (hb hby dnd_6)
        refine hst st_30 ?_
        show G (T_30.setTop (mkF mI 9 #[.val (.ref g), .val (.ref q), .val (.int (0 : Int32)), .val (.int (1 : Int32))] [(.ref ir), (.int (1 : Int32))]))
        obtain ⟨cl_31, Ar_31, -, S_31, M_31, -, -⟩ := id V_ir
        refine hst (X_30.arraylength hx (by rw [e_30]; exact Ar_31.1) (State.isArrayOf_alike hZ.alike Ar_31.2.1) (g := (mkF mI 9 #[.val (.ref g), .val (.ref q), .val (.int (0 : Int32)), .val (.int (1 : Int32))] [(.ref ir), (.int (1 : Int32))])) rfl rfl (hb hby dnd_9)) ?_
        rw [len_of S_31 M_31]
        show G (T_30.setTop (mkF mI 10 #[.val (.ref g), .val (.ref q), .val (.int (0 : Int32)), .val (.int (1 : Int32))] [(.int (2 : Int32)), (.int (1 : Int32))]))
        have hx0 : (1 : Int32) < (2 : Int32) := by decide
        refine hst (fun _ kt => XS.icmpNo X_30.here hx rfl (hb hby dnd_10) rfl (tlt hx0).2.1 kt) ?_
        show G (T_30.setTop (mkF mI 13 #[.val (.ref g), .val (.ref q), .val (.int (0 : Int32)), .val (.int (1 : Int32))] []))
        refine o_iloadN hst X_30.here hx (hb hby dnd_13) (pc' := 14) rfl rfl ?_
        have hy0 : ¬ ((0 : Int32) < (0 : Int32)) := by decide
        refine hst (fun _ kt => XS.ifYes X_30.here hx rfl (pc0 := 14) (pc' := 38) rfl (hb hby dnd_14) rfl ((if0 _ _).trans (flt hy0).2.1) (by decide) (by decide) kt) ?_
        show G (T_30.setTop (mkF mI 38 #[.val (.ref g), .val (.ref q), .val (.int (0 : Int32)), .val (.int (1 : Int32))] []))
        refine o_iloadN hst X_30.here hx (hb hby dnd_38) (pc' := 39) rfl rfl ?_
        exact hend (own_goRet X_30 hx Bd.returns rfl (Or.inl ⟨rfl, by simp, _, rfl⟩) (hb hby dnd_39) Bd.notSynchronized (by rw [e_30]; exact ⟨by simp [own_nd, hz0], Nj_18, rfl⟩) (by decide) (by decide))
    cases ho0 : o0 with
    | none =>
      have er0 : r0 = .null := by have z := C_s0; rw [ho0] at z; exact z
      rw [er0]
      show G (T_16.setTop (mkF mI 24 #[.val (.ref g), .val (.ref q), .val (.int (-1 : Int32)), .val (.int (0 : Int32))] [.null, (.ref q)]))
      obtain ⟨cq_32, kq_32, q_32a, q_32b, q_32c⟩ := isOf hZ e_16 E_q
      obtain ⟨_, _, ⟨T_32, L_32, k_32, n_32⟩, -, X_32, ⟨Lc_32, hQ_32, l_32, y_32, z_32⟩, st_32⟩ := X_16.virtualBack hx (y := (⟨"java/lang/String", "equals", "(Ljava/lang/Object;)Z"⟩ : MethodName)) (z := (⟨"java/lang/String", "equals", "(Ljava/lang/Object;)Z"⟩ : MethodName)) hown (mvT hZ (own_w329 hw)) (mvT hZ (own_w330 hw)) (notFace_of_selects (args := #[]) (mvT hZ (own_w332 hw))) (mvT hZ (own_w332 hw)) (mvT hZ (own_w331 hw)) (by decide) (backOf (W := 0) (rmen lL Z a0 hw [] q  h0 n0 Z0) hZ (own_w333 hw) (own_w8 hw) (by decide) (by decide)) q_32a q_32c (g := (mkF mI 24 #[.val (.ref g), .val (.ref q), .val (.int (-1 : Int32)), .val (.int (0 : Int32))] [.null, (.ref q)])) rfl (by rw [hml]; rfl) (Steps.refl _) (argsL := [.null]) (rest := []) (lenOf pd_22 rfl) rfl (by show 2 * 0 + _ ≤ _; exact Nat.le_of_eq rfl) (hb hby dnd_24) (fun _ _ => ⟨rfl, e_16, (by decide : 0 + 0 ≤ _), (by decide : 0 + 0 ≤ _)⟩)
      dsimp only [Pt.U, Pt.locs, Pt.cells, Pt.slots] at X_32 l_32 y_32 z_32 st_32 hQ_32
      subst l_32 y_32 z_32
      obtain ⟨rfl, N_32q, eh_32⟩ := hQ_32
      have N_32 := Fr.app N0 N_32q
      refine hst (fun _ kt => st_32.trans kt) ?_
      show G (T_32.setTop (mkF mI 27 #[.val (.ref g), .val (.ref q), .val (.int (-1 : Int32)), .val (.int (0 : Int32))] [(.int (0 : Int32))]))
      exact J0 _ T_32 _ X_32 eh_32 N_32 (by rw [ho0]; rfl)
    | some wv =>
      obtain ⟨sa, sb, k_sb, er0, hsa, hsb, E_sa, C_sa, V_sa, A_sb⟩ : own_St Z h0 B0 r0 (some wv) := by have z := C_s0; rw [ho0] at z; exact z
      rw [er0]
      show G (T_16.setTop (mkF mI 24 #[.val (.ref g), .val (.ref q), .val (.int (-1 : Int32)), .val (.int (0 : Int32))] [(.ref sa), (.ref q)]))
      obtain ⟨cq_33, kq_33, q_33a, q_33b, q_33c⟩ := isOf hZ e_16 E_q
      obtain ⟨_, _, ⟨T_33, L_33, k_33, n_33⟩, -, X_33, ⟨Lc_33, hQ_33, l_33, y_33, z_33⟩, st_33⟩ := X_16.virtualBack hx (y := (⟨"java/lang/String", "equals", "(Ljava/lang/Object;)Z"⟩ : MethodName)) (z := (⟨"java/lang/String", "equals", "(Ljava/lang/Object;)Z"⟩ : MethodName)) hown (mvT hZ (own_w329 hw)) (mvT hZ (own_w330 hw)) (notFace_of_selects (args := #[]) (mvT hZ (own_w332 hw))) (mvT hZ (own_w332 hw)) (mvT hZ (own_w331 hw)) (by decide) (backOf (W := 0) (rmeq lL Z a0 hw [] q sa d sb k_d k_sb u wv cz h0 n0 Z0 (fun z => absurd hsa (by subst z; exact Nat.not_lt.mpr hBq)) E_q F_coder_q F_value_q V_d E_sa C_sa V_sa A_sb S_c hcz) hZ (own_w333 hw) (own_w8 hw) (by decide) (by decide)) q_33a q_33c (g := (mkF mI 24 #[.val (.ref g), .val (.ref q), .val (.int (-1 : Int32)), .val (.int (0 : Int32))] [(.ref sa), (.ref q)])) rfl (by rw [hml]; rfl) (Steps.refl _) (argsL := [(.ref sa)]) (rest := []) (lenOf pd_22 rfl) rfl (by show 2 * 0 + _ ≤ _; exact Nat.le_of_eq rfl) (hb hby dnd_24) (fun _ _ => ⟨rfl, e_16, (by decide : 0 + 0 ≤ _), (by decide : 0 + 0 ≤ _)⟩)
      dsimp only [Pt.U, Pt.locs, Pt.cells, Pt.slots] at X_33 l_33 y_33 z_33 st_33 hQ_33
      subst l_33 y_33 z_33
      obtain ⟨rfl, N_33q, eh_33⟩ := hQ_33
      have N_33 := Fr.app N0 N_33q
      refine hst (fun _ kt => st_33.trans kt) ?_
      show G (T_33.setTop (mkF mI 27 #[.val (.ref g), .val (.ref q), .val (.int (-1 : Int32)), .val (.int (0 : Int32))] [(.int (own_eq u wv))]))
      exact J0 _ T_33 _ X_33 eh_33 N_33 (by rw [ho0]; rfl)
  ·
    have V_ir : Arv Z h0 ir ki (.object "java/lang/String") (3 : Int32) [r0, r1, r2] .null := V_ir
    show G (s₁.setTop (mkF mI 0 #[.val (.ref g), .val (.ref q), .unset, .unset] []))
    refine o_iconst hst X0.here hx (hb hby dnd_0) (pc' := 1) rfl (z := (-1 : Int32)) rfl ?_
    refine o_istoreN hst X0.here hx (hb hby dnd_1) (pc' := 2) rfl (Lt := #[.val (.ref g), .val (.ref q), .val (.int (-1 : Int32)), .unset]) rfl ?_
    refine o_iconst hst X0.here hx (hb hby dnd_2) (pc' := 3) rfl (z := (0 : Int32)) rfl ?_
    refine o_istoreN hst X0.here hx (hb hby dnd_3) (pc' := 4) rfl (Lt := #[.val (.ref g), .val (.ref q), .val (.int (-1 : Int32)), .val (.int (0 : Int32))]) rfl ?_
    refine o_iloadN hst X0.here hx (hb hby dnd_4) (pc' := 5) rfl rfl ?_
    refine o_aloadN hst X0.here hx (hb hby dnd_5) (pc' := 6) rfl rfl rfl ?_
    obtain ⟨T_34, X_34, e_34, st_34⟩ := getF X0 hx hZ hown (host := "") (Or.inl (own_w146 hw)) Via.refl e0 F_iris_g (g := (mkF mI 6 #[.val (.ref g), .val (.ref q), .val (.int (-1 : Int32)), .val (.int (0 : Int32))] [(.ref g), (.int (0 : Int32))])) rfl rfl (hb hby dnd_6)
    refine hst st_34 ?_
    show G (T_34.setTop (mkF mI 9 #[.val (.ref g), .val (.ref q), .val (.int (-1 : Int32)), .val (.int (0 : Int32))] [(.ref ir), (.int (0 : Int32))]))
    obtain ⟨cl_35, Ar_35, -, S_35, M_35, -, -⟩ := id V_ir
    refine hst (X_34.arraylength hx (by rw [e_34]; exact Ar_35.1) (State.isArrayOf_alike hZ.alike Ar_35.2.1) (g := (mkF mI 9 #[.val (.ref g), .val (.ref q), .val (.int (-1 : Int32)), .val (.int (0 : Int32))] [(.ref ir), (.int (0 : Int32))])) rfl rfl (hb hby dnd_9)) ?_
    rw [len_of S_35 M_35]
    show G (T_34.setTop (mkF mI 10 #[.val (.ref g), .val (.ref q), .val (.int (-1 : Int32)), .val (.int (0 : Int32))] [(.int (3 : Int32)), (.int (0 : Int32))]))
    have hl0 : (0 : Int32) < (3 : Int32) := by decide
    refine hst (fun _ kt => XS.icmpNo X_34.here hx rfl (hb hby dnd_10) rfl (tlt hl0).2.1 kt) ?_
    show G (T_34.setTop (mkF mI 13 #[.val (.ref g), .val (.ref q), .val (.int (-1 : Int32)), .val (.int (0 : Int32))] []))
    refine o_iloadN hst X_34.here hx (hb hby dnd_13) (pc' := 14) rfl rfl ?_
    have hm0 : (-1 : Int32) < (0 : Int32) := by decide
    refine hst (fun _ kt => XS.ifNo X_34.here hx rfl (hb hby dnd_14) rfl ((if0 _ _).trans (tlt hm0).2.1) kt) ?_
    show G (T_34.setTop (mkF mI 17 #[.val (.ref g), .val (.ref q), .val (.int (-1 : Int32)), .val (.int (0 : Int32))] []))
    refine o_aloadN hst X_34.here hx (hb hby dnd_17) (pc' := 18) rfl rfl rfl ?_
    refine o_aloadN hst X_34.here hx (hb hby dnd_18) (pc' := 19) rfl rfl rfl ?_
    obtain ⟨T_36, X_36, e_36, st_36⟩ := getF X_34 hx hZ hown (host := "") (Or.inl (own_w146 hw)) Via.refl e_34 F_iris_g (g := (mkF mI 19 #[.val (.ref g), .val (.ref q), .val (.int (-1 : Int32)), .val (.int (0 : Int32))] [(.ref g), (.ref q)])) rfl rfl (hb hby dnd_19)
    refine hst st_36 ?_
    show G (T_36.setTop (mkF mI 22 #[.val (.ref g), .val (.ref q), .val (.int (-1 : Int32)), .val (.int (0 : Int32))] [(.ref ir), (.ref q)]))
    refine o_iloadN hst X_36.here hx (hb hby dnd_22) (pc' := 23) rfl rfl ?_
    obtain ⟨cl_37, Ar_37, -, S_37, M_37, Hs_37, -⟩ := id V_ir
    have hin_37 : ¬ ((0 : Int32) < 0 ∨ cl_37.slots.size ≤ ((0 : Int32)).toNatClampNeg) := inb_of S_37 ⟨by decide, by decide⟩
    have hat_37 : cl_37.slots[((0 : Int32)).toNatClampNeg]? = some r0 := Has.at Hs_37 hin_37 rfl
    refine hst (X_36.aaload hx (j := (0 : Int32)) (v := r0) (by rw [e_36]; exact Ar_37.1) (State.isArrayOf_alike hZ.alike Ar_37.2.1) rfl Ar_37.2.2 hin_37 hat_37 (g := (mkF mI 23 #[.val (.ref g), .val (.ref q), .val (.int (-1 : Int32)), .val (.int (0 : Int32))] [(.int (0 : Int32)), (.ref ir), (.ref q)])) rfl rfl (hb hby dnd_23)) ?_
    show G (T_36.setTop (mkF mI 24 #[.val (.ref g), .val (.ref q), .val (.int (-1 : Int32)), .val (.int (0 : Int32))] [r0, (.ref q)]))
    have J0 : ∀ (ev : Int32) (Tj_38 : State) (lj_38 : List Loc) (Xj_38 : Stand pP lL eE ({ frames := 2, cells := 0, slots := 0, locals := 30 } : Room) sS mI #[(.ref g), (.ref q)] below meth cC Tj_38 lj_38 0 0) (ej_38 : Tj_38.heap = h0) (Nj_38 : Fr n0 lj_38) (hev : ev = own_m u o0), G (Tj_38.setTop (mkF mI 27 #[.val (.ref g), .val (.ref q), .val (.int (-1 : Int32)), .val (.int (0 : Int32))] [(.int ev)])) := by
      intro ev Tj_38 lj_38 Xj_38 ej_38 Nj_38 hev
      show G (Tj_38.setTop (mkF mI 27 #[.val (.ref g), .val (.ref q), .val (.int (-1 : Int32)), .val (.int (0 : Int32))] [(.int ev)]))
      by_cases hz0 : ev = (0 : Int32)
      ·
        refine hst (fun _ kt => XS.ifYes Xj_38.here hx rfl (pc0 := 27) (pc' := 32) rfl (hb hby dnd_27) rfl ((if0 _ _).trans (teq hz0).1) (by decide) (by decide) kt) ?_
        show G (Tj_38.setTop (mkF mI 32 #[.val (.ref g), .val (.ref q), .val (.int (-1 : Int32)), .val (.int (0 : Int32))] []))
        rw [hev] at hz0
        refine o_iinc hst Xj_38.here hx (hb hby dnd_32) (pc' := 35) rfl rfl (Lt := #[.val (.ref g), .val (.ref q), .val (.int (-1 : Int32)), .val (.int ((0 : Int32) + (1 : Int32)))]) rfl ?_
        rw [show ((0 : Int32) + (1 : Int32)) = (1 : Int32) from by decide]
        show G (Tj_38.setTop (mkF mI 35 #[.val (.ref g), .val (.ref q), .val (.int (-1 : Int32)), .val (.int (1 : Int32))] []))
        refine o_goto hst Xj_38.here hx (hb hby dnd_35) (by decide) (pc' := 4) (by decide) ?_
        refine o_iloadN hst Xj_38.here hx (hb hby dnd_4) (pc' := 5) rfl rfl ?_
        refine o_aloadN hst Xj_38.here hx (hb hby dnd_5) (pc' := 6) rfl rfl rfl ?_
        obtain ⟨T_39, X_39, e_39, st_39⟩ := getF Xj_38 hx hZ hown (host := "") (Or.inl (own_w146 hw)) Via.refl ej_38 F_iris_g (g := (mkF mI 6 #[.val (.ref g), .val (.ref q), .val (.int (-1 : Int32)), .val (.int (1 : Int32))] [(.ref g), (.int (1 : Int32))])) rfl rfl (hb hby dnd_6)
        refine hst st_39 ?_
        show G (T_39.setTop (mkF mI 9 #[.val (.ref g), .val (.ref q), .val (.int (-1 : Int32)), .val (.int (1 : Int32))] [(.ref ir), (.int (1 : Int32))]))
        obtain ⟨cl_40, Ar_40, -, S_40, M_40, -, -⟩ := id V_ir
        refine hst (X_39.arraylength hx (by rw [e_39]; exact Ar_40.1) (State.isArrayOf_alike hZ.alike Ar_40.2.1) (g := (mkF mI 9 #[.val (.ref g), .val (.ref q), .val (.int (-1 : Int32)), .val (.int (1 : Int32))] [(.ref ir), (.int (1 : Int32))])) rfl rfl (hb hby dnd_9)) ?_
        rw [len_of S_40 M_40]
        show G (T_39.setTop (mkF mI 10 #[.val (.ref g), .val (.ref q), .val (.int (-1 : Int32)), .val (.int (1 : Int32))] [(.int (3 : Int32)), (.int (1 : Int32))]))
        have hl1 : (1 : Int32) < (3 : Int32) := by decide
        refine hst (fun _ kt => XS.icmpNo X_39.here hx rfl (hb hby dnd_10) rfl (tlt hl1).2.1 kt) ?_
        show G (T_39.setTop (mkF mI 13 #[.val (.ref g), .val (.ref q), .val (.int (-1 : Int32)), .val (.int (1 : Int32))] []))
        refine o_iloadN hst X_39.here hx (hb hby dnd_13) (pc' := 14) rfl rfl ?_
        have hm1 : (-1 : Int32) < (0 : Int32) := by decide
        refine hst (fun _ kt => XS.ifNo X_39.here hx rfl (hb hby dnd_14) rfl ((if0 _ _).trans (tlt hm1).2.1) kt) ?_
        show G (T_39.setTop (mkF mI 17 #[.val (.ref g), .val (.ref q), .val (.int (-1 : Int32)), .val (.int (1 : Int32))] []))
        refine o_aloadN hst X_39.here hx (hb hby dnd_17) (pc' := 18) rfl rfl rfl ?_
        refine o_aloadN hst X_39.here hx (hb hby dnd_18) (pc' := 19) rfl rfl rfl ?_
        obtain ⟨T_41, X_41, e_41, st_41⟩ := getF X_39 hx hZ hown (host := "") (Or.inl (own_w146 hw)) Via.refl e_39 F_iris_g (g := (mkF mI 19 #[.val (.ref g), .val (.ref q), .val (.int (-1 : Int32)), .val (.int (1 : Int32))] [(.ref g), (.ref q)])) rfl rfl (hb hby dnd_19)
        refine hst st_41 ?_
        show G (T_41.setTop (mkF mI 22 #[.val (.ref g), .val (.ref q), .val (.int (-1 : Int32)), .val (.int (1 : Int32))] [(.ref ir), (.ref q)]))
        refine o_iloadN hst X_41.here hx (hb hby dnd_22) (pc' := 23) rfl rfl ?_
        obtain ⟨cl_42, Ar_42, -, S_42, M_42, Hs_42, -⟩ := id V_ir
        have hin_42 : ¬ ((1 : Int32) < 0 ∨ cl_42.slots.size ≤ ((1 : Int32)).toNatClampNeg) := inb_of S_42 ⟨by decide, by decide⟩
        have hat_42 : cl_42.slots[((1 : Int32)).toNatClampNeg]? = some r1 := Has.at Hs_42 hin_42 rfl
        refine hst (X_41.aaload hx (j := (1 : Int32)) (v := r1) (by rw [e_41]; exact Ar_42.1) (State.isArrayOf_alike hZ.alike Ar_42.2.1) rfl Ar_42.2.2 hin_42 hat_42 (g := (mkF mI 23 #[.val (.ref g), .val (.ref q), .val (.int (-1 : Int32)), .val (.int (1 : Int32))] [(.int (1 : Int32)), (.ref ir), (.ref q)])) rfl rfl (hb hby dnd_23)) ?_
        show G (T_41.setTop (mkF mI 24 #[.val (.ref g), .val (.ref q), .val (.int (-1 : Int32)), .val (.int (1 : Int32))] [r1, (.ref q)]))
        have J1 : ∀ (ev : Int32) (Tj_43 : State) (lj_43 : List Loc) (Xj_43 : Stand pP lL eE ({ frames := 2, cells := 0, slots := 0, locals := 30 } : Room) sS mI #[(.ref g), (.ref q)] below meth cC Tj_43 lj_43 0 0) (ej_43 : Tj_43.heap = h0) (Nj_43 : Fr n0 lj_43) (hev : ev = own_m u o1), G (Tj_43.setTop (mkF mI 27 #[.val (.ref g), .val (.ref q), .val (.int (-1 : Int32)), .val (.int (1 : Int32))] [(.int ev)])) := by
          intro ev Tj_43 lj_43 Xj_43 ej_43 Nj_43 hev
          show G (Tj_43.setTop (mkF mI 27 #[.val (.ref g), .val (.ref q), .val (.int (-1 : Int32)), .val (.int (1 : Int32))] [(.int ev)]))
          by_cases hz1 : ev = (0 : Int32)
          ·
            refine hst (fun _ kt => XS.ifYes Xj_43.here hx rfl (pc0 := 27) (pc' := 32) rfl (hb hby dnd_27) rfl ((if0 _ _).trans (teq hz1).1) (by decide) (by decide) kt) ?_
            show G (Tj_43.setTop (mkF mI 32 #[.val (.ref g), .val (.ref q), .val (.int (-1 : Int32)), .val (.int (1 : Int32))] []))
            rw [hev] at hz1
            refine o_iinc hst Xj_43.here hx (hb hby dnd_32) (pc' := 35) rfl rfl (Lt := #[.val (.ref g), .val (.ref q), .val (.int (-1 : Int32)), .val (.int ((1 : Int32) + (1 : Int32)))]) rfl ?_
            rw [show ((1 : Int32) + (1 : Int32)) = (2 : Int32) from by decide]
            show G (Tj_43.setTop (mkF mI 35 #[.val (.ref g), .val (.ref q), .val (.int (-1 : Int32)), .val (.int (2 : Int32))] []))
            refine o_goto hst Xj_43.here hx (hb hby dnd_35) (by decide) (pc' := 4) (by decide) ?_
            refine o_iloadN hst Xj_43.here hx (hb hby dnd_4) (pc' := 5) rfl rfl ?_
            refine o_aloadN hst Xj_43.here hx (hb hby dnd_5) (pc' := 6) rfl rfl rfl ?_
            obtain ⟨T_44, X_44, e_44, st_44⟩ := getF Xj_43 hx hZ hown (host := "") (Or.inl (own_w146 hw)) Via.refl ej_43 F_iris_g (g := (mkF mI 6 #[.val (.ref g), .val (.ref q), .val (.int (-1 : Int32)), .val (.int (2 : Int32))] [(.ref g), (.int (2 : Int32))])) rfl rfl (hb hby dnd_6)
            refine hst st_44 ?_
            show G (T_44.setTop (mkF mI 9 #[.val (.ref g), .val (.ref q), .val (.int (-1 : Int32)), .val (.int (2 : Int32))] [(.ref ir), (.int (2 : Int32))]))
            obtain ⟨cl_45, Ar_45, -, S_45, M_45, -, -⟩ := id V_ir
            refine hst (X_44.arraylength hx (by rw [e_44]; exact Ar_45.1) (State.isArrayOf_alike hZ.alike Ar_45.2.1) (g := (mkF mI 9 #[.val (.ref g), .val (.ref q), .val (.int (-1 : Int32)), .val (.int (2 : Int32))] [(.ref ir), (.int (2 : Int32))])) rfl rfl (hb hby dnd_9)) ?_
            rw [len_of S_45 M_45]
            show G (T_44.setTop (mkF mI 10 #[.val (.ref g), .val (.ref q), .val (.int (-1 : Int32)), .val (.int (2 : Int32))] [(.int (3 : Int32)), (.int (2 : Int32))]))
            have hl2 : (2 : Int32) < (3 : Int32) := by decide
            refine hst (fun _ kt => XS.icmpNo X_44.here hx rfl (hb hby dnd_10) rfl (tlt hl2).2.1 kt) ?_
            show G (T_44.setTop (mkF mI 13 #[.val (.ref g), .val (.ref q), .val (.int (-1 : Int32)), .val (.int (2 : Int32))] []))
            refine o_iloadN hst X_44.here hx (hb hby dnd_13) (pc' := 14) rfl rfl ?_
            have hm2 : (-1 : Int32) < (0 : Int32) := by decide
            refine hst (fun _ kt => XS.ifNo X_44.here hx rfl (hb hby dnd_14) rfl ((if0 _ _).trans (tlt hm2).2.1) kt) ?_
            show G (T_44.setTop (mkF mI 17 #[.val (.ref g), .val (.ref q), .val (.int (-1 : Int32)), .val (.int (2 : Int32))] []))
            refine o_aloadN hst X_44.here hx (hb hby dnd_17) (pc' := 18) rfl rfl rfl ?_
            refine o_aloadN hst X_44.here hx (hb hby dnd_18) (pc' := 19) rfl rfl rfl ?_
            obtain ⟨T_46, X_46, e_46, st_46⟩ := getF X_44 hx hZ hown (host := "") (Or.inl (own_w146 hw)) Via.refl e_44 F_iris_g (g := (mkF mI 19 #[.val (.ref g), .val (.ref q), .val (.int (-1 : Int32)), .val (.int (2 : Int32))] [(.ref g), (.ref q)])) rfl rfl (hb hby dnd_19)
            refine hst st_46 ?_
            show G (T_46.setTop (mkF mI 22 #[.val (.ref g), .val (.ref q), .val (.int (-1 : Int32)), .val (.int (2 : Int32))] [(.ref ir), (.ref q)]))
            refine o_iloadN hst X_46.here hx (hb hby dnd_22) (pc' := 23) rfl rfl ?_
            obtain ⟨cl_47, Ar_47, -, S_47, M_47, Hs_47, -⟩ := id V_ir
            have hin_47 : ¬ ((2 : Int32) < 0 ∨ cl_47.slots.size ≤ ((2 : Int32)).toNatClampNeg) := inb_of S_47 ⟨by decide, by decide⟩
            have hat_47 : cl_47.slots[((2 : Int32)).toNatClampNeg]? = some r2 := Has.at Hs_47 hin_47 rfl
            refine hst (X_46.aaload hx (j := (2 : Int32)) (v := r2) (by rw [e_46]; exact Ar_47.1) (State.isArrayOf_alike hZ.alike Ar_47.2.1) rfl Ar_47.2.2 hin_47 hat_47 (g := (mkF mI 23 #[.val (.ref g), .val (.ref q), .val (.int (-1 : Int32)), .val (.int (2 : Int32))] [(.int (2 : Int32)), (.ref ir), (.ref q)])) rfl rfl (hb hby dnd_23)) ?_
            show G (T_46.setTop (mkF mI 24 #[.val (.ref g), .val (.ref q), .val (.int (-1 : Int32)), .val (.int (2 : Int32))] [r2, (.ref q)]))
            have J2 : ∀ (ev : Int32) (Tj_48 : State) (lj_48 : List Loc) (Xj_48 : Stand pP lL eE ({ frames := 2, cells := 0, slots := 0, locals := 30 } : Room) sS mI #[(.ref g), (.ref q)] below meth cC Tj_48 lj_48 0 0) (ej_48 : Tj_48.heap = h0) (Nj_48 : Fr n0 lj_48) (hev : ev = own_m u o2), G (Tj_48.setTop (mkF mI 27 #[.val (.ref g), .val (.ref q), .val (.int (-1 : Int32)), .val (.int (2 : Int32))] [(.int ev)])) := by
              intro ev Tj_48 lj_48 Xj_48 ej_48 Nj_48 hev
              show G (Tj_48.setTop (mkF mI 27 #[.val (.ref g), .val (.ref q), .val (.int (-1 : Int32)), .val (.int (2 : Int32))] [(.int ev)]))
              by_cases hz2 : ev = (0 : Int32)
              ·
                refine hst (fun _ kt => XS.ifYes Xj_48.here hx rfl (pc0 := 27) (pc' := 32) rfl (hb hby dnd_27) rfl ((if0 _ _).trans (teq hz2).1) (by decide) (by decide) kt) ?_
                show G (Tj_48.setTop (mkF mI 32 #[.val (.ref g), .val (.ref q), .val (.int (-1 : Int32)), .val (.int (2 : Int32))] []))
                rw [hev] at hz2
                refine o_iinc hst Xj_48.here hx (hb hby dnd_32) (pc' := 35) rfl rfl (Lt := #[.val (.ref g), .val (.ref q), .val (.int (-1 : Int32)), .val (.int ((2 : Int32) + (1 : Int32)))]) rfl ?_
                rw [show ((2 : Int32) + (1 : Int32)) = (3 : Int32) from by decide]
                show G (Tj_48.setTop (mkF mI 35 #[.val (.ref g), .val (.ref q), .val (.int (-1 : Int32)), .val (.int (3 : Int32))] []))
                refine o_goto hst Xj_48.here hx (hb hby dnd_35) (by decide) (pc' := 4) (by decide) ?_
                refine o_iloadN hst Xj_48.here hx (hb hby dnd_4) (pc' := 5) rfl rfl ?_
                refine o_aloadN hst Xj_48.here hx (hb hby dnd_5) (pc' := 6) rfl rfl rfl ?_
                obtain ⟨T_49, X_49, e_49, st_49⟩ := getF Xj_48 hx hZ hown (host := "") (Or.inl (own_w146 hw)) Via.refl ej_48 F_iris_g (g := (mkF mI 6 #[.val (.ref g), .val (.ref q), .val (.int (-1 : Int32)), .val (.int (3 : Int32))] [(.ref g), (.int (3 : Int32))])) rfl rfl (hb hby dnd_6)
                refine hst st_49 ?_
                show G (T_49.setTop (mkF mI 9 #[.val (.ref g), .val (.ref q), .val (.int (-1 : Int32)), .val (.int (3 : Int32))] [(.ref ir), (.int (3 : Int32))]))
                obtain ⟨cl_50, Ar_50, -, S_50, M_50, -, -⟩ := id V_ir
                refine hst (X_49.arraylength hx (by rw [e_49]; exact Ar_50.1) (State.isArrayOf_alike hZ.alike Ar_50.2.1) (g := (mkF mI 9 #[.val (.ref g), .val (.ref q), .val (.int (-1 : Int32)), .val (.int (3 : Int32))] [(.ref ir), (.int (3 : Int32))])) rfl rfl (hb hby dnd_9)) ?_
                rw [len_of S_50 M_50]
                show G (T_49.setTop (mkF mI 10 #[.val (.ref g), .val (.ref q), .val (.int (-1 : Int32)), .val (.int (3 : Int32))] [(.int (3 : Int32)), (.int (3 : Int32))]))
                have hl3 : ¬ ((3 : Int32) < (3 : Int32)) := by decide
                refine hst (fun _ kt => XS.icmpYes X_49.here hx rfl (pc0 := 10) (pc' := 38) rfl (hb hby dnd_10) rfl (flt hl3).2.1 (by decide) (by decide) kt) ?_
                show G (T_49.setTop (mkF mI 38 #[.val (.ref g), .val (.ref q), .val (.int (-1 : Int32)), .val (.int (3 : Int32))] []))
                refine o_iloadN hst X_49.here hx (hb hby dnd_38) (pc' := 39) rfl rfl ?_
                exact hend (own_goRet X_49 hx Bd.returns rfl (Or.inl ⟨rfl, by simp, _, rfl⟩) (hb hby dnd_39) Bd.notSynchronized (by rw [e_49]; exact ⟨by simp [own_nd, hz0, hz1, hz2], Nj_48, rfl⟩) (by decide) (by decide))
              ·
                refine hst (fun _ kt => XS.ifNo Xj_48.here hx rfl (hb hby dnd_27) rfl ((if0 _ _).trans (feq hz2).1) kt) ?_
                show G (Tj_48.setTop (mkF mI 30 #[.val (.ref g), .val (.ref q), .val (.int (-1 : Int32)), .val (.int (2 : Int32))] []))
                rw [hev] at hz2
                refine o_iloadN hst Xj_48.here hx (hb hby dnd_30) (pc' := 31) rfl rfl ?_
                refine o_istoreN hst Xj_48.here hx (hb hby dnd_31) (pc' := 32) rfl (Lt := #[.val (.ref g), .val (.ref q), .val (.int (2 : Int32)), .val (.int (2 : Int32))]) rfl ?_
                refine o_iinc hst Xj_48.here hx (hb hby dnd_32) (pc' := 35) rfl rfl (Lt := #[.val (.ref g), .val (.ref q), .val (.int (2 : Int32)), .val (.int ((2 : Int32) + (1 : Int32)))]) rfl ?_
                rw [show ((2 : Int32) + (1 : Int32)) = (3 : Int32) from by decide]
                show G (Tj_48.setTop (mkF mI 35 #[.val (.ref g), .val (.ref q), .val (.int (2 : Int32)), .val (.int (3 : Int32))] []))
                refine o_goto hst Xj_48.here hx (hb hby dnd_35) (by decide) (pc' := 4) (by decide) ?_
                refine o_iloadN hst Xj_48.here hx (hb hby dnd_4) (pc' := 5) rfl rfl ?_
                refine o_aloadN hst Xj_48.here hx (hb hby dnd_5) (pc' := 6) rfl rfl rfl ?_
                obtain ⟨T_51, X_51, e_51, st_51⟩ := getF Xj_48 hx hZ hown (host := "") (Or.inl (own_w146 hw)) Via.refl ej_48 F_iris_g (g := (mkF mI 6 #[.val (.ref g), .val (.ref q), .val (.int (2 : Int32)), .val (.int (3 : Int32))] [(.ref g), (.int (3 : Int32))])) rfl rfl (hb hby dnd_6)
                refine hst st_51 ?_
                show G (T_51.setTop (mkF mI 9 #[.val (.ref g), .val (.ref q), .val (.int (2 : Int32)), .val (.int (3 : Int32))] [(.ref ir), (.int (3 : Int32))]))
                obtain ⟨cl_52, Ar_52, -, S_52, M_52, -, -⟩ := id V_ir
                refine hst (X_51.arraylength hx (by rw [e_51]; exact Ar_52.1) (State.isArrayOf_alike hZ.alike Ar_52.2.1) (g := (mkF mI 9 #[.val (.ref g), .val (.ref q), .val (.int (2 : Int32)), .val (.int (3 : Int32))] [(.ref ir), (.int (3 : Int32))])) rfl rfl (hb hby dnd_9)) ?_
                rw [len_of S_52 M_52]
                show G (T_51.setTop (mkF mI 10 #[.val (.ref g), .val (.ref q), .val (.int (2 : Int32)), .val (.int (3 : Int32))] [(.int (3 : Int32)), (.int (3 : Int32))]))
                have hx2 : ¬ ((3 : Int32) < (3 : Int32)) := by decide
                refine hst (fun _ kt => XS.icmpYes X_51.here hx rfl (pc0 := 10) (pc' := 38) rfl (hb hby dnd_10) rfl (flt hx2).2.1 (by decide) (by decide) kt) ?_
                show G (T_51.setTop (mkF mI 38 #[.val (.ref g), .val (.ref q), .val (.int (2 : Int32)), .val (.int (3 : Int32))] []))
                refine o_iloadN hst X_51.here hx (hb hby dnd_38) (pc' := 39) rfl rfl ?_
                exact hend (own_goRet X_51 hx Bd.returns rfl (Or.inl ⟨rfl, by simp, _, rfl⟩) (hb hby dnd_39) Bd.notSynchronized (by rw [e_51]; exact ⟨by simp [own_nd, hz0, hz1, hz2], Nj_48, rfl⟩) (by decide) (by decide))
            cases ho2 : o2 with
            | none =>
              have er2 : r2 = .null := by have z := C_s2; rw [ho2] at z; exact z
              rw [er2]
              show G (T_46.setTop (mkF mI 24 #[.val (.ref g), .val (.ref q), .val (.int (-1 : Int32)), .val (.int (2 : Int32))] [.null, (.ref q)]))
              obtain ⟨cq_53, kq_53, q_53a, q_53b, q_53c⟩ := isOf hZ e_46 E_q
              obtain ⟨_, _, ⟨T_53, L_53, k_53, n_53⟩, -, X_53, ⟨Lc_53, hQ_53, l_53, y_53, z_53⟩, st_53⟩ := X_46.virtualBack hx (y := (⟨"java/lang/String", "equals", "(Ljava/lang/Object;)Z"⟩ : MethodName)) (z := (⟨"java/lang/String", "equals", "(Ljava/lang/Object;)Z"⟩ : MethodName)) hown (mvT hZ (own_w329 hw)) (mvT hZ (own_w330 hw)) (notFace_of_selects (args := #[]) (mvT hZ (own_w332 hw))) (mvT hZ (own_w332 hw)) (mvT hZ (own_w331 hw)) (by decide) (backOf (W := 0) (rmen lL Z a0 hw [] q  h0 n0 Z0) hZ (own_w333 hw) (own_w8 hw) (by decide) (by decide)) q_53a q_53c (g := (mkF mI 24 #[.val (.ref g), .val (.ref q), .val (.int (-1 : Int32)), .val (.int (2 : Int32))] [.null, (.ref q)])) rfl (by rw [hml]; rfl) (Steps.refl _) (argsL := [.null]) (rest := []) (lenOf pd_22 rfl) rfl (by show 2 * 0 + _ ≤ _; exact Nat.le_of_eq rfl) (hb hby dnd_24) (fun _ _ => ⟨rfl, e_46, (by decide : 0 + 0 ≤ _), (by decide : 0 + 0 ≤ _)⟩)
              dsimp only [Pt.U, Pt.locs, Pt.cells, Pt.slots] at X_53 l_53 y_53 z_53 st_53 hQ_53
              subst l_53 y_53 z_53
              obtain ⟨rfl, N_53q, eh_53⟩ := hQ_53
              have N_53 := Fr.app Nj_43 N_53q
              refine hst (fun _ kt => st_53.trans kt) ?_
              show G (T_53.setTop (mkF mI 27 #[.val (.ref g), .val (.ref q), .val (.int (-1 : Int32)), .val (.int (2 : Int32))] [(.int (0 : Int32))]))
              exact J2 _ T_53 _ X_53 eh_53 N_53 (by rw [ho2]; rfl)
            | some wv =>
              obtain ⟨sa, sb, k_sb, er2, hsa, hsb, E_sa, C_sa, V_sa, A_sb⟩ : own_St Z h0 B0 r2 (some wv) := by have z := C_s2; rw [ho2] at z; exact z
              rw [er2]
              show G (T_46.setTop (mkF mI 24 #[.val (.ref g), .val (.ref q), .val (.int (-1 : Int32)), .val (.int (2 : Int32))] [(.ref sa), (.ref q)]))
              obtain ⟨cq_54, kq_54, q_54a, q_54b, q_54c⟩ := isOf hZ e_46 E_q
              obtain ⟨_, _, ⟨T_54, L_54, k_54, n_54⟩, -, X_54, ⟨Lc_54, hQ_54, l_54, y_54, z_54⟩, st_54⟩ := X_46.virtualBack hx (y := (⟨"java/lang/String", "equals", "(Ljava/lang/Object;)Z"⟩ : MethodName)) (z := (⟨"java/lang/String", "equals", "(Ljava/lang/Object;)Z"⟩ : MethodName)) hown (mvT hZ (own_w329 hw)) (mvT hZ (own_w330 hw)) (notFace_of_selects (args := #[]) (mvT hZ (own_w332 hw))) (mvT hZ (own_w332 hw)) (mvT hZ (own_w331 hw)) (by decide) (backOf (W := 0) (rmeq lL Z a0 hw [] q sa d sb k_d k_sb u wv cz h0 n0 Z0 (fun z => absurd hsa (by subst z; exact Nat.not_lt.mpr hBq)) E_q F_coder_q F_value_q V_d E_sa C_sa V_sa A_sb S_c hcz) hZ (own_w333 hw) (own_w8 hw) (by decide) (by decide)) q_54a q_54c (g := (mkF mI 24 #[.val (.ref g), .val (.ref q), .val (.int (-1 : Int32)), .val (.int (2 : Int32))] [(.ref sa), (.ref q)])) rfl (by rw [hml]; rfl) (Steps.refl _) (argsL := [(.ref sa)]) (rest := []) (lenOf pd_22 rfl) rfl (by show 2 * 0 + _ ≤ _; exact Nat.le_of_eq rfl) (hb hby dnd_24) (fun _ _ => ⟨rfl, e_46, (by decide : 0 + 0 ≤ _), (by decide : 0 + 0 ≤ _)⟩)
              dsimp only [Pt.U, Pt.locs, Pt.cells, Pt.slots] at X_54 l_54 y_54 z_54 st_54 hQ_54
              subst l_54 y_54 z_54
              obtain ⟨rfl, N_54q, eh_54⟩ := hQ_54
              have N_54 := Fr.app Nj_43 N_54q
              refine hst (fun _ kt => st_54.trans kt) ?_
              show G (T_54.setTop (mkF mI 27 #[.val (.ref g), .val (.ref q), .val (.int (-1 : Int32)), .val (.int (2 : Int32))] [(.int (own_eq u wv))]))
              exact J2 _ T_54 _ X_54 eh_54 N_54 (by rw [ho2]; rfl)
          ·
            refine hst (fun _ kt => XS.ifNo Xj_43.here hx rfl (hb hby dnd_27) rfl ((if0 _ _).trans (feq hz1).1) kt) ?_
            show G (Tj_43.setTop (mkF mI 30 #[.val (.ref g), .val (.ref q), .val (.int (-1 : Int32)), .val (.int (1 : Int32))] []))
            rw [hev] at hz1
            refine o_iloadN hst Xj_43.here hx (hb hby dnd_30) (pc' := 31) rfl rfl ?_
            refine o_istoreN hst Xj_43.here hx (hb hby dnd_31) (pc' := 32) rfl (Lt := #[.val (.ref g), .val (.ref q), .val (.int (1 : Int32)), .val (.int (1 : Int32))]) rfl ?_
            refine o_iinc hst Xj_43.here hx (hb hby dnd_32) (pc' := 35) rfl rfl (Lt := #[.val (.ref g), .val (.ref q), .val (.int (1 : Int32)), .val (.int ((1 : Int32) + (1 : Int32)))]) rfl ?_
            rw [show ((1 : Int32) + (1 : Int32)) = (2 : Int32) from by decide]
            show G (Tj_43.setTop (mkF mI 35 #[.val (.ref g), .val (.ref q), .val (.int (1 : Int32)), .val (.int (2 : Int32))] []))
            refine o_goto hst Xj_43.here hx (hb hby dnd_35) (by decide) (pc' := 4) (by decide) ?_
            refine o_iloadN hst Xj_43.here hx (hb hby dnd_4) (pc' := 5) rfl rfl ?_
            refine o_aloadN hst Xj_43.here hx (hb hby dnd_5) (pc' := 6) rfl rfl rfl ?_
            obtain ⟨T_55, X_55, e_55, st_55⟩ := getF Xj_43 hx hZ hown (host := "") (Or.inl (own_w146 hw)) Via.refl ej_43 F_iris_g (g := (mkF mI 6 #[.val (.ref g), .val (.ref q), .val (.int (1 : Int32)), .val (.int (2 : Int32))] [(.ref g), (.int (2 : Int32))])) rfl rfl (hb hby dnd_6)
            refine hst st_55 ?_
            show G (T_55.setTop (mkF mI 9 #[.val (.ref g), .val (.ref q), .val (.int (1 : Int32)), .val (.int (2 : Int32))] [(.ref ir), (.int (2 : Int32))]))
            obtain ⟨cl_56, Ar_56, -, S_56, M_56, -, -⟩ := id V_ir
            refine hst (X_55.arraylength hx (by rw [e_55]; exact Ar_56.1) (State.isArrayOf_alike hZ.alike Ar_56.2.1) (g := (mkF mI 9 #[.val (.ref g), .val (.ref q), .val (.int (1 : Int32)), .val (.int (2 : Int32))] [(.ref ir), (.int (2 : Int32))])) rfl rfl (hb hby dnd_9)) ?_
            rw [len_of S_56 M_56]
            show G (T_55.setTop (mkF mI 10 #[.val (.ref g), .val (.ref q), .val (.int (1 : Int32)), .val (.int (2 : Int32))] [(.int (3 : Int32)), (.int (2 : Int32))]))
            have hx1 : (2 : Int32) < (3 : Int32) := by decide
            refine hst (fun _ kt => XS.icmpNo X_55.here hx rfl (hb hby dnd_10) rfl (tlt hx1).2.1 kt) ?_
            show G (T_55.setTop (mkF mI 13 #[.val (.ref g), .val (.ref q), .val (.int (1 : Int32)), .val (.int (2 : Int32))] []))
            refine o_iloadN hst X_55.here hx (hb hby dnd_13) (pc' := 14) rfl rfl ?_
            have hy1 : ¬ ((1 : Int32) < (0 : Int32)) := by decide
            refine hst (fun _ kt => XS.ifYes X_55.here hx rfl (pc0 := 14) (pc' := 38) rfl (hb hby dnd_14) rfl ((if0 _ _).trans (flt hy1).2.1) (by decide) (by decide) kt) ?_
            show G (T_55.setTop (mkF mI 38 #[.val (.ref g), .val (.ref q), .val (.int (1 : Int32)), .val (.int (2 : Int32))] []))
            refine o_iloadN hst X_55.here hx (hb hby dnd_38) (pc' := 39) rfl rfl ?_
            exact hend (own_goRet X_55 hx Bd.returns rfl (Or.inl ⟨rfl, by simp, _, rfl⟩) (hb hby dnd_39) Bd.notSynchronized (by rw [e_55]; exact ⟨by simp [own_nd, hz0, hz1], Nj_43, rfl⟩) (by decide) (by decide))
        cases ho1 : o1 with
        | none =>
          have er1 : r1 = .null := by have z := C_s1; rw [ho1] at z; exact z
          rw [er1]
          show G (T_41.setTop (mkF mI 24 #[.val (.ref g), .val (.ref q), .val (.int (-1 : Int32)), .val (.int (1 : Int32))] [.null, (.ref q)]))
          obtain ⟨cq_57, kq_57, q_57a, q_57b, q_57c⟩ := isOf hZ e_41 E_q
          obtain ⟨_, _, ⟨T_57, L_57, k_57, n_57⟩, -, X_57, ⟨Lc_57, hQ_57, l_57, y_57, z_57⟩, st_57⟩ := X_41.virtualBack hx (y := (⟨"java/lang/String", "equals", "(Ljava/lang/Object;)Z"⟩ : MethodName)) (z := (⟨"java/lang/String", "equals", "(Ljava/lang/Object;)Z"⟩ : MethodName)) hown (mvT hZ (own_w329 hw)) (mvT hZ (own_w330 hw)) (notFace_of_selects (args := #[]) (mvT hZ (own_w332 hw))) (mvT hZ (own_w332 hw)) (mvT hZ (own_w331 hw)) (by decide) (backOf (W := 0) (rmen lL Z a0 hw [] q  h0 n0 Z0) hZ (own_w333 hw) (own_w8 hw) (by decide) (by decide)) q_57a q_57c (g := (mkF mI 24 #[.val (.ref g), .val (.ref q), .val (.int (-1 : Int32)), .val (.int (1 : Int32))] [.null, (.ref q)])) rfl (by rw [hml]; rfl) (Steps.refl _) (argsL := [.null]) (rest := []) (lenOf pd_22 rfl) rfl (by show 2 * 0 + _ ≤ _; exact Nat.le_of_eq rfl) (hb hby dnd_24) (fun _ _ => ⟨rfl, e_41, (by decide : 0 + 0 ≤ _), (by decide : 0 + 0 ≤ _)⟩)
          dsimp only [Pt.U, Pt.locs, Pt.cells, Pt.slots] at X_57 l_57 y_57 z_57 st_57 hQ_57
          subst l_57 y_57 z_57
          obtain ⟨rfl, N_57q, eh_57⟩ := hQ_57
          have N_57 := Fr.app Nj_38 N_57q
          refine hst (fun _ kt => st_57.trans kt) ?_
          show G (T_57.setTop (mkF mI 27 #[.val (.ref g), .val (.ref q), .val (.int (-1 : Int32)), .val (.int (1 : Int32))] [(.int (0 : Int32))]))
          exact J1 _ T_57 _ X_57 eh_57 N_57 (by rw [ho1]; rfl)
        | some wv =>
          obtain ⟨sa, sb, k_sb, er1, hsa, hsb, E_sa, C_sa, V_sa, A_sb⟩ : own_St Z h0 B0 r1 (some wv) := by have z := C_s1; rw [ho1] at z; exact z
          rw [er1]
          show G (T_41.setTop (mkF mI 24 #[.val (.ref g), .val (.ref q), .val (.int (-1 : Int32)), .val (.int (1 : Int32))] [(.ref sa), (.ref q)]))
          obtain ⟨cq_58, kq_58, q_58a, q_58b, q_58c⟩ := isOf hZ e_41 E_q
          obtain ⟨_, _, ⟨T_58, L_58, k_58, n_58⟩, -, X_58, ⟨Lc_58, hQ_58, l_58, y_58, z_58⟩, st_58⟩ := X_41.virtualBack hx (y := (⟨"java/lang/String", "equals", "(Ljava/lang/Object;)Z"⟩ : MethodName)) (z := (⟨"java/lang/String", "equals", "(Ljava/lang/Object;)Z"⟩ : MethodName)) hown (mvT hZ (own_w329 hw)) (mvT hZ (own_w330 hw)) (notFace_of_selects (args := #[]) (mvT hZ (own_w332 hw))) (mvT hZ (own_w332 hw)) (mvT hZ (own_w331 hw)) (by decide) (backOf (W := 0) (rmeq lL Z a0 hw [] q sa d sb k_d k_sb u wv cz h0 n0 Z0 (fun z => absurd hsa (by subst z; exact Nat.not_lt.mpr hBq)) E_q F_coder_q F_value_q V_d E_sa C_sa V_sa A_sb S_c hcz) hZ (own_w333 hw) (own_w8 hw) (by decide) (by decide)) q_58a q_58c (g := (mkF mI 24 #[.val (.ref g), .val (.ref q), .val (.int (-1 : Int32)), .val (.int (1 : Int32))] [(.ref sa), (.ref q)])) rfl (by rw [hml]; rfl) (Steps.refl _) (argsL := [(.ref sa)]) (rest := []) (lenOf pd_22 rfl) rfl (by show 2 * 0 + _ ≤ _; exact Nat.le_of_eq rfl) (hb hby dnd_24) (fun _ _ => ⟨rfl, e_41, (by decide : 0 + 0 ≤ _), (by decide : 0 + 0 ≤ _)⟩)
          dsimp only [Pt.U, Pt.locs, Pt.cells, Pt.slots] at X_58 l_58 y_58 z_58 st_58 hQ_58
          subst l_58 y_58 z_58
          obtain ⟨rfl, N_58q, eh_58⟩ := hQ_58
          have N_58 := Fr.app Nj_38 N_58q
          refine hst (fun _ kt => st_58.trans kt) ?_
          show G (T_58.setTop (mkF mI 27 #[.val (.ref g), .val (.ref q), .val (.int (-1 : Int32)), .val (.int (1 : Int32))] [(.int (own_eq u wv))]))
          exact J1 _ T_58 _ X_58 eh_58 N_58 (by rw [ho1]; rfl)
      ·
        refine hst (fun _ kt => XS.ifNo Xj_38.here hx rfl (hb hby dnd_27) rfl ((if0 _ _).trans (feq hz0).1) kt) ?_
        show G (Tj_38.setTop (mkF mI 30 #[.val (.ref g), .val (.ref q), .val (.int (-1 : Int32)), .val (.int (0 : Int32))] []))
        rw [hev] at hz0
        refine o_iloadN hst Xj_38.here hx (hb hby dnd_30) (pc' := 31) rfl rfl ?_
        refine o_istoreN hst Xj_38.here hx (hb hby dnd_31) (pc' := 32) rfl (Lt := #[.val (.ref g), .val (.ref q), .val (.int (0 : Int32)), .val (.int (0 : Int32))]) rfl ?_
        refine o_iinc hst Xj_38.here hx (hb hby dnd_32) (pc' := 35) rfl rfl (Lt := #[.val (.ref g), .val (.ref q), .val (.int (0 : Int32)), .val (.int ((0 : Int32) + (1 : Int32)))]) rfl ?_
        rw [show ((0 : Int32) + (1 : Int32)) = (1 : Int32) from by decide]
        show G (Tj_38.setTop (mkF mI 35 #[.val (.ref g), .val (.ref q), .val (.int (0 : Int32)), .val (.int (1 : Int32))] []))
        refine o_goto hst Xj_38.here hx (hb hby dnd_35) (by decide) (pc' := 4) (by decide) ?_
        refine o_iloadN hst Xj_38.here hx (hb hby dnd_4) (pc' := 5) rfl rfl ?_
        refine o_aloadN hst Xj_38.here hx (hb hby dnd_5) (pc' := 6) rfl rfl rfl ?_
        obtain ⟨T_59, X_59, e_59, st_59⟩ := getF Xj_38 hx hZ hown (host := "") (Or.inl (own_w146 hw)) Via.refl ej_38 F_iris_g (g := (mkF mI 6 #[.val (.ref g), .val (.ref q), .val (.int (0 : Int32)), .val (.int (1 : Int32))] [(.ref g), (.int (1 : Int32))])) rfl rfl (hb hby dnd_6)
        refine hst st_59 ?_
        show G (T_59.setTop (mkF mI 9 #[.val (.ref g), .val (.ref q), .val (.int (0 : Int32)), .val (.int (1 : Int32))] [(.ref ir), (.int (1 : Int32))]))
        obtain ⟨cl_60, Ar_60, -, S_60, M_60, -, -⟩ := id V_ir
        refine hst (X_59.arraylength hx (by rw [e_59]; exact Ar_60.1) (State.isArrayOf_alike hZ.alike Ar_60.2.1) (g := (mkF mI 9 #[.val (.ref g), .val (.ref q), .val (.int (0 : Int32)), .val (.int (1 : Int32))] [(.ref ir), (.int (1 : Int32))])) rfl rfl (hb hby dnd_9)) ?_
        rw [len_of S_60 M_60]
        show G (T_59.setTop (mkF mI 10 #[.val (.ref g), .val (.ref q), .val (.int (0 : Int32)), .val (.int (1 : Int32))] [(.int (3 : Int32)), (.int (1 : Int32))]))
        have hx0 : (1 : Int32) < (3 : Int32) := by decide
        refine hst (fun _ kt => XS.icmpNo X_59.here hx rfl (hb hby dnd_10) rfl (tlt hx0).2.1 kt) ?_
        show G (T_59.setTop (mkF mI 13 #[.val (.ref g), .val (.ref q), .val (.int (0 : Int32)), .val (.int (1 : Int32))] []))
        refine o_iloadN hst X_59.here hx (hb hby dnd_13) (pc' := 14) rfl rfl ?_
        have hy0 : ¬ ((0 : Int32) < (0 : Int32)) := by decide
        refine hst (fun _ kt => XS.ifYes X_59.here hx rfl (pc0 := 14) (pc' := 38) rfl (hb hby dnd_14) rfl ((if0 _ _).trans (flt hy0).2.1) (by decide) (by decide) kt) ?_
        show G (T_59.setTop (mkF mI 38 #[.val (.ref g), .val (.ref q), .val (.int (0 : Int32)), .val (.int (1 : Int32))] []))
        refine o_iloadN hst X_59.here hx (hb hby dnd_38) (pc' := 39) rfl rfl ?_
        exact hend (own_goRet X_59 hx Bd.returns rfl (Or.inl ⟨rfl, by simp, _, rfl⟩) (hb hby dnd_39) Bd.notSynchronized (by rw [e_59]; exact ⟨by simp [own_nd, hz0], Nj_38, rfl⟩) (by decide) (by decide))
    cases ho0 : o0 with
    | none =>
      have er0 : r0 = .null := by have z := C_s0; rw [ho0] at z; exact z
      rw [er0]
      show G (T_36.setTop (mkF mI 24 #[.val (.ref g), .val (.ref q), .val (.int (-1 : Int32)), .val (.int (0 : Int32))] [.null, (.ref q)]))
      obtain ⟨cq_61, kq_61, q_61a, q_61b, q_61c⟩ := isOf hZ e_36 E_q
      obtain ⟨_, _, ⟨T_61, L_61, k_61, n_61⟩, -, X_61, ⟨Lc_61, hQ_61, l_61, y_61, z_61⟩, st_61⟩ := X_36.virtualBack hx (y := (⟨"java/lang/String", "equals", "(Ljava/lang/Object;)Z"⟩ : MethodName)) (z := (⟨"java/lang/String", "equals", "(Ljava/lang/Object;)Z"⟩ : MethodName)) hown (mvT hZ (own_w329 hw)) (mvT hZ (own_w330 hw)) (notFace_of_selects (args := #[]) (mvT hZ (own_w332 hw))) (mvT hZ (own_w332 hw)) (mvT hZ (own_w331 hw)) (by decide) (backOf (W := 0) (rmen lL Z a0 hw [] q  h0 n0 Z0) hZ (own_w333 hw) (own_w8 hw) (by decide) (by decide)) q_61a q_61c (g := (mkF mI 24 #[.val (.ref g), .val (.ref q), .val (.int (-1 : Int32)), .val (.int (0 : Int32))] [.null, (.ref q)])) rfl (by rw [hml]; rfl) (Steps.refl _) (argsL := [.null]) (rest := []) (lenOf pd_22 rfl) rfl (by show 2 * 0 + _ ≤ _; exact Nat.le_of_eq rfl) (hb hby dnd_24) (fun _ _ => ⟨rfl, e_36, (by decide : 0 + 0 ≤ _), (by decide : 0 + 0 ≤ _)⟩)
      dsimp only [Pt.U, Pt.locs, Pt.cells, Pt.slots] at X_61 l_61 y_61 z_61 st_61 hQ_61
      subst l_61 y_61 z_61
      obtain ⟨rfl, N_61q, eh_61⟩ := hQ_61
      have N_61 := Fr.app N0 N_61q
      refine hst (fun _ kt => st_61.trans kt) ?_
      show G (T_61.setTop (mkF mI 27 #[.val (.ref g), .val (.ref q), .val (.int (-1 : Int32)), .val (.int (0 : Int32))] [(.int (0 : Int32))]))
      exact J0 _ T_61 _ X_61 eh_61 N_61 (by rw [ho0]; rfl)
    | some wv =>
      obtain ⟨sa, sb, k_sb, er0, hsa, hsb, E_sa, C_sa, V_sa, A_sb⟩ : own_St Z h0 B0 r0 (some wv) := by have z := C_s0; rw [ho0] at z; exact z
      rw [er0]
      show G (T_36.setTop (mkF mI 24 #[.val (.ref g), .val (.ref q), .val (.int (-1 : Int32)), .val (.int (0 : Int32))] [(.ref sa), (.ref q)]))
      obtain ⟨cq_62, kq_62, q_62a, q_62b, q_62c⟩ := isOf hZ e_36 E_q
      obtain ⟨_, _, ⟨T_62, L_62, k_62, n_62⟩, -, X_62, ⟨Lc_62, hQ_62, l_62, y_62, z_62⟩, st_62⟩ := X_36.virtualBack hx (y := (⟨"java/lang/String", "equals", "(Ljava/lang/Object;)Z"⟩ : MethodName)) (z := (⟨"java/lang/String", "equals", "(Ljava/lang/Object;)Z"⟩ : MethodName)) hown (mvT hZ (own_w329 hw)) (mvT hZ (own_w330 hw)) (notFace_of_selects (args := #[]) (mvT hZ (own_w332 hw))) (mvT hZ (own_w332 hw)) (mvT hZ (own_w331 hw)) (by decide) (backOf (W := 0) (rmeq lL Z a0 hw [] q sa d sb k_d k_sb u wv cz h0 n0 Z0 (fun z => absurd hsa (by subst z; exact Nat.not_lt.mpr hBq)) E_q F_coder_q F_value_q V_d E_sa C_sa V_sa A_sb S_c hcz) hZ (own_w333 hw) (own_w8 hw) (by decide) (by decide)) q_62a q_62c (g := (mkF mI 24 #[.val (.ref g), .val (.ref q), .val (.int (-1 : Int32)), .val (.int (0 : Int32))] [(.ref sa), (.ref q)])) rfl (by rw [hml]; rfl) (Steps.refl _) (argsL := [(.ref sa)]) (rest := []) (lenOf pd_22 rfl) rfl (by show 2 * 0 + _ ≤ _; exact Nat.le_of_eq rfl) (hb hby dnd_24) (fun _ _ => ⟨rfl, e_36, (by decide : 0 + 0 ≤ _), (by decide : 0 + 0 ≤ _)⟩)
      dsimp only [Pt.U, Pt.locs, Pt.cells, Pt.slots] at X_62 l_62 y_62 z_62 st_62 hQ_62
      subst l_62 y_62 z_62
      obtain ⟨rfl, N_62q, eh_62⟩ := hQ_62
      have N_62 := Fr.app N0 N_62q
      refine hst (fun _ kt => st_62.trans kt) ?_
      show G (T_62.setTop (mkF mI 27 #[.val (.ref g), .val (.ref q), .val (.int (-1 : Int32)), .val (.int (0 : Int32))] [(.int (own_eq u wv))]))
      exact J0 _ T_62 _ X_62 eh_62 N_62 (by rw [ho0]; rfl)
theorem ef_0 (mI : MethodId) (bits : Int32) (qq : Int32) (y0 : Int32) (y1 : Int32) (y2 : Int32) : entryFrame mI #[(.int bits), (.int qq), (.int y0), (.int y1), (.int y2)] maxLocals = mkF mI 0 #[.val (.int bits), .val (.int qq), .val (.int y0), .val (.int y1), .val (.int y2), .unset, .unset, .unset, .unset, .unset, .unset, .unset, .unset, .unset, .unset, .unset, .unset, .unset, .unset, .unset, .unset] [] := by first | (simp [entryFrame, mkF, argsToLocals, Value.category, maxLocals]; done) | rfl
theorem pn_0 : plainName x.cls = true := by first | decide +kernel | (simp [plainName, overriddenIn]; done)
set_option maxRecDepth 65536 in
set_option maxHeartbeats 40000000 in
theorem rm0 (lL : Launch) (Z : State) (a0 : Array Value) (hw : ∀ d ∈ tables_1, d.before a0 Z = true) (ws : List Jvm.Cond) (bits : Int32) (qq : Int32) (y0 : Int32) (y1 : Int32) (y2 : Int32) (cz : Int32) (h0 : Heap) (n0 : Nat) (Z0 : n0 ≤ h0.size) (S_c : Sta Z h0 "java/lang/String" "COMPACT_STRINGS" "Z" (.int cz)) (hcz : ¬ cz = 0) :
    MetFree lL x (head1 (Jvm.Cond.code x code maxLocals ret :: ws) room_1) (fun a_ U_ => a_ = #[(.int bits), (.int qq), (.int y0), (.int y1), (.int y2)] ∧ Z.Warmed39 U_.vm ∧ U_.heap = h0) (fun _ _ _ _ _ => True) (fun _ U_ o_ W_ => ∃ v_ L_, o_ = .returned v_ ∧ own_Q0 n0 v_ W_.heap L_ ∧ FrameEnd U_ o_ W_ L_ room_1.cells room_1.slots) := by
  refine MetFree.of_bodySF (plainFor_of_name pn_0) hisR ?_
  intro pP eE sS mI args below meth cC s₁ Bd hml0 hP hK
  obtain ⟨rfl, hZ, hh⟩ := hP
  have hx := Bd.exec
  have hby := Bd.bytes
  have hml : cC.maxLocals = 21 := hml0
  have hown : sS.vm.findClass x.cls = some mI.cls := by have z := findClass_of_methodNamed Bd.named; exact z
  have hnm := (name_of_methodNamed Bd.named Bd.method).1
  have X0 : Stand pP lL eE room_1 sS mI #[(.int bits), (.int qq), (.int y0), (.int y1), (.int y2)] below meth cC s₁ [] 0 0 := Stand.of_body Bd
  have e0 : s₁.heap = h0 := by rw [← hh, Bd.state]; rfl
  have N0 := Fr.nil n0
  obtain ⟨G, hG, hst, hend⟩ := own_abs pP eE below sS (own_Q0 n0) room_1.cells room_1.slots
  refine hG (S := s₁.setTop (entryFrame mI #[(.int bits), (.int qq), (.int y0), (.int y1), (.int y2)] maxLocals)) (hst (fun t_ kt_ => castTop (ef_0 mI bits qq y0 y1 y2) kt_) ?_)
  show G (s₁.setTop (mkF mI 0 #[.val (.int bits), .val (.int qq), .val (.int y0), .val (.int y1), .val (.int y2), .unset, .unset, .unset, .unset, .unset, .unset, .unset, .unset, .unset, .unset, .unset, .unset, .unset, .unset, .unset, .unset] []))
  refine o_iloadN hst X0.here hx (hb hby at_0) (pc' := 1) rfl rfl ?_
  refine o_iconst hst X0.here hx (hb hby at_1) (pc' := 2) rfl (z := (3 : Int32)) rfl ?_
  refine o_iand hst X0.here hx (hb hby at_2) (pc' := 3) rfl ?_
  have hin := own_In_and bits
  generalize (bits &&& (3 : Int32)) = nn at hin ⊢
  show G (s₁.setTop (mkF mI 3 #[.val (.int bits), .val (.int qq), .val (.int y0), .val (.int y1), .val (.int y2), .unset, .unset, .unset, .unset, .unset, .unset, .unset, .unset, .unset, .unset, .unset, .unset, .unset, .unset, .unset, .unset] [(.int nn)]))
  refine o_istore hst X0.here hx (hb hby at_3) (pc' := 5) rfl (Lt := #[.val (.int bits), .val (.int qq), .val (.int y0), .val (.int y1), .val (.int y2), .val (.int nn), .unset, .unset, .unset, .unset, .unset, .unset, .unset, .unset, .unset, .unset, .unset, .unset, .unset, .unset, .unset]) rfl ?_
  refine o_iloadN hst X0.here hx (hb hby at_5) (pc' := 6) rfl rfl ?_
  refine o_sipush hst X0.here hx (hb hby at_6) (pc' := 9) rfl (z := (255 : Int32)) rfl ?_
  refine o_iand hst X0.here hx (hb hby at_9) (pc' := 10) rfl ?_
  refine o_i2c hst X0.here hx (hb hby at_10) (pc' := 11) rfl ?_
  show G (s₁.setTop (mkF mI 11 #[.val (.int bits), .val (.int qq), .val (.int y0), .val (.int y1), .val (.int y2), .val (.int nn), .unset, .unset, .unset, .unset, .unset, .unset, .unset, .unset, .unset, .unset, .unset, .unset, .unset, .unset, .unset] [(.int (own_ch qq))]))
  refine o_istore hst X0.here hx (hb hby at_11) (pc' := 13) rfl (Lt := #[.val (.int bits), .val (.int qq), .val (.int y0), .val (.int y1), .val (.int y2), .val (.int nn), .val (.int (own_ch qq)), .unset, .unset, .unset, .unset, .unset, .unset, .unset, .unset, .unset, .unset, .unset, .unset, .unset, .unset]) rfl ?_
  refine o_iloadN hst X0.here hx (hb hby at_13) (pc' := 14) rfl rfl ?_
  refine o_iconst hst X0.here hx (hb hby at_14) (pc' := 15) rfl (z := (2 : Int32)) rfl ?_
  refine o_iushr hst X0.here hx (hb hby at_15) (pc' := 16) rfl ?_
  refine o_iconst hst X0.here hx (hb hby at_16) (pc' := 17) rfl (z := (3 : Int32)) rfl ?_
  refine o_iand hst X0.here hx (hb hby at_17) (pc' := 18) rfl ?_
  generalize (((bits.toUInt32 >>> ((2 : Int32) &&& 31).toUInt32).toInt32) &&& (3 : Int32)) = kd0
  show G (s₁.setTop (mkF mI 18 #[.val (.int bits), .val (.int qq), .val (.int y0), .val (.int y1), .val (.int y2), .val (.int nn), .val (.int (own_ch qq)), .unset, .unset, .unset, .unset, .unset, .unset, .unset, .unset, .unset, .unset, .unset, .unset, .unset, .unset] [(.int kd0)]))
  refine o_istore hst X0.here hx (hb hby at_18) (pc' := 20) rfl (Lt := #[.val (.int bits), .val (.int qq), .val (.int y0), .val (.int y1), .val (.int y2), .val (.int nn), .val (.int (own_ch qq)), .val (.int kd0), .unset, .unset, .unset, .unset, .unset, .unset, .unset, .unset, .unset, .unset, .unset, .unset, .unset]) rfl ?_
  refine o_iloadN hst X0.here hx (hb hby at_20) (pc' := 21) rfl rfl ?_
  refine o_iconst hst X0.here hx (hb hby at_21) (pc' := 22) rfl (z := (4 : Int32)) rfl ?_
  refine o_iushr hst X0.here hx (hb hby at_22) (pc' := 23) rfl ?_
  refine o_iconst hst X0.here hx (hb hby at_23) (pc' := 24) rfl (z := (3 : Int32)) rfl ?_
  refine o_iand hst X0.here hx (hb hby at_24) (pc' := 25) rfl ?_
  generalize (((bits.toUInt32 >>> ((4 : Int32) &&& 31).toUInt32).toInt32) &&& (3 : Int32)) = kd1
  show G (s₁.setTop (mkF mI 25 #[.val (.int bits), .val (.int qq), .val (.int y0), .val (.int y1), .val (.int y2), .val (.int nn), .val (.int (own_ch qq)), .val (.int kd0), .unset, .unset, .unset, .unset, .unset, .unset, .unset, .unset, .unset, .unset, .unset, .unset, .unset] [(.int kd1)]))
  refine o_istore hst X0.here hx (hb hby at_25) (pc' := 27) rfl (Lt := #[.val (.int bits), .val (.int qq), .val (.int y0), .val (.int y1), .val (.int y2), .val (.int nn), .val (.int (own_ch qq)), .val (.int kd0), .val (.int kd1), .unset, .unset, .unset, .unset, .unset, .unset, .unset, .unset, .unset, .unset, .unset, .unset]) rfl ?_
  refine o_iloadN hst X0.here hx (hb hby at_27) (pc' := 28) rfl rfl ?_
  refine o_bipush hst X0.here hx (hb hby at_28) (pc' := 30) rfl (z := (6 : Int32)) rfl ?_
  refine o_iushr hst X0.here hx (hb hby at_30) (pc' := 31) rfl ?_
  refine o_iconst hst X0.here hx (hb hby at_31) (pc' := 32) rfl (z := (3 : Int32)) rfl ?_
  refine o_iand hst X0.here hx (hb hby at_32) (pc' := 33) rfl ?_
  generalize (((bits.toUInt32 >>> ((6 : Int32) &&& 31).toUInt32).toInt32) &&& (3 : Int32)) = kd2
  show G (s₁.setTop (mkF mI 33 #[.val (.int bits), .val (.int qq), .val (.int y0), .val (.int y1), .val (.int y2), .val (.int nn), .val (.int (own_ch qq)), .val (.int kd0), .val (.int kd1), .unset, .unset, .unset, .unset, .unset, .unset, .unset, .unset, .unset, .unset, .unset, .unset] [(.int kd2)]))
  have hq0 : ¬ nar .char (own_ch qq) < 0 := by rw [own_ch_nar]; exact own_ch_nn qq
  have hq1 : ¬ (255 : Int32) < nar .char (own_ch qq) := by rw [own_ch_nar]; exact own_ch_le qq
  refine o_istore hst X0.here hx (hb hby at_33) (pc' := 35) rfl (Lt := #[.val (.int bits), .val (.int qq), .val (.int y0), .val (.int y1), .val (.int y2), .val (.int nn), .val (.int (own_ch qq)), .val (.int kd0), .val (.int kd1), .val (.int kd2), .unset, .unset, .unset, .unset, .unset, .unset, .unset, .unset, .unset, .unset, .unset]) rfl ?_
  refine o_iload hst X0.here hx (hb hby at_35) (pc' := 37) rfl rfl ?_
  refine o_iload hst X0.here hx (hb hby at_37) (pc' := 39) rfl rfl ?_
  refine o_iloadN hst X0.here hx (hb hby at_39) (pc' := 40) rfl rfl ?_
  obtain ⟨_, _, ⟨T_1, L_1, k_1, n_1⟩, -, X_1, ⟨Lc_1, hQ_1, l_1, y_1, z_1⟩, st_1⟩ := Jvm.LawKit.callS X0 hx (y := (⟨x.cls, "entry", "(ICI)Ljava/lang/String;"⟩ : MethodName)) hown (mvT hZ (own_w0 hw)) (mvT hZ (own_w1 hw)) (mvT hZ (own_w2 hw)) (mvT hZ (own_w3 hw)) (by decide) (backOf (W := 0) (rmey lL Z a0 hw [] kd0 (own_ch qq) y0 cz h0 n0 Z0 S_c hcz hq0 hq1) hZ (own_w3 hw) (own_w2 hw) (by decide) (by decide)) (g := (mkF mI 40 #[.val (.int bits), .val (.int qq), .val (.int y0), .val (.int y1), .val (.int y2), .val (.int nn), .val (.int (own_ch qq)), .val (.int kd0), .val (.int kd1), .val (.int kd2), .unset, .unset, .unset, .unset, .unset, .unset, .unset, .unset, .unset, .unset, .unset] [(.int y0), (.int (own_ch qq)), (.int kd0)])) rfl (by rw [hml]; rfl) (argsL := [(.int kd0), (.int (own_ch qq)), (.int y0)]) (rest := []) (lenOf pd_23 rfl) rfl (by show 2 * 0 + _ ≤ _; exact Nat.le_of_eq rfl) (hb hby at_40) (fun _ _ => ⟨rfl, e0, (by decide : 0 + 3 ≤ _), (by decide : 0 + 6 ≤ _)⟩)
  dsimp only [Pt.U, Pt.locs, Pt.cells, Pt.slots] at X_1 l_1 y_1 z_1 st_1 hQ_1
  subst l_1 y_1 z_1
  obtain ⟨r0, rfl, N_1q, K_1, C_s0⟩ := hQ_1
  have hr0 := own_St_ref C_s0
  have S_c := own_Sta_keepL S_c K_1 all0
  have Z0 := Nat.le_trans Z0 K_1.1
  have N_1 := Fr.app N0 N_1q
  refine hst (fun _ kt => st_1 _ kt) ?_
  show G (T_1.setTop (mkF mI 43 #[.val (.int bits), .val (.int qq), .val (.int y0), .val (.int y1), .val (.int y2), .val (.int nn), .val (.int (own_ch qq)), .val (.int kd0), .val (.int kd1), .val (.int kd2), .unset, .unset, .unset, .unset, .unset, .unset, .unset, .unset, .unset, .unset, .unset] [r0]))
  refine o_astore hst X_1.here hx (hb hby at_43) (pc' := 45) rfl (Lt := #[.val (.int bits), .val (.int qq), .val (.int y0), .val (.int y1), .val (.int y2), .val (.int nn), .val (.int (own_ch qq)), .val (.int kd0), .val (.int kd1), .val (.int kd2), .val r0, .unset, .unset, .unset, .unset, .unset, .unset, .unset, .unset, .unset, .unset]) hr0 (by rcases ref_cases hr0 with q | ⟨_, q⟩ <;> (subst q; rfl)) ?_
  refine o_iload hst X_1.here hx (hb hby at_45) (pc' := 47) rfl rfl ?_
  refine o_iload hst X_1.here hx (hb hby at_47) (pc' := 49) rfl rfl ?_
  refine o_iloadN hst X_1.here hx (hb hby at_49) (pc' := 50) rfl rfl ?_
  obtain ⟨_, _, ⟨T_2, L_2, k_2, n_2⟩, -, X_2, ⟨Lc_2, hQ_2, l_2, y_2, z_2⟩, st_2⟩ := Jvm.LawKit.callS X_1 hx (y := (⟨x.cls, "entry", "(ICI)Ljava/lang/String;"⟩ : MethodName)) hown (mvT hZ (own_w0 hw)) (mvT hZ (own_w1 hw)) (mvT hZ (own_w2 hw)) (mvT hZ (own_w3 hw)) (by decide) (backOf (W := 0) (rmey lL Z a0 hw [] kd1 (own_ch qq) y1 cz T_1.heap n0 Z0 S_c hcz hq0 hq1) hZ (own_w3 hw) (own_w2 hw) (by decide) (by decide)) (g := (mkF mI 50 #[.val (.int bits), .val (.int qq), .val (.int y0), .val (.int y1), .val (.int y2), .val (.int nn), .val (.int (own_ch qq)), .val (.int kd0), .val (.int kd1), .val (.int kd2), .val r0, .unset, .unset, .unset, .unset, .unset, .unset, .unset, .unset, .unset, .unset] [(.int y1), (.int (own_ch qq)), (.int kd1)])) rfl (by rw [hml]; rfl) (argsL := [(.int kd1), (.int (own_ch qq)), (.int y1)]) (rest := []) (lenOf pd_23 rfl) rfl (by show 2 * 0 + _ ≤ _; exact Nat.le_of_eq rfl) (hb hby at_50) (fun _ _ => ⟨rfl, rfl, (by decide : 3 + 3 ≤ _), (by decide : 6 + 6 ≤ _)⟩)
  dsimp only [Pt.U, Pt.locs, Pt.cells, Pt.slots] at X_2 l_2 y_2 z_2 st_2 hQ_2
  subst l_2 y_2 z_2
  obtain ⟨r1, rfl, N_2q, K_2, C_s1⟩ := hQ_2
  have hr1 := own_St_ref C_s1
  have S_c := own_Sta_keepL S_c K_2 all0
  have Z0 := Nat.le_trans Z0 K_2.1
  have C_s0 := own_St_mono (own_St_keep C_s0 K_2 all0) K_2.1
  have N_2 := Fr.app N_1 N_2q
  refine hst (fun _ kt => st_2 _ kt) ?_
  show G (T_2.setTop (mkF mI 53 #[.val (.int bits), .val (.int qq), .val (.int y0), .val (.int y1), .val (.int y2), .val (.int nn), .val (.int (own_ch qq)), .val (.int kd0), .val (.int kd1), .val (.int kd2), .val r0, .unset, .unset, .unset, .unset, .unset, .unset, .unset, .unset, .unset, .unset] [r1]))
  refine o_astore hst X_2.here hx (hb hby at_53) (pc' := 55) rfl (Lt := #[.val (.int bits), .val (.int qq), .val (.int y0), .val (.int y1), .val (.int y2), .val (.int nn), .val (.int (own_ch qq)), .val (.int kd0), .val (.int kd1), .val (.int kd2), .val r0, .val r1, .unset, .unset, .unset, .unset, .unset, .unset, .unset, .unset, .unset]) hr1 (by rcases ref_cases hr1 with q | ⟨_, q⟩ <;> (subst q; rfl)) ?_
  refine o_iload hst X_2.here hx (hb hby at_55) (pc' := 57) rfl rfl ?_
  refine o_iload hst X_2.here hx (hb hby at_57) (pc' := 59) rfl rfl ?_
  refine o_iload hst X_2.here hx (hb hby at_59) (pc' := 61) rfl rfl ?_
  obtain ⟨_, _, ⟨T_3, L_3, k_3, n_3⟩, -, X_3, ⟨Lc_3, hQ_3, l_3, y_3, z_3⟩, st_3⟩ := Jvm.LawKit.callS X_2 hx (y := (⟨x.cls, "entry", "(ICI)Ljava/lang/String;"⟩ : MethodName)) hown (mvT hZ (own_w0 hw)) (mvT hZ (own_w1 hw)) (mvT hZ (own_w2 hw)) (mvT hZ (own_w3 hw)) (by decide) (backOf (W := 0) (rmey lL Z a0 hw [] kd2 (own_ch qq) y2 cz T_2.heap n0 Z0 S_c hcz hq0 hq1) hZ (own_w3 hw) (own_w2 hw) (by decide) (by decide)) (g := (mkF mI 61 #[.val (.int bits), .val (.int qq), .val (.int y0), .val (.int y1), .val (.int y2), .val (.int nn), .val (.int (own_ch qq)), .val (.int kd0), .val (.int kd1), .val (.int kd2), .val r0, .val r1, .unset, .unset, .unset, .unset, .unset, .unset, .unset, .unset, .unset] [(.int y2), (.int (own_ch qq)), (.int kd2)])) rfl (by rw [hml]; rfl) (argsL := [(.int kd2), (.int (own_ch qq)), (.int y2)]) (rest := []) (lenOf pd_23 rfl) rfl (by show 2 * 0 + _ ≤ _; exact Nat.le_of_eq rfl) (hb hby at_61) (fun _ _ => ⟨rfl, rfl, (by decide : 6 + 3 ≤ _), (by decide : 12 + 6 ≤ _)⟩)
  dsimp only [Pt.U, Pt.locs, Pt.cells, Pt.slots] at X_3 l_3 y_3 z_3 st_3 hQ_3
  subst l_3 y_3 z_3
  obtain ⟨r2, rfl, N_3q, K_3, C_s2⟩ := hQ_3
  have hr2 := own_St_ref C_s2
  have S_c := own_Sta_keepL S_c K_3 all0
  have Z0 := Nat.le_trans Z0 K_3.1
  have C_s0 := own_St_mono (own_St_keep C_s0 K_3 all0) K_3.1
  have C_s1 := own_St_mono (own_St_keep C_s1 K_3 all0) K_3.1
  have N_3 := Fr.app N_2 N_3q
  refine hst (fun _ kt => st_3 _ kt) ?_
  show G (T_3.setTop (mkF mI 64 #[.val (.int bits), .val (.int qq), .val (.int y0), .val (.int y1), .val (.int y2), .val (.int nn), .val (.int (own_ch qq)), .val (.int kd0), .val (.int kd1), .val (.int kd2), .val r0, .val r1, .unset, .unset, .unset, .unset, .unset, .unset, .unset, .unset, .unset] [r2]))
  obtain ⟨B0, hB0⟩ : ∃ z, z = T_3.heap.size := ⟨_, rfl⟩
  have ZB : B0 ≤ T_3.heap.size := Nat.le_of_eq hB0
  obtain ⟨o0, ho0⟩ : ∃ z, z = own_eo kd0 (own_ch qq) y0 := ⟨_, rfl⟩
  rw [← ho0, ← hB0] at C_s0
  obtain ⟨o1, ho1⟩ : ∃ z, z = own_eo kd1 (own_ch qq) y1 := ⟨_, rfl⟩
  rw [← ho1, ← hB0] at C_s1
  obtain ⟨o2, ho2⟩ : ∃ z, z = own_eo kd2 (own_ch qq) y2 := ⟨_, rfl⟩
  rw [← ho2, ← hB0] at C_s2
  refine o_astore hst X_3.here hx (hb hby at_64) (pc' := 66) rfl (Lt := #[.val (.int bits), .val (.int qq), .val (.int y0), .val (.int y1), .val (.int y2), .val (.int nn), .val (.int (own_ch qq)), .val (.int kd0), .val (.int kd1), .val (.int kd2), .val r0, .val r1, .val r2, .unset, .unset, .unset, .unset, .unset, .unset, .unset, .unset]) hr2 (by rcases ref_cases hr2 with q | ⟨_, q⟩ <;> (subst q; rfl)) ?_
  refine o_iload hst X_3.here hx (hb hby at_66) (pc' := 68) rfl rfl ?_
  have J146 : ∀ (ir : Addr) (ki : ClassId) (hj_4 : Heap) (Tj_4 : State) (lj_4 : List Loc) (Xj_4 : Stand pP lL eE room_1 sS mI #[(.int bits), (.int qq), (.int y0), (.int y1), (.int y2)] below meth cC Tj_4 lj_4 10 21) (ej_4 : Tj_4.heap = hj_4) (Nj_4 : Fr n0 lj_4) (Z0 : n0 ≤ hj_4.size) (S_c : Sta Z hj_4 "java/lang/String" "COMPACT_STRINGS" "Z" (.int cz)) (ZB : B0 ≤ hj_4.size) (C_s0 : own_St Z hj_4 B0 r0 o0) (C_s1 : own_St Z hj_4 B0 r1 o1) (C_s2 : own_St Z hj_4 B0 r2 o2) (V_ir : Arv Z hj_4 ir ki (.object "java/lang/String") nn (own_rs nn r0 r1 r2) .null) (le_B_ir : B0 ≤ ir), G (Tj_4.setTop (mkF mI 146 #[.val (.int bits), .val (.int qq), .val (.int y0), .val (.int y1), .val (.int y2), .val (.int nn), .val (.int (own_ch qq)), .val (.int kd0), .val (.int kd1), .val (.int kd2), .val r0, .val r1, .val r2, .val (.ref ir), .unset, .unset, .unset, .unset, .unset, .unset, .unset] [])) := by
    intro ir ki hj_4 Tj_4 lj_4 Xj_4 ej_4 Nj_4 Z0 S_c ZB C_s0 C_s1 C_s2 V_ir le_B_ir
    show G (Tj_4.setTop (mkF mI 146 #[.val (.int bits), .val (.int qq), .val (.int y0), .val (.int y1), .val (.int y2), .val (.int nn), .val (.int (own_ch qq)), .val (.int kd0), .val (.int kd1), .val (.int kd2), .val r0, .val r1, .val r2, .val (.ref ir), .unset, .unset, .unset, .unset, .unset, .unset, .unset] []))
    refine o_iload hst Xj_4.here hx (hb hby at_146) (pc' := 148) rfl rfl ?_
    obtain ⟨_, _, ⟨T_5, L_5, k_5, n_5⟩, -, X_5, ⟨Lc_5, hQ_5, l_5, y_5, z_5⟩, st_5⟩ := Jvm.LawKit.callS Xj_4 hx (y := (⟨"java/lang/String", "valueOf", "(C)Ljava/lang/String;"⟩ : MethodName)) hown (mvT hZ (own_w6 hw)) (mvT hZ (own_w7 hw)) (mvT hZ (own_w8 hw)) (mvT hZ (own_w9 hw)) (by decide) (backOf (W := 0) (rmvo lL Z a0 hw [] (own_ch qq) cz hj_4 n0 Z0 S_c hcz (own_ch_le qq)) hZ (own_w9 hw) (own_w8 hw) (by decide) (by decide)) (g := (mkF mI 148 #[.val (.int bits), .val (.int qq), .val (.int y0), .val (.int y1), .val (.int y2), .val (.int nn), .val (.int (own_ch qq)), .val (.int kd0), .val (.int kd1), .val (.int kd2), .val r0, .val r1, .val r2, .val (.ref ir), .unset, .unset, .unset, .unset, .unset, .unset, .unset] [(.int (own_ch qq))])) rfl (by rw [hml]; rfl) (argsL := [(.int (own_ch qq))]) (rest := []) (lenOf pd_21 rfl) rfl (by show 2 * 0 + _ ≤ _; exact Nat.le_of_eq rfl) (hb hby at_148) (fun _ _ => ⟨rfl, ej_4, (by decide : 10 + 2 ≤ _), (by decide : 21 + 5 ≤ _)⟩)
    dsimp only [Pt.U, Pt.locs, Pt.cells, Pt.slots] at X_5 l_5 y_5 z_5 st_5 hQ_5
    subst l_5 y_5 z_5
    obtain ⟨q, d, k_d, rfl, N_5q, K_5, le_q, le_d, E_q, F_coder_q, F_value_q, V_d⟩ := hQ_5
    have le_B_q := Nat.le_trans ZB le_q
    have S_c := own_Sta_keepL S_c K_5 all0
    have Z0 := Nat.le_trans Z0 K_5.1
    have ZB := Nat.le_trans ZB K_5.1
    have C_s0 := own_St_keep C_s0 K_5 all0
    have C_s1 := own_St_keep C_s1 K_5 all0
    have C_s2 := own_St_keep C_s2 K_5 all0
    have V_ir := V_ir.keep K_5 nin0
    have N_5 := Fr.app Nj_4 N_5q
    refine hst (fun _ kt => st_5 _ kt) ?_
    show G (T_5.setTop (mkF mI 151 #[.val (.int bits), .val (.int qq), .val (.int y0), .val (.int y1), .val (.int y2), .val (.int nn), .val (.int (own_ch qq)), .val (.int kd0), .val (.int kd1), .val (.int kd2), .val r0, .val r1, .val r2, .val (.ref ir), .unset, .unset, .unset, .unset, .unset, .unset, .unset] [(.ref q)]))
    refine o_astore hst X_5.here hx (hb hby at_151) (pc' := 153) rfl (Lt := #[.val (.int bits), .val (.int qq), .val (.int y0), .val (.int y1), .val (.int y2), .val (.int nn), .val (.int (own_ch qq)), .val (.int kd0), .val (.int kd1), .val (.int kd2), .val r0, .val r1, .val r2, .val (.ref ir), .val (.ref q), .unset, .unset, .unset, .unset, .unset, .unset]) rfl rfl ?_
    obtain ⟨T_6, h_6, X_6, e_6, E_6, A_6, D_6, -, st_6⟩ := newO X_5 hx hZ hown (own_w32 hw) (own_w33 hw) (own_w34 hw) rfl (g := (mkF mI 153 #[.val (.int bits), .val (.int qq), .val (.int y0), .val (.int y1), .val (.int y2), .val (.int nn), .val (.int (own_ch qq)), .val (.int kd0), .val (.int kd1), .val (.int kd2), .val r0, .val r1, .val r2, .val (.ref ir), .val (.ref q), .unset, .unset, .unset, .unset, .unset, .unset] [])) rfl (hb hby at_153) (by decide) (by decide)
    obtain ⟨t, g_t⟩ : ∃ z, z = T_5.heap.size := ⟨_, rfl⟩
    rw [← g_t] at A_6 D_6 st_6
    have ne_ir_t : ir ≠ t := Nat.ne_of_lt (Nat.lt_of_lt_of_le V_ir.lt (Nat.le_of_eq g_t.symm))
    have ne_q_t : q ≠ t := Nat.ne_of_lt (Nat.lt_of_lt_of_le E_q.lt (Nat.le_of_eq g_t.symm))
    have ne_d_t : d ≠ t := Nat.ne_of_lt (Nat.lt_of_lt_of_le V_d.lt (Nat.le_of_eq g_t.symm))
    have le_n0_t : n0 ≤ t := Nat.le_trans Z0 (Nat.le_of_eq g_t.symm)
    have le_B_t : B0 ≤ t := Nat.le_trans ZB (Nat.le_of_eq g_t.symm)
    have Z0 := Nat.le_trans Z0 E_6.1
    have S_c := S_c.ext E_6
    have ZB := Nat.le_trans ZB E_6.1
    have C_s0 := own_St_keep C_s0 ((Keep.refl _ []).ext E_6) all0
    have C_s1 := own_St_keep C_s1 ((Keep.refl _ []).ext E_6) all0
    have C_s2 := own_St_keep C_s2 ((Keep.refl _ []).ext E_6) all0
    have V_ir := V_ir.ext E_6
    have E_q := E_q.ext E_6
    have F_coder_q := F_coder_q.ext E_6
    have F_value_q := F_value_q.ext E_6
    have V_d := V_d.ext E_6
    have E_t : Exa Z h_6 t own_TT := A_6
    have F_subjects_t : Fld Z h_6 t own_TT "subjects" "[I" .null := D_6 (Or.inl (own_w41 hw)) (ty := (.array .int)) (by decide)
    have F_predicates_t : Fld Z h_6 t own_TT "predicates" "[I" .null := D_6 (Or.inl (own_w43 hw)) (ty := (.array .int)) (by decide)
    have F_objects_t : Fld Z h_6 t own_TT "objects" "[I" .null := D_6 (Or.inl (own_w45 hw)) (ty := (.array .int)) (by decide)
    have F_firstGraphs_t : Fld Z h_6 t own_TT "firstGraphs" "[I" .null := D_6 (Or.inl (own_w47 hw)) (ty := (.array .int)) (by decide)
    have F_otherGraphs_t : Fld Z h_6 t own_TT "otherGraphs" "Ljava/util/Set;" .null := D_6 (Or.inr (own_w118 hw)) (ty := (.object "java/util/Set")) (by decide)
    have F_table_t : Fld Z h_6 t own_TT "table" "[I" .null := D_6 (Or.inl (own_w120 hw)) (ty := (.array .int)) (by decide)
    have F_size_t : Fld Z h_6 t own_TT "size" "I" (.int (0 : Int32)) := D_6 (Or.inl (own_w158 hw)) (ty := .int) (by decide)
    refine hst st_6 ?_
    show G (T_6.setTop (mkF mI 156 #[.val (.int bits), .val (.int qq), .val (.int y0), .val (.int y1), .val (.int y2), .val (.int nn), .val (.int (own_ch qq)), .val (.int kd0), .val (.int kd1), .val (.int kd2), .val r0, .val r1, .val r2, .val (.ref ir), .val (.ref q), .unset, .unset, .unset, .unset, .unset, .unset] [(.ref t)]))
    refine o_dup hst X_6.here hx (hb hby at_156) (pc' := 157) rfl rfl ?_
    obtain ⟨_, _, ⟨T_7, L_7, k_7, n_7⟩, -, X_7, ⟨Lc_7, hQ_7, l_7, y_7, z_7⟩, st_7⟩ := X_6.specialBack hx (y := (⟨own_TT, "<init>", "()V"⟩ : MethodName)) rfl hown (mvT hZ (own_w35 hw)) (mvT hZ (own_w36 hw)) (mvT hZ (own_w37 hw)) (by decide) (backOf (W := 1) (rmtt lL Z a0 hw [] t  h_6 n0 Z0 F_subjects_t F_predicates_t F_objects_t F_firstGraphs_t F_table_t F_otherGraphs_t F_size_t E_t le_n0_t) hZ (own_w37 hw) (own_w34 hw) (by decide) (by decide)) (g := (mkF mI 157 #[.val (.int bits), .val (.int qq), .val (.int y0), .val (.int y1), .val (.int y2), .val (.int nn), .val (.int (own_ch qq)), .val (.int kd0), .val (.int kd1), .val (.int kd2), .val r0, .val r1, .val r2, .val (.ref ir), .val (.ref q), .unset, .unset, .unset, .unset, .unset, .unset] [(.ref t), (.ref t)])) rfl (by rw [hml]; rfl) (Steps.refl _) (a := t) (argsL := []) (rest := [(.ref t)]) (lenOf pd_0 rfl) rfl (by show 2 * 0 + _ ≤ _; exact Nat.le_of_eq rfl) (hb hby at_157) (fun _ _ => ⟨rfl, e_6, (by decide : 13 + 7 ≤ _), (by decide : 33 + 6157 ≤ _)⟩)
    dsimp only [Pt.U, Pt.locs, Pt.cells, Pt.slots] at X_7 l_7 y_7 z_7 st_7 hQ_7
    subst l_7 y_7 z_7
    obtain ⟨rfl, N_7q, K_7, s, m, bs, bp, bo, bf, k_bs, k_bp, k_bo, k_bf, ⟨leg_s, leg_m, leg_bs, leg_bp, leg_bo, leg_bf⟩, GE_t, GF_subjects_t, GF_predicates_t, GF_objects_t, GF_firstGraphs_t, GF_otherGraphs_t, GF_size_t, GE_s, GF_map_s, GE_m, GF_size_m, GF_keySet_m, GF_head_m, GF_modCount_m, GV_bs, GV_bp, GV_bo, GV_bf⟩ := hQ_7
    have ne_ir_s : ir ≠ s := Nat.ne_of_lt (Nat.lt_of_lt_of_le V_ir.lt leg_s)
    have ne_q_s : q ≠ s := Nat.ne_of_lt (Nat.lt_of_lt_of_le E_q.lt leg_s)
    have ne_d_s : d ≠ s := Nat.ne_of_lt (Nat.lt_of_lt_of_le V_d.lt leg_s)
    have ne_t_s : t ≠ s := Nat.ne_of_lt (Nat.lt_of_lt_of_le E_t.lt leg_s)
    have le_n0_s := Nat.le_trans Z0 leg_s
    have le_B_s := Nat.le_trans ZB leg_s
    have ne_ir_m : ir ≠ m := Nat.ne_of_lt (Nat.lt_of_lt_of_le V_ir.lt leg_m)
    have ne_q_m : q ≠ m := Nat.ne_of_lt (Nat.lt_of_lt_of_le E_q.lt leg_m)
    have ne_d_m : d ≠ m := Nat.ne_of_lt (Nat.lt_of_lt_of_le V_d.lt leg_m)
    have ne_t_m : t ≠ m := Nat.ne_of_lt (Nat.lt_of_lt_of_le E_t.lt leg_m)
    have le_n0_m := Nat.le_trans Z0 leg_m
    have le_B_m := Nat.le_trans ZB leg_m
    have ne_ir_bs : ir ≠ bs := Nat.ne_of_lt (Nat.lt_of_lt_of_le V_ir.lt leg_bs)
    have ne_q_bs : q ≠ bs := Nat.ne_of_lt (Nat.lt_of_lt_of_le E_q.lt leg_bs)
    have ne_d_bs : d ≠ bs := Nat.ne_of_lt (Nat.lt_of_lt_of_le V_d.lt leg_bs)
    have ne_t_bs : t ≠ bs := Nat.ne_of_lt (Nat.lt_of_lt_of_le E_t.lt leg_bs)
    have le_n0_bs := Nat.le_trans Z0 leg_bs
    have le_B_bs := Nat.le_trans ZB leg_bs
    have ne_ir_bp : ir ≠ bp := Nat.ne_of_lt (Nat.lt_of_lt_of_le V_ir.lt leg_bp)
    have ne_q_bp : q ≠ bp := Nat.ne_of_lt (Nat.lt_of_lt_of_le E_q.lt leg_bp)
    have ne_d_bp : d ≠ bp := Nat.ne_of_lt (Nat.lt_of_lt_of_le V_d.lt leg_bp)
    have ne_t_bp : t ≠ bp := Nat.ne_of_lt (Nat.lt_of_lt_of_le E_t.lt leg_bp)
    have le_n0_bp := Nat.le_trans Z0 leg_bp
    have le_B_bp := Nat.le_trans ZB leg_bp
    have ne_ir_bo : ir ≠ bo := Nat.ne_of_lt (Nat.lt_of_lt_of_le V_ir.lt leg_bo)
    have ne_q_bo : q ≠ bo := Nat.ne_of_lt (Nat.lt_of_lt_of_le E_q.lt leg_bo)
    have ne_d_bo : d ≠ bo := Nat.ne_of_lt (Nat.lt_of_lt_of_le V_d.lt leg_bo)
    have ne_t_bo : t ≠ bo := Nat.ne_of_lt (Nat.lt_of_lt_of_le E_t.lt leg_bo)
    have le_n0_bo := Nat.le_trans Z0 leg_bo
    have le_B_bo := Nat.le_trans ZB leg_bo
    have ne_ir_bf : ir ≠ bf := Nat.ne_of_lt (Nat.lt_of_lt_of_le V_ir.lt leg_bf)
    have ne_q_bf : q ≠ bf := Nat.ne_of_lt (Nat.lt_of_lt_of_le E_q.lt leg_bf)
    have ne_d_bf : d ≠ bf := Nat.ne_of_lt (Nat.lt_of_lt_of_le V_d.lt leg_bf)
    have ne_t_bf : t ≠ bf := Nat.ne_of_lt (Nat.lt_of_lt_of_le E_t.lt leg_bf)
    have le_n0_bf := Nat.le_trans Z0 leg_bf
    have le_B_bf := Nat.le_trans ZB leg_bf
    have S_c := own_Sta_keepL S_c K_7 (allS ⟨_, E_t⟩ all0)
    have Z0 := Nat.le_trans Z0 K_7.1
    have ZB := Nat.le_trans ZB K_7.1
    have C_s0 := own_St_keep C_s0 K_7 (allS le_B_t all0)
    have C_s1 := own_St_keep C_s1 K_7 (allS le_B_t all0)
    have C_s2 := own_St_keep C_s2 K_7 (allS le_B_t all0)
    have V_ir := V_ir.keep K_7 (ninS ne_ir_t nin0)
    have E_q := E_q.keep K_7
    have F_coder_q := F_coder_q.keep K_7 (ninS ne_q_t nin0)
    have F_value_q := F_value_q.keep K_7 (ninS ne_q_t nin0)
    have V_d := V_d.keep K_7 (ninS ne_d_t nin0)
    have E_t := E_t.keep K_7
    have E_t := GE_t
    have F_subjects_t := GF_subjects_t
    have F_predicates_t := GF_predicates_t
    have F_objects_t := GF_objects_t
    have F_firstGraphs_t := GF_firstGraphs_t
    have F_otherGraphs_t := GF_otherGraphs_t
    have F_size_t := GF_size_t
    have E_s := GE_s
    have F_map_s := GF_map_s
    have E_m := GE_m
    have F_size_m := GF_size_m
    have F_keySet_m := GF_keySet_m
    have F_head_m := GF_head_m
    have F_modCount_m := GF_modCount_m
    have V_bs := GV_bs
    have V_bp := GV_bp
    have V_bo := GV_bo
    have V_bf := GV_bf
    have N_7 := Fr.app N_5 N_7q
    refine hst (fun _ kt => st_7.trans kt) ?_
    show G (T_7.setTop (mkF mI 160 #[.val (.int bits), .val (.int qq), .val (.int y0), .val (.int y1), .val (.int y2), .val (.int nn), .val (.int (own_ch qq)), .val (.int kd0), .val (.int kd1), .val (.int kd2), .val r0, .val r1, .val r2, .val (.ref ir), .val (.ref q), .unset, .unset, .unset, .unset, .unset, .unset] [(.ref t)]))
    refine o_astore hst X_7.here hx (hb hby at_160) (pc' := 162) rfl (Lt := #[.val (.int bits), .val (.int qq), .val (.int y0), .val (.int y1), .val (.int y2), .val (.int nn), .val (.int (own_ch qq)), .val (.int kd0), .val (.int kd1), .val (.int kd2), .val r0, .val r1, .val r2, .val (.ref ir), .val (.ref q), .val (.ref t), .unset, .unset, .unset, .unset, .unset]) rfl rfl ?_
    obtain ⟨T_8, h_8, X_8, e_8, E_8, A_8, D_8, -, st_8⟩ := newO X_7 hx hZ hown (own_w121 hw) (own_w122 hw) (own_w123 hw) rfl (g := (mkF mI 162 #[.val (.int bits), .val (.int qq), .val (.int y0), .val (.int y1), .val (.int y2), .val (.int nn), .val (.int (own_ch qq)), .val (.int kd0), .val (.int kd1), .val (.int kd2), .val r0, .val r1, .val r2, .val (.ref ir), .val (.ref q), .val (.ref t), .unset, .unset, .unset, .unset, .unset] [])) rfl (hb hby at_162) (by decide) (by decide)
    obtain ⟨g, g_g⟩ : ∃ z, z = T_7.heap.size := ⟨_, rfl⟩
    rw [← g_g] at A_8 D_8 st_8
    have ne_ir_g : ir ≠ g := Nat.ne_of_lt (Nat.lt_of_lt_of_le V_ir.lt (Nat.le_of_eq g_g.symm))
    have ne_q_g : q ≠ g := Nat.ne_of_lt (Nat.lt_of_lt_of_le E_q.lt (Nat.le_of_eq g_g.symm))
    have ne_d_g : d ≠ g := Nat.ne_of_lt (Nat.lt_of_lt_of_le V_d.lt (Nat.le_of_eq g_g.symm))
    have ne_t_g : t ≠ g := Nat.ne_of_lt (Nat.lt_of_lt_of_le E_t.lt (Nat.le_of_eq g_g.symm))
    have ne_s_g : s ≠ g := Nat.ne_of_lt (Nat.lt_of_lt_of_le E_s.lt (Nat.le_of_eq g_g.symm))
    have ne_m_g : m ≠ g := Nat.ne_of_lt (Nat.lt_of_lt_of_le E_m.lt (Nat.le_of_eq g_g.symm))
    have ne_bs_g : bs ≠ g := Nat.ne_of_lt (Nat.lt_of_lt_of_le V_bs.lt (Nat.le_of_eq g_g.symm))
    have ne_bp_g : bp ≠ g := Nat.ne_of_lt (Nat.lt_of_lt_of_le V_bp.lt (Nat.le_of_eq g_g.symm))
    have ne_bo_g : bo ≠ g := Nat.ne_of_lt (Nat.lt_of_lt_of_le V_bo.lt (Nat.le_of_eq g_g.symm))
    have ne_bf_g : bf ≠ g := Nat.ne_of_lt (Nat.lt_of_lt_of_le V_bf.lt (Nat.le_of_eq g_g.symm))
    have le_n0_g : n0 ≤ g := Nat.le_trans Z0 (Nat.le_of_eq g_g.symm)
    have le_B_g : B0 ≤ g := Nat.le_trans ZB (Nat.le_of_eq g_g.symm)
    have Z0 := Nat.le_trans Z0 E_8.1
    have S_c := S_c.ext E_8
    have ZB := Nat.le_trans ZB E_8.1
    have C_s0 := own_St_keep C_s0 ((Keep.refl _ []).ext E_8) all0
    have C_s1 := own_St_keep C_s1 ((Keep.refl _ []).ext E_8) all0
    have C_s2 := own_St_keep C_s2 ((Keep.refl _ []).ext E_8) all0
    have V_ir := V_ir.ext E_8
    have E_q := E_q.ext E_8
    have F_coder_q := F_coder_q.ext E_8
    have F_value_q := F_value_q.ext E_8
    have V_d := V_d.ext E_8
    have E_t := E_t.ext E_8
    have F_subjects_t := F_subjects_t.ext E_8
    have F_predicates_t := F_predicates_t.ext E_8
    have F_objects_t := F_objects_t.ext E_8
    have F_firstGraphs_t := F_firstGraphs_t.ext E_8
    have F_otherGraphs_t := F_otherGraphs_t.ext E_8
    have F_size_t := F_size_t.ext E_8
    have E_s := E_s.ext E_8
    have F_map_s := F_map_s.ext E_8
    have E_m := E_m.ext E_8
    have F_size_m := F_size_m.ext E_8
    have F_keySet_m := F_keySet_m.ext E_8
    have F_head_m := F_head_m.ext E_8
    have F_modCount_m := F_modCount_m.ext E_8
    have V_bs := V_bs.ext E_8
    have V_bp := V_bp.ext E_8
    have V_bo := V_bo.ext E_8
    have V_bf := V_bf.ext E_8
    have E_g : Exa Z h_8 g own_RG := A_8
    have F_iris_g : Fld Z h_8 g own_RG "iris" "[Ljava/lang/String;" .null := D_8 (Or.inr (own_w147 hw)) (ty := (.array (.object "java/lang/String"))) (by decide)
    have F_predicateIris_g : Fld Z h_8 g own_RG "predicateIris" "[Ljava/lang/String;" .null := D_8 (Or.inr (own_w149 hw)) (ty := (.array (.object "java/lang/String"))) (by decide)
    have F_graphLabels_g : Fld Z h_8 g own_RG "graphLabels" "[Ljava/lang/String;" .null := D_8 (Or.inr (own_w151 hw)) (ty := (.array (.object "java/lang/String"))) (by decide)
    have F_linkSources_g : Fld Z h_8 g own_RG "linkSources" "[I" .null := D_8 (Or.inr (own_w172 hw)) (ty := (.array .int)) (by decide)
    have F_linkPredicates_g : Fld Z h_8 g own_RG "linkPredicates" "[I" .null := D_8 (Or.inr (own_w179 hw)) (ty := (.array .int)) (by decide)
    have F_linkTargets_g : Fld Z h_8 g own_RG "linkTargets" "[I" .null := D_8 (Or.inr (own_w186 hw)) (ty := (.array .int)) (by decide)
    have F_linkMemberships_g : Fld Z h_8 g own_RG "linkMemberships" "Lcom/example/weser/weser/core/Memberships;" .null := D_8 (Or.inr (own_w306 hw)) (ty := (.object own_MB)) (by decide)
    have F_literalSubjects_g : Fld Z h_8 g own_RG "literalSubjects" "[I" .null := D_8 (Or.inr (own_w308 hw)) (ty := (.array .int)) (by decide)
    have F_literalPredicates_g : Fld Z h_8 g own_RG "literalPredicates" "[I" .null := D_8 (Or.inr (own_w310 hw)) (ty := (.array .int)) (by decide)
    have F_literalMemberships_g : Fld Z h_8 g own_RG "literalMemberships" "Lcom/example/weser/weser/core/Memberships;" .null := D_8 (Or.inr (own_w314 hw)) (ty := (.object own_MB)) (by decide)
    have F_literalObjects_g : Fld Z h_8 g own_RG "literalObjects" "[I" .null := D_8 (Or.inr (own_w316 hw)) (ty := (.array .int)) (by decide)
    have F_lexicalForms_g : Fld Z h_8 g own_RG "lexicalForms" "[Ljava/lang/String;" .null := D_8 (Or.inr (own_w318 hw)) (ty := (.array (.object "java/lang/String"))) (by decide)
    have F_prefixes_g : Fld Z h_8 g own_RG "prefixes" "Lcom/example/weser/weser/core/Prefixes;" .null := D_8 (Or.inr (own_w320 hw)) (ty := (.object own_PX)) (by decide)
    refine hst st_8 ?_
    show G (T_8.setTop (mkF mI 165 #[.val (.int bits), .val (.int qq), .val (.int y0), .val (.int y1), .val (.int y2), .val (.int nn), .val (.int (own_ch qq)), .val (.int kd0), .val (.int kd1), .val (.int kd2), .val r0, .val r1, .val r2, .val (.ref ir), .val (.ref q), .val (.ref t), .unset, .unset, .unset, .unset, .unset] [(.ref g)]))
    refine o_dup hst X_8.here hx (hb hby at_165) (pc' := 166) rfl rfl ?_
    refine o_aload hst X_8.here hx (hb hby at_166) (pc' := 168) rfl rfl rfl ?_
    refine o_iconst hst X_8.here hx (hb hby at_168) (pc' := 169) rfl (z := (0 : Int32)) rfl ?_
    obtain ⟨T_9, h_9, k_pi, X_9, e_9, E_9, A_9, O_pi, st_9⟩ := newR X_8 hx hZ hown (own_w4 hw) (own_w5 hw) e_8 (g := (mkF mI 169 #[.val (.int bits), .val (.int qq), .val (.int y0), .val (.int y1), .val (.int y2), .val (.int nn), .val (.int (own_ch qq)), .val (.int kd0), .val (.int kd1), .val (.int kd2), .val r0, .val r1, .val r2, .val (.ref ir), .val (.ref q), .val (.ref t), .unset, .unset, .unset, .unset, .unset] [(.int (0 : Int32)), (.ref ir), (.ref g), (.ref g)])) rfl (hb hby at_169) rfl (by decide) (cap := 0) (by decide) (by decide) (by decide) (by decide)
    obtain ⟨pi, g_pi⟩ : ∃ z, z = h_8.size := ⟨_, rfl⟩
    rw [← g_pi] at A_9 st_9
    have ne_ir_pi : ir ≠ pi := Nat.ne_of_lt (Nat.lt_of_lt_of_le V_ir.lt (Nat.le_of_eq g_pi.symm))
    have ne_q_pi : q ≠ pi := Nat.ne_of_lt (Nat.lt_of_lt_of_le E_q.lt (Nat.le_of_eq g_pi.symm))
    have ne_d_pi : d ≠ pi := Nat.ne_of_lt (Nat.lt_of_lt_of_le V_d.lt (Nat.le_of_eq g_pi.symm))
    have ne_t_pi : t ≠ pi := Nat.ne_of_lt (Nat.lt_of_lt_of_le E_t.lt (Nat.le_of_eq g_pi.symm))
    have ne_s_pi : s ≠ pi := Nat.ne_of_lt (Nat.lt_of_lt_of_le E_s.lt (Nat.le_of_eq g_pi.symm))
    have ne_m_pi : m ≠ pi := Nat.ne_of_lt (Nat.lt_of_lt_of_le E_m.lt (Nat.le_of_eq g_pi.symm))
    have ne_bs_pi : bs ≠ pi := Nat.ne_of_lt (Nat.lt_of_lt_of_le V_bs.lt (Nat.le_of_eq g_pi.symm))
    have ne_bp_pi : bp ≠ pi := Nat.ne_of_lt (Nat.lt_of_lt_of_le V_bp.lt (Nat.le_of_eq g_pi.symm))
    have ne_bo_pi : bo ≠ pi := Nat.ne_of_lt (Nat.lt_of_lt_of_le V_bo.lt (Nat.le_of_eq g_pi.symm))
    have ne_bf_pi : bf ≠ pi := Nat.ne_of_lt (Nat.lt_of_lt_of_le V_bf.lt (Nat.le_of_eq g_pi.symm))
    have ne_g_pi : g ≠ pi := Nat.ne_of_lt (Nat.lt_of_lt_of_le E_g.lt (Nat.le_of_eq g_pi.symm))
    have le_n0_pi : n0 ≤ pi := Nat.le_trans Z0 (Nat.le_of_eq g_pi.symm)
    have le_B_pi : B0 ≤ pi := Nat.le_trans ZB (Nat.le_of_eq g_pi.symm)
    have Z0 := Nat.le_trans Z0 E_9.1
    have S_c := S_c.ext E_9
    have ZB := Nat.le_trans ZB E_9.1
    have C_s0 := own_St_keep C_s0 ((Keep.refl _ []).ext E_9) all0
    have C_s1 := own_St_keep C_s1 ((Keep.refl _ []).ext E_9) all0
    have C_s2 := own_St_keep C_s2 ((Keep.refl _ []).ext E_9) all0
    have V_ir := V_ir.ext E_9
    have E_q := E_q.ext E_9
    have F_coder_q := F_coder_q.ext E_9
    have F_value_q := F_value_q.ext E_9
    have V_d := V_d.ext E_9
    have E_t := E_t.ext E_9
    have F_subjects_t := F_subjects_t.ext E_9
    have F_predicates_t := F_predicates_t.ext E_9
    have F_objects_t := F_objects_t.ext E_9
    have F_firstGraphs_t := F_firstGraphs_t.ext E_9
    have F_otherGraphs_t := F_otherGraphs_t.ext E_9
    have F_size_t := F_size_t.ext E_9
    have E_s := E_s.ext E_9
    have F_map_s := F_map_s.ext E_9
    have E_m := E_m.ext E_9
    have F_size_m := F_size_m.ext E_9
    have F_keySet_m := F_keySet_m.ext E_9
    have F_head_m := F_head_m.ext E_9
    have F_modCount_m := F_modCount_m.ext E_9
    have V_bs := V_bs.ext E_9
    have V_bp := V_bp.ext E_9
    have V_bo := V_bo.ext E_9
    have V_bf := V_bf.ext E_9
    have E_g := E_g.ext E_9
    have F_iris_g := F_iris_g.ext E_9
    have F_predicateIris_g := F_predicateIris_g.ext E_9
    have F_graphLabels_g := F_graphLabels_g.ext E_9
    have F_linkSources_g := F_linkSources_g.ext E_9
    have F_linkPredicates_g := F_linkPredicates_g.ext E_9
    have F_linkTargets_g := F_linkTargets_g.ext E_9
    have F_linkMemberships_g := F_linkMemberships_g.ext E_9
    have F_literalSubjects_g := F_literalSubjects_g.ext E_9
    have F_literalPredicates_g := F_literalPredicates_g.ext E_9
    have F_literalMemberships_g := F_literalMemberships_g.ext E_9
    have F_literalObjects_g := F_literalObjects_g.ext E_9
    have F_lexicalForms_g := F_lexicalForms_g.ext E_9
    have F_prefixes_g := F_prefixes_g.ext E_9
    have V_pi : Arv Z h_9 pi k_pi (.object "java/lang/String") (0 : Int32) [] .null := (Arv.new A_9 (by decide)).pad (pad_rep [] .null 0)
    refine hst st_9 ?_
    show G (T_9.setTop (mkF mI 172 #[.val (.int bits), .val (.int qq), .val (.int y0), .val (.int y1), .val (.int y2), .val (.int nn), .val (.int (own_ch qq)), .val (.int kd0), .val (.int kd1), .val (.int kd2), .val r0, .val r1, .val r2, .val (.ref ir), .val (.ref q), .val (.ref t), .unset, .unset, .unset, .unset, .unset] [(.ref pi), (.ref ir), (.ref g), (.ref g)]))
    refine o_iconst hst X_9.here hx (hb hby at_172) (pc' := 173) rfl (z := (0 : Int32)) rfl ?_
    obtain ⟨T_10, h_10, k_gl, X_10, e_10, E_10, A_10, O_gl, st_10⟩ := newR X_9 hx hZ hown (own_w4 hw) (own_w5 hw) e_9 (g := (mkF mI 173 #[.val (.int bits), .val (.int qq), .val (.int y0), .val (.int y1), .val (.int y2), .val (.int nn), .val (.int (own_ch qq)), .val (.int kd0), .val (.int kd1), .val (.int kd2), .val r0, .val r1, .val r2, .val (.ref ir), .val (.ref q), .val (.ref t), .unset, .unset, .unset, .unset, .unset] [(.int (0 : Int32)), (.ref pi), (.ref ir), (.ref g), (.ref g)])) rfl (hb hby at_173) rfl (by decide) (cap := 0) (by decide) (by decide) (by decide) (by decide)
    obtain ⟨gl, g_gl⟩ : ∃ z, z = h_9.size := ⟨_, rfl⟩
    rw [← g_gl] at A_10 st_10
    have ne_ir_gl : ir ≠ gl := Nat.ne_of_lt (Nat.lt_of_lt_of_le V_ir.lt (Nat.le_of_eq g_gl.symm))
    have ne_q_gl : q ≠ gl := Nat.ne_of_lt (Nat.lt_of_lt_of_le E_q.lt (Nat.le_of_eq g_gl.symm))
    have ne_d_gl : d ≠ gl := Nat.ne_of_lt (Nat.lt_of_lt_of_le V_d.lt (Nat.le_of_eq g_gl.symm))
    have ne_t_gl : t ≠ gl := Nat.ne_of_lt (Nat.lt_of_lt_of_le E_t.lt (Nat.le_of_eq g_gl.symm))
    have ne_s_gl : s ≠ gl := Nat.ne_of_lt (Nat.lt_of_lt_of_le E_s.lt (Nat.le_of_eq g_gl.symm))
    have ne_m_gl : m ≠ gl := Nat.ne_of_lt (Nat.lt_of_lt_of_le E_m.lt (Nat.le_of_eq g_gl.symm))
    have ne_bs_gl : bs ≠ gl := Nat.ne_of_lt (Nat.lt_of_lt_of_le V_bs.lt (Nat.le_of_eq g_gl.symm))
    have ne_bp_gl : bp ≠ gl := Nat.ne_of_lt (Nat.lt_of_lt_of_le V_bp.lt (Nat.le_of_eq g_gl.symm))
    have ne_bo_gl : bo ≠ gl := Nat.ne_of_lt (Nat.lt_of_lt_of_le V_bo.lt (Nat.le_of_eq g_gl.symm))
    have ne_bf_gl : bf ≠ gl := Nat.ne_of_lt (Nat.lt_of_lt_of_le V_bf.lt (Nat.le_of_eq g_gl.symm))
    have ne_g_gl : g ≠ gl := Nat.ne_of_lt (Nat.lt_of_lt_of_le E_g.lt (Nat.le_of_eq g_gl.symm))
    have le_n0_gl : n0 ≤ gl := Nat.le_trans Z0 (Nat.le_of_eq g_gl.symm)
    have le_B_gl : B0 ≤ gl := Nat.le_trans ZB (Nat.le_of_eq g_gl.symm)
    have Z0 := Nat.le_trans Z0 E_10.1
    have S_c := S_c.ext E_10
    have ZB := Nat.le_trans ZB E_10.1
    have C_s0 := own_St_keep C_s0 ((Keep.refl _ []).ext E_10) all0
    have C_s1 := own_St_keep C_s1 ((Keep.refl _ []).ext E_10) all0
    have C_s2 := own_St_keep C_s2 ((Keep.refl _ []).ext E_10) all0
    have V_ir := V_ir.ext E_10
    have E_q := E_q.ext E_10
    have F_coder_q := F_coder_q.ext E_10
    have F_value_q := F_value_q.ext E_10
    have V_d := V_d.ext E_10
    have E_t := E_t.ext E_10
    have F_subjects_t := F_subjects_t.ext E_10
    have F_predicates_t := F_predicates_t.ext E_10
    have F_objects_t := F_objects_t.ext E_10
    have F_firstGraphs_t := F_firstGraphs_t.ext E_10
    have F_otherGraphs_t := F_otherGraphs_t.ext E_10
    have F_size_t := F_size_t.ext E_10
    have E_s := E_s.ext E_10
    have F_map_s := F_map_s.ext E_10
    have E_m := E_m.ext E_10
    have F_size_m := F_size_m.ext E_10
    have F_keySet_m := F_keySet_m.ext E_10
    have F_head_m := F_head_m.ext E_10
    have F_modCount_m := F_modCount_m.ext E_10
    have V_bs := V_bs.ext E_10
    have V_bp := V_bp.ext E_10
    have V_bo := V_bo.ext E_10
    have V_bf := V_bf.ext E_10
    have E_g := E_g.ext E_10
    have F_iris_g := F_iris_g.ext E_10
    have F_predicateIris_g := F_predicateIris_g.ext E_10
    have F_graphLabels_g := F_graphLabels_g.ext E_10
    have F_linkSources_g := F_linkSources_g.ext E_10
    have F_linkPredicates_g := F_linkPredicates_g.ext E_10
    have F_linkTargets_g := F_linkTargets_g.ext E_10
    have F_linkMemberships_g := F_linkMemberships_g.ext E_10
    have F_literalSubjects_g := F_literalSubjects_g.ext E_10
    have F_literalPredicates_g := F_literalPredicates_g.ext E_10
    have F_literalMemberships_g := F_literalMemberships_g.ext E_10
    have F_literalObjects_g := F_literalObjects_g.ext E_10
    have F_lexicalForms_g := F_lexicalForms_g.ext E_10
    have F_prefixes_g := F_prefixes_g.ext E_10
    have V_gl : Arv Z h_10 gl k_gl (.object "java/lang/String") (0 : Int32) [] .null := (Arv.new A_10 (by decide)).pad (pad_rep [] .null 0)
    refine hst st_10 ?_
    show G (T_10.setTop (mkF mI 176 #[.val (.int bits), .val (.int qq), .val (.int y0), .val (.int y1), .val (.int y2), .val (.int nn), .val (.int (own_ch qq)), .val (.int kd0), .val (.int kd1), .val (.int kd2), .val r0, .val r1, .val r2, .val (.ref ir), .val (.ref q), .val (.ref t), .unset, .unset, .unset, .unset, .unset] [(.ref gl), (.ref pi), (.ref ir), (.ref g), (.ref g)]))
    refine o_aload hst X_10.here hx (hb hby at_176) (pc' := 178) rfl rfl rfl ?_
    refine o_aload hst X_10.here hx (hb hby at_178) (pc' := 180) rfl rfl rfl ?_
    refine o_iconst hst X_10.here hx (hb hby at_180) (pc' := 181) rfl (z := (0 : Int32)) rfl ?_
    obtain ⟨T_11, h_11, k_lf, X_11, e_11, E_11, A_11, O_lf, st_11⟩ := newR X_10 hx hZ hown (own_w4 hw) (own_w5 hw) e_10 (g := (mkF mI 181 #[.val (.int bits), .val (.int qq), .val (.int y0), .val (.int y1), .val (.int y2), .val (.int nn), .val (.int (own_ch qq)), .val (.int kd0), .val (.int kd1), .val (.int kd2), .val r0, .val r1, .val r2, .val (.ref ir), .val (.ref q), .val (.ref t), .unset, .unset, .unset, .unset, .unset] [(.int (0 : Int32)), (.ref t), (.ref t), (.ref gl), (.ref pi), (.ref ir), (.ref g), (.ref g)])) rfl (hb hby at_181) rfl (by decide) (cap := 0) (by decide) (by decide) (by decide) (by decide)
    obtain ⟨lf, g_lf⟩ : ∃ z, z = h_10.size := ⟨_, rfl⟩
    rw [← g_lf] at A_11 st_11
    have ne_ir_lf : ir ≠ lf := Nat.ne_of_lt (Nat.lt_of_lt_of_le V_ir.lt (Nat.le_of_eq g_lf.symm))
    have ne_q_lf : q ≠ lf := Nat.ne_of_lt (Nat.lt_of_lt_of_le E_q.lt (Nat.le_of_eq g_lf.symm))
    have ne_d_lf : d ≠ lf := Nat.ne_of_lt (Nat.lt_of_lt_of_le V_d.lt (Nat.le_of_eq g_lf.symm))
    have ne_t_lf : t ≠ lf := Nat.ne_of_lt (Nat.lt_of_lt_of_le E_t.lt (Nat.le_of_eq g_lf.symm))
    have ne_s_lf : s ≠ lf := Nat.ne_of_lt (Nat.lt_of_lt_of_le E_s.lt (Nat.le_of_eq g_lf.symm))
    have ne_m_lf : m ≠ lf := Nat.ne_of_lt (Nat.lt_of_lt_of_le E_m.lt (Nat.le_of_eq g_lf.symm))
    have ne_bs_lf : bs ≠ lf := Nat.ne_of_lt (Nat.lt_of_lt_of_le V_bs.lt (Nat.le_of_eq g_lf.symm))
    have ne_bp_lf : bp ≠ lf := Nat.ne_of_lt (Nat.lt_of_lt_of_le V_bp.lt (Nat.le_of_eq g_lf.symm))
    have ne_bo_lf : bo ≠ lf := Nat.ne_of_lt (Nat.lt_of_lt_of_le V_bo.lt (Nat.le_of_eq g_lf.symm))
    have ne_bf_lf : bf ≠ lf := Nat.ne_of_lt (Nat.lt_of_lt_of_le V_bf.lt (Nat.le_of_eq g_lf.symm))
    have ne_g_lf : g ≠ lf := Nat.ne_of_lt (Nat.lt_of_lt_of_le E_g.lt (Nat.le_of_eq g_lf.symm))
    have le_n0_lf : n0 ≤ lf := Nat.le_trans Z0 (Nat.le_of_eq g_lf.symm)
    have le_B_lf : B0 ≤ lf := Nat.le_trans ZB (Nat.le_of_eq g_lf.symm)
    have Z0 := Nat.le_trans Z0 E_11.1
    have S_c := S_c.ext E_11
    have ZB := Nat.le_trans ZB E_11.1
    have C_s0 := own_St_keep C_s0 ((Keep.refl _ []).ext E_11) all0
    have C_s1 := own_St_keep C_s1 ((Keep.refl _ []).ext E_11) all0
    have C_s2 := own_St_keep C_s2 ((Keep.refl _ []).ext E_11) all0
    have V_ir := V_ir.ext E_11
    have E_q := E_q.ext E_11
    have F_coder_q := F_coder_q.ext E_11
    have F_value_q := F_value_q.ext E_11
    have V_d := V_d.ext E_11
    have E_t := E_t.ext E_11
    have F_subjects_t := F_subjects_t.ext E_11
    have F_predicates_t := F_predicates_t.ext E_11
    have F_objects_t := F_objects_t.ext E_11
    have F_firstGraphs_t := F_firstGraphs_t.ext E_11
    have F_otherGraphs_t := F_otherGraphs_t.ext E_11
    have F_size_t := F_size_t.ext E_11
    have E_s := E_s.ext E_11
    have F_map_s := F_map_s.ext E_11
    have E_m := E_m.ext E_11
    have F_size_m := F_size_m.ext E_11
    have F_keySet_m := F_keySet_m.ext E_11
    have F_head_m := F_head_m.ext E_11
    have F_modCount_m := F_modCount_m.ext E_11
    have V_bs := V_bs.ext E_11
    have V_bp := V_bp.ext E_11
    have V_bo := V_bo.ext E_11
    have V_bf := V_bf.ext E_11
    have E_g := E_g.ext E_11
    have F_iris_g := F_iris_g.ext E_11
    have F_predicateIris_g := F_predicateIris_g.ext E_11
    have F_graphLabels_g := F_graphLabels_g.ext E_11
    have F_linkSources_g := F_linkSources_g.ext E_11
    have F_linkPredicates_g := F_linkPredicates_g.ext E_11
    have F_linkTargets_g := F_linkTargets_g.ext E_11
    have F_linkMemberships_g := F_linkMemberships_g.ext E_11
    have F_literalSubjects_g := F_literalSubjects_g.ext E_11
    have F_literalPredicates_g := F_literalPredicates_g.ext E_11
    have F_literalMemberships_g := F_literalMemberships_g.ext E_11
    have F_literalObjects_g := F_literalObjects_g.ext E_11
    have F_lexicalForms_g := F_lexicalForms_g.ext E_11
    have F_prefixes_g := F_prefixes_g.ext E_11
    have V_lf : Arv Z h_11 lf k_lf (.object "java/lang/String") (0 : Int32) [] .null := (Arv.new A_11 (by decide)).pad (pad_rep [] .null 0)
    refine hst st_11 ?_
    show G (T_11.setTop (mkF mI 184 #[.val (.int bits), .val (.int qq), .val (.int y0), .val (.int y1), .val (.int y2), .val (.int nn), .val (.int (own_ch qq)), .val (.int kd0), .val (.int kd1), .val (.int kd2), .val r0, .val r1, .val r2, .val (.ref ir), .val (.ref q), .val (.ref t), .unset, .unset, .unset, .unset, .unset] [(.ref lf), (.ref t), (.ref t), (.ref gl), (.ref pi), (.ref ir), (.ref g), (.ref g)]))
    obtain ⟨T_12, h_12, X_12, e_12, E_12, A_12, D_12, -, st_12⟩ := newO X_11 hx hZ hown (own_w124 hw) (own_w125 hw) (own_w126 hw) e_11 (g := (mkF mI 184 #[.val (.int bits), .val (.int qq), .val (.int y0), .val (.int y1), .val (.int y2), .val (.int nn), .val (.int (own_ch qq)), .val (.int kd0), .val (.int kd1), .val (.int kd2), .val r0, .val r1, .val r2, .val (.ref ir), .val (.ref q), .val (.ref t), .unset, .unset, .unset, .unset, .unset] [(.ref lf), (.ref t), (.ref t), (.ref gl), (.ref pi), (.ref ir), (.ref g), (.ref g)])) rfl (hb hby at_184) (by decide) (by decide)
    obtain ⟨px, g_px⟩ : ∃ z, z = h_11.size := ⟨_, rfl⟩
    rw [← g_px] at A_12 D_12 st_12
    have ne_ir_px : ir ≠ px := Nat.ne_of_lt (Nat.lt_of_lt_of_le V_ir.lt (Nat.le_of_eq g_px.symm))
    have ne_q_px : q ≠ px := Nat.ne_of_lt (Nat.lt_of_lt_of_le E_q.lt (Nat.le_of_eq g_px.symm))
    have ne_d_px : d ≠ px := Nat.ne_of_lt (Nat.lt_of_lt_of_le V_d.lt (Nat.le_of_eq g_px.symm))
    have ne_t_px : t ≠ px := Nat.ne_of_lt (Nat.lt_of_lt_of_le E_t.lt (Nat.le_of_eq g_px.symm))
    have ne_s_px : s ≠ px := Nat.ne_of_lt (Nat.lt_of_lt_of_le E_s.lt (Nat.le_of_eq g_px.symm))
    have ne_m_px : m ≠ px := Nat.ne_of_lt (Nat.lt_of_lt_of_le E_m.lt (Nat.le_of_eq g_px.symm))
    have ne_bs_px : bs ≠ px := Nat.ne_of_lt (Nat.lt_of_lt_of_le V_bs.lt (Nat.le_of_eq g_px.symm))
    have ne_bp_px : bp ≠ px := Nat.ne_of_lt (Nat.lt_of_lt_of_le V_bp.lt (Nat.le_of_eq g_px.symm))
    have ne_bo_px : bo ≠ px := Nat.ne_of_lt (Nat.lt_of_lt_of_le V_bo.lt (Nat.le_of_eq g_px.symm))
    have ne_bf_px : bf ≠ px := Nat.ne_of_lt (Nat.lt_of_lt_of_le V_bf.lt (Nat.le_of_eq g_px.symm))
    have ne_g_px : g ≠ px := Nat.ne_of_lt (Nat.lt_of_lt_of_le E_g.lt (Nat.le_of_eq g_px.symm))
    have le_n0_px : n0 ≤ px := Nat.le_trans Z0 (Nat.le_of_eq g_px.symm)
    have le_B_px : B0 ≤ px := Nat.le_trans ZB (Nat.le_of_eq g_px.symm)
    have Z0 := Nat.le_trans Z0 E_12.1
    have S_c := S_c.ext E_12
    have ZB := Nat.le_trans ZB E_12.1
    have C_s0 := own_St_keep C_s0 ((Keep.refl _ []).ext E_12) all0
    have C_s1 := own_St_keep C_s1 ((Keep.refl _ []).ext E_12) all0
    have C_s2 := own_St_keep C_s2 ((Keep.refl _ []).ext E_12) all0
    have V_ir := V_ir.ext E_12
    have E_q := E_q.ext E_12
    have F_coder_q := F_coder_q.ext E_12
    have F_value_q := F_value_q.ext E_12
    have V_d := V_d.ext E_12
    have E_t := E_t.ext E_12
    have F_subjects_t := F_subjects_t.ext E_12
    have F_predicates_t := F_predicates_t.ext E_12
    have F_objects_t := F_objects_t.ext E_12
    have F_firstGraphs_t := F_firstGraphs_t.ext E_12
    have F_otherGraphs_t := F_otherGraphs_t.ext E_12
    have F_size_t := F_size_t.ext E_12
    have E_s := E_s.ext E_12
    have F_map_s := F_map_s.ext E_12
    have E_m := E_m.ext E_12
    have F_size_m := F_size_m.ext E_12
    have F_keySet_m := F_keySet_m.ext E_12
    have F_head_m := F_head_m.ext E_12
    have F_modCount_m := F_modCount_m.ext E_12
    have V_bs := V_bs.ext E_12
    have V_bp := V_bp.ext E_12
    have V_bo := V_bo.ext E_12
    have V_bf := V_bf.ext E_12
    have E_g := E_g.ext E_12
    have F_iris_g := F_iris_g.ext E_12
    have F_predicateIris_g := F_predicateIris_g.ext E_12
    have F_graphLabels_g := F_graphLabels_g.ext E_12
    have F_linkSources_g := F_linkSources_g.ext E_12
    have F_linkPredicates_g := F_linkPredicates_g.ext E_12
    have F_linkTargets_g := F_linkTargets_g.ext E_12
    have F_linkMemberships_g := F_linkMemberships_g.ext E_12
    have F_literalSubjects_g := F_literalSubjects_g.ext E_12
    have F_literalPredicates_g := F_literalPredicates_g.ext E_12
    have F_literalMemberships_g := F_literalMemberships_g.ext E_12
    have F_literalObjects_g := F_literalObjects_g.ext E_12
    have F_lexicalForms_g := F_lexicalForms_g.ext E_12
    have F_prefixes_g := F_prefixes_g.ext E_12
    have E_px : Exa Z h_12 px own_PX := A_12
    have F_declarations_px : Fld Z h_12 px own_PX "declarations" "Ljava/util/Map;" .null := D_12 (Or.inr (own_w141 hw)) (ty := (.object "java/util/Map")) (by decide)
    refine hst st_12 ?_
    show G (T_12.setTop (mkF mI 187 #[.val (.int bits), .val (.int qq), .val (.int y0), .val (.int y1), .val (.int y2), .val (.int nn), .val (.int (own_ch qq)), .val (.int kd0), .val (.int kd1), .val (.int kd2), .val r0, .val r1, .val r2, .val (.ref ir), .val (.ref q), .val (.ref t), .unset, .unset, .unset, .unset, .unset] [(.ref px), (.ref lf), (.ref t), (.ref t), (.ref gl), (.ref pi), (.ref ir), (.ref g), (.ref g)]))
    refine o_dup hst X_12.here hx (hb hby at_187) (pc' := 188) rfl rfl ?_
    obtain ⟨_, _, ⟨T_13, L_13, k_13, n_13⟩, -, X_13, ⟨Lc_13, hQ_13, l_13, y_13, z_13⟩, st_13⟩ := X_12.specialBack hx (y := (⟨own_PX, "<init>", "()V"⟩ : MethodName)) rfl hown (mvT hZ (own_w127 hw)) (mvT hZ (own_w128 hw)) (mvT hZ (own_w129 hw)) (by decide) (backOf (W := 9) (rmpx lL Z a0 hw [] px  h_12 n0 Z0 F_declarations_px E_px le_n0_px) hZ (own_w129 hw) (own_w126 hw) (by decide) (by decide)) (g := (mkF mI 188 #[.val (.int bits), .val (.int qq), .val (.int y0), .val (.int y1), .val (.int y2), .val (.int nn), .val (.int (own_ch qq)), .val (.int kd0), .val (.int kd1), .val (.int kd2), .val r0, .val r1, .val r2, .val (.ref ir), .val (.ref q), .val (.ref t), .unset, .unset, .unset, .unset, .unset] [(.ref px), (.ref px), (.ref lf), (.ref t), (.ref t), (.ref gl), (.ref pi), (.ref ir), (.ref g), (.ref g)])) rfl (by rw [hml]; rfl) (Steps.refl _) (a := px) (argsL := []) (rest := [(.ref px), (.ref lf), (.ref t), (.ref t), (.ref gl), (.ref pi), (.ref ir), (.ref g), (.ref g)]) (lenOf pd_0 rfl) rfl (by show 2 * 0 + _ ≤ _; exact Nat.le_of_eq rfl) (hb hby at_188) (fun _ _ => ⟨rfl, e_12, (by decide : 25 + 1 ≤ _), (by decide : 6204 + 12 ≤ _)⟩)
    dsimp only [Pt.U, Pt.locs, Pt.cells, Pt.slots] at X_13 l_13 y_13 z_13 st_13 hQ_13
    subst l_13 y_13 z_13
    obtain ⟨rfl, N_13q, K_13⟩ := hQ_13
    have S_c := own_Sta_keepL S_c K_13 (allS ⟨_, E_px⟩ all0)
    have Z0 := Nat.le_trans Z0 K_13.1
    have ZB := Nat.le_trans ZB K_13.1
    have C_s0 := own_St_keep C_s0 K_13 (allS le_B_px all0)
    have C_s1 := own_St_keep C_s1 K_13 (allS le_B_px all0)
    have C_s2 := own_St_keep C_s2 K_13 (allS le_B_px all0)
    have V_ir := V_ir.keep K_13 (ninS ne_ir_px nin0)
    have E_q := E_q.keep K_13
    have F_coder_q := F_coder_q.keep K_13 (ninS ne_q_px nin0)
    have F_value_q := F_value_q.keep K_13 (ninS ne_q_px nin0)
    have V_d := V_d.keep K_13 (ninS ne_d_px nin0)
    have E_t := E_t.keep K_13
    have F_subjects_t := F_subjects_t.keep K_13 (ninS ne_t_px nin0)
    have F_predicates_t := F_predicates_t.keep K_13 (ninS ne_t_px nin0)
    have F_objects_t := F_objects_t.keep K_13 (ninS ne_t_px nin0)
    have F_firstGraphs_t := F_firstGraphs_t.keep K_13 (ninS ne_t_px nin0)
    have F_otherGraphs_t := F_otherGraphs_t.keep K_13 (ninS ne_t_px nin0)
    have F_size_t := F_size_t.keep K_13 (ninS ne_t_px nin0)
    have E_s := E_s.keep K_13
    have F_map_s := F_map_s.keep K_13 (ninS ne_s_px nin0)
    have E_m := E_m.keep K_13
    have F_size_m := F_size_m.keep K_13 (ninS ne_m_px nin0)
    have F_keySet_m := F_keySet_m.keep K_13 (ninS ne_m_px nin0)
    have F_head_m := F_head_m.keep K_13 (ninS ne_m_px nin0)
    have F_modCount_m := F_modCount_m.keep K_13 (ninS ne_m_px nin0)
    have V_bs := V_bs.keep K_13 (ninS ne_bs_px nin0)
    have V_bp := V_bp.keep K_13 (ninS ne_bp_px nin0)
    have V_bo := V_bo.keep K_13 (ninS ne_bo_px nin0)
    have V_bf := V_bf.keep K_13 (ninS ne_bf_px nin0)
    have E_g := E_g.keep K_13
    have F_iris_g := F_iris_g.keep K_13 (ninS ne_g_px nin0)
    have F_predicateIris_g := F_predicateIris_g.keep K_13 (ninS ne_g_px nin0)
    have F_graphLabels_g := F_graphLabels_g.keep K_13 (ninS ne_g_px nin0)
    have F_linkSources_g := F_linkSources_g.keep K_13 (ninS ne_g_px nin0)
    have F_linkPredicates_g := F_linkPredicates_g.keep K_13 (ninS ne_g_px nin0)
    have F_linkTargets_g := F_linkTargets_g.keep K_13 (ninS ne_g_px nin0)
    have F_linkMemberships_g := F_linkMemberships_g.keep K_13 (ninS ne_g_px nin0)
    have F_literalSubjects_g := F_literalSubjects_g.keep K_13 (ninS ne_g_px nin0)
    have F_literalPredicates_g := F_literalPredicates_g.keep K_13 (ninS ne_g_px nin0)
    have F_literalMemberships_g := F_literalMemberships_g.keep K_13 (ninS ne_g_px nin0)
    have F_literalObjects_g := F_literalObjects_g.keep K_13 (ninS ne_g_px nin0)
    have F_lexicalForms_g := F_lexicalForms_g.keep K_13 (ninS ne_g_px nin0)
    have F_prefixes_g := F_prefixes_g.keep K_13 (ninS ne_g_px nin0)
    have E_px := E_px.keep K_13
    have N_13 := Fr.app N_7 N_13q
    refine hst (fun _ kt => st_13.trans kt) ?_
    show G (T_13.setTop (mkF mI 191 #[.val (.int bits), .val (.int qq), .val (.int y0), .val (.int y1), .val (.int y2), .val (.int nn), .val (.int (own_ch qq)), .val (.int kd0), .val (.int kd1), .val (.int kd2), .val r0, .val r1, .val r2, .val (.ref ir), .val (.ref q), .val (.ref t), .unset, .unset, .unset, .unset, .unset] [(.ref px), (.ref lf), (.ref t), (.ref t), (.ref gl), (.ref pi), (.ref ir), (.ref g), (.ref g)]))
    have ne_g_t := (Ne.symm ne_t_g)
    have ne_g_s := (Ne.symm ne_s_g)
    have ne_g_m := (Ne.symm ne_m_g)
    have ne_g_bs := (Ne.symm ne_bs_g)
    have ne_g_bp := (Ne.symm ne_bp_g)
    have ne_g_bo := (Ne.symm ne_bo_g)
    have ne_g_bf := (Ne.symm ne_bf_g)
    obtain ⟨_, _, ⟨T_14, L_14, k_14, n_14⟩, -, X_14, ⟨Lc_14, hQ_14, l_14, y_14, z_14⟩, st_14⟩ := X_13.specialBack hx (y := (⟨own_RG, "<init>", "([Ljava/lang/String;[Ljava/lang/String;[Ljava/lang/String;Lcom/example/weser/weser/core/TripleTable;Lcom/example/weser/weser/core/TripleTable;[Ljava/lang/String;Lcom/example/weser/weser/core/Prefixes;)V"⟩ : MethodName)) rfl hown (mvT hZ (own_w142 hw)) (mvT hZ (own_w143 hw)) (mvT hZ (own_w144 hw)) (by decide) (backOf (W := 1) (rmrg lL Z a0 hw [] g ir pi gl t lf px s m bs bp bo bf k_bs k_bp k_bo k_bf T_13.heap n0 Z0 F_iris_g F_predicateIris_g F_graphLabels_g F_linkSources_g F_linkPredicates_g F_linkTargets_g F_linkMemberships_g F_literalSubjects_g F_literalPredicates_g F_literalMemberships_g F_literalObjects_g F_lexicalForms_g F_prefixes_g E_g le_n0_g E_t F_subjects_t F_predicates_t F_objects_t F_firstGraphs_t F_otherGraphs_t F_size_t E_s F_map_s E_m F_size_m F_keySet_m F_head_m F_modCount_m V_bs V_bp V_bo V_bf le_n0_m ne_g_t ne_g_s ne_g_m ne_g_bs ne_g_bp ne_g_bo ne_g_bf) hZ (own_w144 hw) (own_w123 hw) (by decide) (by decide)) (g := (mkF mI 191 #[.val (.int bits), .val (.int qq), .val (.int y0), .val (.int y1), .val (.int y2), .val (.int nn), .val (.int (own_ch qq)), .val (.int kd0), .val (.int kd1), .val (.int kd2), .val r0, .val r1, .val r2, .val (.ref ir), .val (.ref q), .val (.ref t), .unset, .unset, .unset, .unset, .unset] [(.ref px), (.ref lf), (.ref t), (.ref t), (.ref gl), (.ref pi), (.ref ir), (.ref g), (.ref g)])) rfl (by rw [hml]; rfl) (Steps.refl _) (a := g) (argsL := [(.ref ir), (.ref pi), (.ref gl), (.ref t), (.ref t), (.ref lf), (.ref px)]) (rest := [(.ref g)]) (lenOf pd_24 rfl) rfl (by show 2 * 0 + _ ≤ _; exact Nat.le_of_eq rfl) (hb hby at_191) (fun _ _ => ⟨rfl, rfl, (by decide : 26 + 15 ≤ _), (by decide : 6216 + 16 ≤ _)⟩)
    dsimp only [Pt.U, Pt.locs, Pt.cells, Pt.slots] at X_14 l_14 y_14 z_14 st_14 hQ_14
    subst l_14 y_14 z_14
    obtain ⟨rfl, N_14q, K_14, Eg_14, G1⟩ := hQ_14
    have ne_s_m : s ≠ m := ne_exa E_s E_m (by decide)
    have ne_bs_m : bs ≠ m := Ne.symm (own_ne_arv E_m (own_w75 hw) V_bs)
    have ne_bp_m : bp ≠ m := Ne.symm (own_ne_arv E_m (own_w75 hw) V_bp)
    have ne_bo_m : bo ≠ m := Ne.symm (own_ne_arv E_m (own_w75 hw) V_bo)
    have ne_bf_m : bf ≠ m := Ne.symm (own_ne_arv E_m (own_w75 hw) V_bf)
    have S_c := own_Sta_keepL S_c K_14 (allS ⟨_, E_g⟩ (allS ⟨_, E_m⟩ all0))
    have Z0 := Nat.le_trans Z0 K_14.1
    have ZB := Nat.le_trans ZB K_14.1
    have C_s0 := own_St_keep C_s0 K_14 (allS le_B_g (allS le_B_m all0))
    have C_s1 := own_St_keep C_s1 K_14 (allS le_B_g (allS le_B_m all0))
    have C_s2 := own_St_keep C_s2 K_14 (allS le_B_g (allS le_B_m all0))
    have V_ir := V_ir.keep K_14 (ninS ne_ir_g (ninS ne_ir_m nin0))
    have E_q := E_q.keep K_14
    have F_coder_q := F_coder_q.keep K_14 (ninS ne_q_g (ninS ne_q_m nin0))
    have F_value_q := F_value_q.keep K_14 (ninS ne_q_g (ninS ne_q_m nin0))
    have V_d := V_d.keep K_14 (ninS ne_d_g (ninS ne_d_m nin0))
    have E_t := E_t.keep K_14
    have F_subjects_t := F_subjects_t.keep K_14 (ninS ne_t_g (ninS ne_t_m nin0))
    have F_predicates_t := F_predicates_t.keep K_14 (ninS ne_t_g (ninS ne_t_m nin0))
    have F_objects_t := F_objects_t.keep K_14 (ninS ne_t_g (ninS ne_t_m nin0))
    have F_firstGraphs_t := F_firstGraphs_t.keep K_14 (ninS ne_t_g (ninS ne_t_m nin0))
    have F_otherGraphs_t := F_otherGraphs_t.keep K_14 (ninS ne_t_g (ninS ne_t_m nin0))
    have F_size_t := F_size_t.keep K_14 (ninS ne_t_g (ninS ne_t_m nin0))
    have E_s := E_s.keep K_14
    have F_map_s := F_map_s.keep K_14 (ninS ne_s_g (ninS ne_s_m nin0))
    have E_m := E_m.keep K_14
    have V_bs := V_bs.keep K_14 (ninS ne_bs_g (ninS ne_bs_m nin0))
    have V_bp := V_bp.keep K_14 (ninS ne_bp_g (ninS ne_bp_m nin0))
    have V_bo := V_bo.keep K_14 (ninS ne_bo_g (ninS ne_bo_m nin0))
    have V_bf := V_bf.keep K_14 (ninS ne_bf_g (ninS ne_bf_m nin0))
    have E_g := E_g.keep K_14
    have E_px := E_px.keep K_14
    have F_iris_g := G1
    have N_14 := Fr.app N_13 N_14q
    refine hst (fun _ kt => st_14.trans kt) ?_
    show G (T_14.setTop (mkF mI 194 #[.val (.int bits), .val (.int qq), .val (.int y0), .val (.int y1), .val (.int y2), .val (.int nn), .val (.int (own_ch qq)), .val (.int kd0), .val (.int kd1), .val (.int kd2), .val r0, .val r1, .val r2, .val (.ref ir), .val (.ref q), .val (.ref t), .unset, .unset, .unset, .unset, .unset] [(.ref g)]))
    refine o_astore hst X_14.here hx (hb hby at_194) (pc' := 196) rfl (Lt := #[.val (.int bits), .val (.int qq), .val (.int y0), .val (.int y1), .val (.int y2), .val (.int nn), .val (.int (own_ch qq)), .val (.int kd0), .val (.int kd1), .val (.int kd2), .val r0, .val r1, .val r2, .val (.ref ir), .val (.ref q), .val (.ref t), .val (.ref g), .unset, .unset, .unset, .unset]) rfl rfl ?_
    refine o_iload hst X_14.here hx (hb hby at_196) (pc' := 198) rfl rfl ?_
    have J217 : ∀ (f0 : Int32) (Tj_15 : State) (lj_15 : List Loc) (Xj_15 : Stand pP lL eE room_1 sS mI #[(.int bits), (.int qq), (.int y0), (.int y1), (.int y2)] below meth cC Tj_15 lj_15 41 6232) (ej_15 : Tj_15.heap = T_14.heap) (Nj_15 : Fr n0 lj_15) (hf0 : f0 = own_fl 0 nn (own_mt kd0 (own_ch qq) y0)), G (Tj_15.setTop (mkF mI 217 #[.val (.int bits), .val (.int qq), .val (.int y0), .val (.int y1), .val (.int y2), .val (.int nn), .val (.int (own_ch qq)), .val (.int kd0), .val (.int kd1), .val (.int kd2), .val r0, .val r1, .val r2, .val (.ref ir), .val (.ref q), .val (.ref t), .val (.ref g), .unset, .unset, .unset, .unset] [(.int f0)])) := by
      intro f0 Tj_15 lj_15 Xj_15 ej_15 Nj_15 hf0
      show G (Tj_15.setTop (mkF mI 217 #[.val (.int bits), .val (.int qq), .val (.int y0), .val (.int y1), .val (.int y2), .val (.int nn), .val (.int (own_ch qq)), .val (.int kd0), .val (.int kd1), .val (.int kd2), .val r0, .val r1, .val r2, .val (.ref ir), .val (.ref q), .val (.ref t), .val (.ref g), .unset, .unset, .unset, .unset] [(.int f0)]))
      refine o_istore hst Xj_15.here hx (hb hby at_217) (pc' := 219) rfl (Lt := #[.val (.int bits), .val (.int qq), .val (.int y0), .val (.int y1), .val (.int y2), .val (.int nn), .val (.int (own_ch qq)), .val (.int kd0), .val (.int kd1), .val (.int kd2), .val r0, .val r1, .val r2, .val (.ref ir), .val (.ref q), .val (.ref t), .val (.ref g), .val (.int f0), .unset, .unset, .unset]) rfl ?_
      refine o_iload hst Xj_15.here hx (hb hby at_219) (pc' := 221) rfl rfl ?_
      refine o_iconst hst Xj_15.here hx (hb hby at_221) (pc' := 222) rfl (z := (1 : Int32)) rfl ?_
      have J241 : ∀ (f1 : Int32) (Tj_16 : State) (lj_16 : List Loc) (Xj_16 : Stand pP lL eE room_1 sS mI #[(.int bits), (.int qq), (.int y0), (.int y1), (.int y2)] below meth cC Tj_16 lj_16 41 6232) (ej_16 : Tj_16.heap = T_14.heap) (Nj_16 : Fr n0 lj_16) (hf1 : f1 = own_fl 1 nn (own_mt kd1 (own_ch qq) y1)), G (Tj_16.setTop (mkF mI 241 #[.val (.int bits), .val (.int qq), .val (.int y0), .val (.int y1), .val (.int y2), .val (.int nn), .val (.int (own_ch qq)), .val (.int kd0), .val (.int kd1), .val (.int kd2), .val r0, .val r1, .val r2, .val (.ref ir), .val (.ref q), .val (.ref t), .val (.ref g), .val (.int f0), .unset, .unset, .unset] [(.int f1)])) := by
        intro f1 Tj_16 lj_16 Xj_16 ej_16 Nj_16 hf1
        show G (Tj_16.setTop (mkF mI 241 #[.val (.int bits), .val (.int qq), .val (.int y0), .val (.int y1), .val (.int y2), .val (.int nn), .val (.int (own_ch qq)), .val (.int kd0), .val (.int kd1), .val (.int kd2), .val r0, .val r1, .val r2, .val (.ref ir), .val (.ref q), .val (.ref t), .val (.ref g), .val (.int f0), .unset, .unset, .unset] [(.int f1)]))
        refine o_istore hst Xj_16.here hx (hb hby at_241) (pc' := 243) rfl (Lt := #[.val (.int bits), .val (.int qq), .val (.int y0), .val (.int y1), .val (.int y2), .val (.int nn), .val (.int (own_ch qq)), .val (.int kd0), .val (.int kd1), .val (.int kd2), .val r0, .val r1, .val r2, .val (.ref ir), .val (.ref q), .val (.ref t), .val (.ref g), .val (.int f0), .val (.int f1), .unset, .unset]) rfl ?_
        refine o_iload hst Xj_16.here hx (hb hby at_243) (pc' := 245) rfl rfl ?_
        refine o_iconst hst Xj_16.here hx (hb hby at_245) (pc' := 246) rfl (z := (2 : Int32)) rfl ?_
        have J266 : ∀ (f2 : Int32) (Tj_17 : State) (lj_17 : List Loc) (Xj_17 : Stand pP lL eE room_1 sS mI #[(.int bits), (.int qq), (.int y0), (.int y1), (.int y2)] below meth cC Tj_17 lj_17 41 6232) (ej_17 : Tj_17.heap = T_14.heap) (Nj_17 : Fr n0 lj_17) (hf2 : f2 = own_fl 2 nn (own_mt kd2 (own_ch qq) y2)), G (Tj_17.setTop (mkF mI 266 #[.val (.int bits), .val (.int qq), .val (.int y0), .val (.int y1), .val (.int y2), .val (.int nn), .val (.int (own_ch qq)), .val (.int kd0), .val (.int kd1), .val (.int kd2), .val r0, .val r1, .val r2, .val (.ref ir), .val (.ref q), .val (.ref t), .val (.ref g), .val (.int f0), .val (.int f1), .unset, .unset] [(.int f2)])) := by
          intro f2 Tj_17 lj_17 Xj_17 ej_17 Nj_17 hf2
          show G (Tj_17.setTop (mkF mI 266 #[.val (.int bits), .val (.int qq), .val (.int y0), .val (.int y1), .val (.int y2), .val (.int nn), .val (.int (own_ch qq)), .val (.int kd0), .val (.int kd1), .val (.int kd2), .val r0, .val r1, .val r2, .val (.ref ir), .val (.ref q), .val (.ref t), .val (.ref g), .val (.int f0), .val (.int f1), .unset, .unset] [(.int f2)]))
          refine o_istore hst Xj_17.here hx (hb hby at_266) (pc' := 268) rfl (Lt := #[.val (.int bits), .val (.int qq), .val (.int y0), .val (.int y1), .val (.int y2), .val (.int nn), .val (.int (own_ch qq)), .val (.int kd0), .val (.int kd1), .val (.int kd2), .val r0, .val r1, .val r2, .val (.ref ir), .val (.ref q), .val (.ref t), .val (.ref g), .val (.int f0), .val (.int f1), .val (.int f2), .unset]) rfl ?_
          refine o_iconst hst Xj_17.here hx (hb hby at_268) (pc' := 269) rfl (z := (-1 : Int32)) rfl ?_
          refine o_istore hst Xj_17.here hx (hb hby at_269) (pc' := 271) rfl (Lt := #[.val (.int bits), .val (.int qq), .val (.int y0), .val (.int y1), .val (.int y2), .val (.int nn), .val (.int (own_ch qq)), .val (.int kd0), .val (.int kd1), .val (.int kd2), .val r0, .val r1, .val r2, .val (.ref ir), .val (.ref q), .val (.ref t), .val (.ref g), .val (.int f0), .val (.int f1), .val (.int f2), .val (.int (-1 : Int32))]) rfl ?_
          refine o_iload hst Xj_17.here hx (hb hby at_271) (pc' := 273) rfl rfl ?_
          have J301 : ∀ (ex : Int32) (hex : ex = own_ex f0 f1 f2), G (Tj_17.setTop (mkF mI 301 #[.val (.int bits), .val (.int qq), .val (.int y0), .val (.int y1), .val (.int y2), .val (.int nn), .val (.int (own_ch qq)), .val (.int kd0), .val (.int kd1), .val (.int kd2), .val r0, .val r1, .val r2, .val (.ref ir), .val (.ref q), .val (.ref t), .val (.ref g), .val (.int f0), .val (.int f1), .val (.int f2), .val (.int ex)] [])) := by
            intro ex hex
            show G (Tj_17.setTop (mkF mI 301 #[.val (.int bits), .val (.int qq), .val (.int y0), .val (.int y1), .val (.int y2), .val (.int nn), .val (.int (own_ch qq)), .val (.int kd0), .val (.int kd1), .val (.int kd2), .val r0, .val r1, .val r2, .val (.ref ir), .val (.ref q), .val (.ref t), .val (.ref g), .val (.int f0), .val (.int f1), .val (.int f2), .val (.int ex)] []))
            refine o_aload hst Xj_17.here hx (hb hby at_301) (pc' := 303) rfl rfl rfl ?_
            refine o_aload hst Xj_17.here hx (hb hby at_303) (pc' := 305) rfl rfl rfl ?_
            obtain ⟨cq_18, kq_18, q_18a, q_18b, q_18c⟩ := isOf hZ ej_17 E_g
            obtain ⟨_, _, ⟨T_18, L_18, k_18, n_18⟩, -, X_18, ⟨Lc_18, hQ_18, l_18, y_18, z_18⟩, st_18⟩ := Xj_17.virtualBack hx (y := (⟨own_RG, "node", "(Ljava/lang/String;)I"⟩ : MethodName)) (z := (⟨own_RG, "node", "(Ljava/lang/String;)I"⟩ : MethodName)) hown (mvT hZ (own_w321 hw)) (mvT hZ (own_w322 hw)) (notFace_of_selects (args := #[]) (mvT hZ (own_w324 hw))) (mvT hZ (own_w324 hw)) (mvT hZ (own_w323 hw)) (by decide) (backOf (W := 0) (rmnd lL Z a0 hw [] g q ir d ki k_d nn (own_by (own_ch qq)) cz B0 r0 r1 r2 o0 o1 o2 T_14.heap n0 Z0 hin F_iris_g V_ir C_s0 C_s1 C_s2 le_B_q E_q F_coder_q F_value_q V_d S_c hcz) hZ (own_w325 hw) (own_w123 hw) (by decide) (by decide)) q_18a q_18c (g := (mkF mI 305 #[.val (.int bits), .val (.int qq), .val (.int y0), .val (.int y1), .val (.int y2), .val (.int nn), .val (.int (own_ch qq)), .val (.int kd0), .val (.int kd1), .val (.int kd2), .val r0, .val r1, .val r2, .val (.ref ir), .val (.ref q), .val (.ref t), .val (.ref g), .val (.int f0), .val (.int f1), .val (.int f2), .val (.int ex)] [(.ref q), (.ref g)])) rfl (by rw [hml]; rfl) (Steps.refl _) (argsL := [(.ref q)]) (rest := []) (lenOf pd_25 rfl) rfl (by show 2 * 0 + _ ≤ _; exact Nat.le_of_eq rfl) (hb hby at_305) (fun _ _ => ⟨rfl, ej_17, (by decide : 41 + 0 ≤ _), (by decide : 6232 + 0 ≤ _)⟩)
            dsimp only [Pt.U, Pt.locs, Pt.cells, Pt.slots] at X_18 l_18 y_18 z_18 st_18 hQ_18
            subst l_18 y_18 z_18
            obtain ⟨rfl, N_18q, eh_18⟩ := hQ_18
            have N_18 := Fr.app Nj_17 N_18q
            refine hst (fun _ kt => st_18.trans kt) ?_
            show G (T_18.setTop (mkF mI 308 #[.val (.int bits), .val (.int qq), .val (.int y0), .val (.int y1), .val (.int y2), .val (.int nn), .val (.int (own_ch qq)), .val (.int kd0), .val (.int kd1), .val (.int kd2), .val r0, .val r1, .val r2, .val (.ref ir), .val (.ref q), .val (.ref t), .val (.ref g), .val (.int f0), .val (.int f1), .val (.int f2), .val (.int ex)] [(.int (own_nd nn (own_by (own_ch qq)) o0 o1 o2))]))
            refine o_iload hst X_18.here hx (hb hby at_308) (pc' := 310) rfl rfl ?_
            have hc310 : (own_nd nn (own_by (own_ch qq)) o0 o1 o2) = ex := by rw [hex, hf0, hf1, hf2, ho0, ho1, ho2]; exact own_fin nn qq kd0 kd1 kd2 y0 y1 y2
            refine hst (fun _ kt => XS.icmpNo X_18.here hx rfl (hb hby at_310) rfl (teq hc310).2 kt) ?_
            show G (T_18.setTop (mkF mI 313 #[.val (.int bits), .val (.int qq), .val (.int y0), .val (.int y1), .val (.int y2), .val (.int nn), .val (.int (own_ch qq)), .val (.int kd0), .val (.int kd1), .val (.int kd2), .val r0, .val r1, .val r2, .val (.ref ir), .val (.ref q), .val (.ref t), .val (.ref g), .val (.int f0), .val (.int f1), .val (.int f2), .val (.int ex)] []))
            refine o_iconst hst X_18.here hx (hb hby at_313) (pc' := 314) rfl (z := (1 : Int32)) rfl ?_
            refine o_goto hst X_18.here hx (hb hby at_314) (by decide) (pc' := 318) (by decide) ?_
            exact hend (own_goRet X_18 hx Bd.returns rfl (Or.inl ⟨rfl, by simp, _, rfl⟩) (hb hby at_318) Bd.notSynchronized (by rw [eh_18]; exact ⟨rfl, N_18⟩) (by decide) (by decide))
          by_cases he0 : f0 = (0 : Int32)
          ·
            refine hst (fun _ kt => XS.ifYes Xj_17.here hx rfl (pc0 := 273) (pc' := 282) rfl (hb hby at_273) rfl ((if0 _ _).trans (teq he0).1) (by decide) (by decide) kt) ?_
            show G (Tj_17.setTop (mkF mI 282 #[.val (.int bits), .val (.int qq), .val (.int y0), .val (.int y1), .val (.int y2), .val (.int nn), .val (.int (own_ch qq)), .val (.int kd0), .val (.int kd1), .val (.int kd2), .val r0, .val r1, .val r2, .val (.ref ir), .val (.ref q), .val (.ref t), .val (.ref g), .val (.int f0), .val (.int f1), .val (.int f2), .val (.int (-1 : Int32))] []))
            refine o_iload hst Xj_17.here hx (hb hby at_282) (pc' := 284) rfl rfl ?_
            by_cases he1 : f1 = (0 : Int32)
            ·
              refine hst (fun _ kt => XS.ifYes Xj_17.here hx rfl (pc0 := 284) (pc' := 293) rfl (hb hby at_284) rfl ((if0 _ _).trans (teq he1).1) (by decide) (by decide) kt) ?_
              show G (Tj_17.setTop (mkF mI 293 #[.val (.int bits), .val (.int qq), .val (.int y0), .val (.int y1), .val (.int y2), .val (.int nn), .val (.int (own_ch qq)), .val (.int kd0), .val (.int kd1), .val (.int kd2), .val r0, .val r1, .val r2, .val (.ref ir), .val (.ref q), .val (.ref t), .val (.ref g), .val (.int f0), .val (.int f1), .val (.int f2), .val (.int (-1 : Int32))] []))
              refine o_iload hst Xj_17.here hx (hb hby at_293) (pc' := 295) rfl rfl ?_
              by_cases he2 : f2 = (0 : Int32)
              ·
                refine hst (fun _ kt => XS.ifYes Xj_17.here hx rfl (pc0 := 295) (pc' := 301) rfl (hb hby at_295) rfl ((if0 _ _).trans (teq he2).1) (by decide) (by decide) kt) ?_
                show G (Tj_17.setTop (mkF mI 301 #[.val (.int bits), .val (.int qq), .val (.int y0), .val (.int y1), .val (.int y2), .val (.int nn), .val (.int (own_ch qq)), .val (.int kd0), .val (.int kd1), .val (.int kd2), .val r0, .val r1, .val r2, .val (.ref ir), .val (.ref q), .val (.ref t), .val (.ref g), .val (.int f0), .val (.int f1), .val (.int f2), .val (.int (-1 : Int32))] []))
                exact J301 _ (by rw [own_ex, if_pos he0, if_pos he1, if_pos he2])
              ·
                refine hst (fun _ kt => XS.ifNo Xj_17.here hx rfl (hb hby at_295) rfl ((if0 _ _).trans (feq he2).1) kt) ?_
                show G (Tj_17.setTop (mkF mI 298 #[.val (.int bits), .val (.int qq), .val (.int y0), .val (.int y1), .val (.int y2), .val (.int nn), .val (.int (own_ch qq)), .val (.int kd0), .val (.int kd1), .val (.int kd2), .val r0, .val r1, .val r2, .val (.ref ir), .val (.ref q), .val (.ref t), .val (.ref g), .val (.int f0), .val (.int f1), .val (.int f2), .val (.int (-1 : Int32))] []))
                refine o_iconst hst Xj_17.here hx (hb hby at_298) (pc' := 299) rfl (z := (2 : Int32)) rfl ?_
                refine o_istore hst Xj_17.here hx (hb hby at_299) (pc' := 301) rfl (Lt := #[.val (.int bits), .val (.int qq), .val (.int y0), .val (.int y1), .val (.int y2), .val (.int nn), .val (.int (own_ch qq)), .val (.int kd0), .val (.int kd1), .val (.int kd2), .val r0, .val r1, .val r2, .val (.ref ir), .val (.ref q), .val (.ref t), .val (.ref g), .val (.int f0), .val (.int f1), .val (.int f2), .val (.int (2 : Int32))]) rfl ?_
                exact J301 _ (by rw [own_ex, if_pos he0, if_pos he1, if_neg he2])
            ·
              refine hst (fun _ kt => XS.ifNo Xj_17.here hx rfl (hb hby at_284) rfl ((if0 _ _).trans (feq he1).1) kt) ?_
              show G (Tj_17.setTop (mkF mI 287 #[.val (.int bits), .val (.int qq), .val (.int y0), .val (.int y1), .val (.int y2), .val (.int nn), .val (.int (own_ch qq)), .val (.int kd0), .val (.int kd1), .val (.int kd2), .val r0, .val r1, .val r2, .val (.ref ir), .val (.ref q), .val (.ref t), .val (.ref g), .val (.int f0), .val (.int f1), .val (.int f2), .val (.int (-1 : Int32))] []))
              refine o_iconst hst Xj_17.here hx (hb hby at_287) (pc' := 288) rfl (z := (1 : Int32)) rfl ?_
              refine o_istore hst Xj_17.here hx (hb hby at_288) (pc' := 290) rfl (Lt := #[.val (.int bits), .val (.int qq), .val (.int y0), .val (.int y1), .val (.int y2), .val (.int nn), .val (.int (own_ch qq)), .val (.int kd0), .val (.int kd1), .val (.int kd2), .val r0, .val r1, .val r2, .val (.ref ir), .val (.ref q), .val (.ref t), .val (.ref g), .val (.int f0), .val (.int f1), .val (.int f2), .val (.int (1 : Int32))]) rfl ?_
              refine o_goto hst Xj_17.here hx (hb hby at_290) (by decide) (pc' := 301) (by decide) ?_
              exact J301 _ (by rw [own_ex, if_pos he0, if_neg he1])
          ·
            refine hst (fun _ kt => XS.ifNo Xj_17.here hx rfl (hb hby at_273) rfl ((if0 _ _).trans (feq he0).1) kt) ?_
            show G (Tj_17.setTop (mkF mI 276 #[.val (.int bits), .val (.int qq), .val (.int y0), .val (.int y1), .val (.int y2), .val (.int nn), .val (.int (own_ch qq)), .val (.int kd0), .val (.int kd1), .val (.int kd2), .val r0, .val r1, .val r2, .val (.ref ir), .val (.ref q), .val (.ref t), .val (.ref g), .val (.int f0), .val (.int f1), .val (.int f2), .val (.int (-1 : Int32))] []))
            refine o_iconst hst Xj_17.here hx (hb hby at_276) (pc' := 277) rfl (z := (0 : Int32)) rfl ?_
            refine o_istore hst Xj_17.here hx (hb hby at_277) (pc' := 279) rfl (Lt := #[.val (.int bits), .val (.int qq), .val (.int y0), .val (.int y1), .val (.int y2), .val (.int nn), .val (.int (own_ch qq)), .val (.int kd0), .val (.int kd1), .val (.int kd2), .val r0, .val r1, .val r2, .val (.ref ir), .val (.ref q), .val (.ref t), .val (.ref g), .val (.int f0), .val (.int f1), .val (.int f2), .val (.int (0 : Int32))]) rfl ?_
            refine o_goto hst Xj_17.here hx (hb hby at_279) (by decide) (pc' := 301) (by decide) ?_
            exact J301 _ (by rw [own_ex, if_neg he0])
        by_cases hp2 : (2 : Int32) < nn
        ·
          refine hst (fun _ kt => XS.icmpNo Xj_16.here hx rfl (hb hby at_246) rfl (tlt hp2).2.2.2 kt) ?_
          show G (Tj_16.setTop (mkF mI 249 #[.val (.int bits), .val (.int qq), .val (.int y0), .val (.int y1), .val (.int y2), .val (.int nn), .val (.int (own_ch qq)), .val (.int kd0), .val (.int kd1), .val (.int kd2), .val r0, .val r1, .val r2, .val (.ref ir), .val (.ref q), .val (.ref t), .val (.ref g), .val (.int f0), .val (.int f1), .unset, .unset] []))
          refine o_iload hst Xj_16.here hx (hb hby at_249) (pc' := 251) rfl rfl ?_
          refine o_iload hst Xj_16.here hx (hb hby at_251) (pc' := 253) rfl rfl ?_
          refine o_iload hst Xj_16.here hx (hb hby at_253) (pc' := 255) rfl rfl ?_
          obtain ⟨_, _, ⟨T_19, L_19, k_19, n_19⟩, -, X_19, ⟨Lc_19, hQ_19, l_19, y_19, z_19⟩, st_19⟩ := Jvm.LawKit.callS Xj_16 hx (y := (⟨x.cls, "matches", "(ICI)Z"⟩ : MethodName)) hown (mvT hZ (own_w326 hw)) (mvT hZ (own_w327 hw)) (mvT hZ (own_w2 hw)) (mvT hZ (own_w328 hw)) (by decide) (backOf (W := 0) (rmmt lL Z a0 hw [] kd2 (own_ch qq) y2  T_14.heap n0 Z0) hZ (own_w328 hw) (own_w2 hw) (by decide) (by decide)) (g := (mkF mI 255 #[.val (.int bits), .val (.int qq), .val (.int y0), .val (.int y1), .val (.int y2), .val (.int nn), .val (.int (own_ch qq)), .val (.int kd0), .val (.int kd1), .val (.int kd2), .val r0, .val r1, .val r2, .val (.ref ir), .val (.ref q), .val (.ref t), .val (.ref g), .val (.int f0), .val (.int f1), .unset, .unset] [(.int y2), (.int (own_ch qq)), (.int kd2)])) rfl (by rw [hml]; rfl) (argsL := [(.int kd2), (.int (own_ch qq)), (.int y2)]) (rest := []) (lenOf pd_26 rfl) rfl (by show 2 * 0 + _ ≤ _; exact Nat.le_of_eq rfl) (hb hby at_255) (fun _ _ => ⟨rfl, ej_16, (by decide : 41 + 0 ≤ _), (by decide : 6232 + 0 ≤ _)⟩)
          dsimp only [Pt.U, Pt.locs, Pt.cells, Pt.slots] at X_19 l_19 y_19 z_19 st_19 hQ_19
          subst l_19 y_19 z_19
          obtain ⟨rfl, N_19q, eh_19⟩ := hQ_19
          have N_19 := Fr.app Nj_16 N_19q
          refine hst (fun _ kt => st_19 _ kt) ?_
          show G (T_19.setTop (mkF mI 258 #[.val (.int bits), .val (.int qq), .val (.int y0), .val (.int y1), .val (.int y2), .val (.int nn), .val (.int (own_ch qq)), .val (.int kd0), .val (.int kd1), .val (.int kd2), .val r0, .val r1, .val r2, .val (.ref ir), .val (.ref q), .val (.ref t), .val (.ref g), .val (.int f0), .val (.int f1), .unset, .unset] [(.int (own_mt kd2 (own_ch qq) y2))]))
          by_cases hp2a : (own_mt kd2 (own_ch qq) y2) = (0 : Int32)
          ·
            refine hst (fun _ kt => XS.ifYes X_19.here hx rfl (pc0 := 258) (pc' := 265) rfl (hb hby at_258) rfl ((if0 _ _).trans (teq hp2a).1) (by decide) (by decide) kt) ?_
            show G (T_19.setTop (mkF mI 265 #[.val (.int bits), .val (.int qq), .val (.int y0), .val (.int y1), .val (.int y2), .val (.int nn), .val (.int (own_ch qq)), .val (.int kd0), .val (.int kd1), .val (.int kd2), .val r0, .val r1, .val r2, .val (.ref ir), .val (.ref q), .val (.ref t), .val (.ref g), .val (.int f0), .val (.int f1), .unset, .unset] []))
            refine o_iconst hst X_19.here hx (hb hby at_265) (pc' := 266) rfl (z := (0 : Int32)) rfl ?_
            exact J266 _ T_19 _ X_19 eh_19 N_19 (by rw [own_fl, if_pos hp2, if_pos hp2a])
          ·
            refine hst (fun _ kt => XS.ifNo X_19.here hx rfl (hb hby at_258) rfl ((if0 _ _).trans (feq hp2a).1) kt) ?_
            show G (T_19.setTop (mkF mI 261 #[.val (.int bits), .val (.int qq), .val (.int y0), .val (.int y1), .val (.int y2), .val (.int nn), .val (.int (own_ch qq)), .val (.int kd0), .val (.int kd1), .val (.int kd2), .val r0, .val r1, .val r2, .val (.ref ir), .val (.ref q), .val (.ref t), .val (.ref g), .val (.int f0), .val (.int f1), .unset, .unset] []))
            refine o_iconst hst X_19.here hx (hb hby at_261) (pc' := 262) rfl (z := (1 : Int32)) rfl ?_
            refine o_goto hst X_19.here hx (hb hby at_262) (by decide) (pc' := 266) (by decide) ?_
            exact J266 _ T_19 _ X_19 eh_19 N_19 (by rw [own_fl, if_pos hp2, if_neg hp2a])
        ·
          refine hst (fun _ kt => XS.icmpYes Xj_16.here hx rfl (pc0 := 246) (pc' := 265) rfl (hb hby at_246) rfl (flt hp2).2.2.2 (by decide) (by decide) kt) ?_
          show G (Tj_16.setTop (mkF mI 265 #[.val (.int bits), .val (.int qq), .val (.int y0), .val (.int y1), .val (.int y2), .val (.int nn), .val (.int (own_ch qq)), .val (.int kd0), .val (.int kd1), .val (.int kd2), .val r0, .val r1, .val r2, .val (.ref ir), .val (.ref q), .val (.ref t), .val (.ref g), .val (.int f0), .val (.int f1), .unset, .unset] []))
          refine o_iconst hst Xj_16.here hx (hb hby at_265) (pc' := 266) rfl (z := (0 : Int32)) rfl ?_
          exact J266 _ Tj_16 _ Xj_16 ej_16 Nj_16 (by rw [own_fl, if_neg hp2])
      by_cases hp1 : (1 : Int32) < nn
      ·
        refine hst (fun _ kt => XS.icmpNo Xj_15.here hx rfl (hb hby at_222) rfl (tlt hp1).2.2.2 kt) ?_
        show G (Tj_15.setTop (mkF mI 225 #[.val (.int bits), .val (.int qq), .val (.int y0), .val (.int y1), .val (.int y2), .val (.int nn), .val (.int (own_ch qq)), .val (.int kd0), .val (.int kd1), .val (.int kd2), .val r0, .val r1, .val r2, .val (.ref ir), .val (.ref q), .val (.ref t), .val (.ref g), .val (.int f0), .unset, .unset, .unset] []))
        refine o_iload hst Xj_15.here hx (hb hby at_225) (pc' := 227) rfl rfl ?_
        refine o_iload hst Xj_15.here hx (hb hby at_227) (pc' := 229) rfl rfl ?_
        refine o_iloadN hst Xj_15.here hx (hb hby at_229) (pc' := 230) rfl rfl ?_
        obtain ⟨_, _, ⟨T_20, L_20, k_20, n_20⟩, -, X_20, ⟨Lc_20, hQ_20, l_20, y_20, z_20⟩, st_20⟩ := Jvm.LawKit.callS Xj_15 hx (y := (⟨x.cls, "matches", "(ICI)Z"⟩ : MethodName)) hown (mvT hZ (own_w326 hw)) (mvT hZ (own_w327 hw)) (mvT hZ (own_w2 hw)) (mvT hZ (own_w328 hw)) (by decide) (backOf (W := 0) (rmmt lL Z a0 hw [] kd1 (own_ch qq) y1  T_14.heap n0 Z0) hZ (own_w328 hw) (own_w2 hw) (by decide) (by decide)) (g := (mkF mI 230 #[.val (.int bits), .val (.int qq), .val (.int y0), .val (.int y1), .val (.int y2), .val (.int nn), .val (.int (own_ch qq)), .val (.int kd0), .val (.int kd1), .val (.int kd2), .val r0, .val r1, .val r2, .val (.ref ir), .val (.ref q), .val (.ref t), .val (.ref g), .val (.int f0), .unset, .unset, .unset] [(.int y1), (.int (own_ch qq)), (.int kd1)])) rfl (by rw [hml]; rfl) (argsL := [(.int kd1), (.int (own_ch qq)), (.int y1)]) (rest := []) (lenOf pd_26 rfl) rfl (by show 2 * 0 + _ ≤ _; exact Nat.le_of_eq rfl) (hb hby at_230) (fun _ _ => ⟨rfl, ej_15, (by decide : 41 + 0 ≤ _), (by decide : 6232 + 0 ≤ _)⟩)
        dsimp only [Pt.U, Pt.locs, Pt.cells, Pt.slots] at X_20 l_20 y_20 z_20 st_20 hQ_20
        subst l_20 y_20 z_20
        obtain ⟨rfl, N_20q, eh_20⟩ := hQ_20
        have N_20 := Fr.app Nj_15 N_20q
        refine hst (fun _ kt => st_20 _ kt) ?_
        show G (T_20.setTop (mkF mI 233 #[.val (.int bits), .val (.int qq), .val (.int y0), .val (.int y1), .val (.int y2), .val (.int nn), .val (.int (own_ch qq)), .val (.int kd0), .val (.int kd1), .val (.int kd2), .val r0, .val r1, .val r2, .val (.ref ir), .val (.ref q), .val (.ref t), .val (.ref g), .val (.int f0), .unset, .unset, .unset] [(.int (own_mt kd1 (own_ch qq) y1))]))
        by_cases hp1a : (own_mt kd1 (own_ch qq) y1) = (0 : Int32)
        ·
          refine hst (fun _ kt => XS.ifYes X_20.here hx rfl (pc0 := 233) (pc' := 240) rfl (hb hby at_233) rfl ((if0 _ _).trans (teq hp1a).1) (by decide) (by decide) kt) ?_
          show G (T_20.setTop (mkF mI 240 #[.val (.int bits), .val (.int qq), .val (.int y0), .val (.int y1), .val (.int y2), .val (.int nn), .val (.int (own_ch qq)), .val (.int kd0), .val (.int kd1), .val (.int kd2), .val r0, .val r1, .val r2, .val (.ref ir), .val (.ref q), .val (.ref t), .val (.ref g), .val (.int f0), .unset, .unset, .unset] []))
          refine o_iconst hst X_20.here hx (hb hby at_240) (pc' := 241) rfl (z := (0 : Int32)) rfl ?_
          exact J241 _ T_20 _ X_20 eh_20 N_20 (by rw [own_fl, if_pos hp1, if_pos hp1a])
        ·
          refine hst (fun _ kt => XS.ifNo X_20.here hx rfl (hb hby at_233) rfl ((if0 _ _).trans (feq hp1a).1) kt) ?_
          show G (T_20.setTop (mkF mI 236 #[.val (.int bits), .val (.int qq), .val (.int y0), .val (.int y1), .val (.int y2), .val (.int nn), .val (.int (own_ch qq)), .val (.int kd0), .val (.int kd1), .val (.int kd2), .val r0, .val r1, .val r2, .val (.ref ir), .val (.ref q), .val (.ref t), .val (.ref g), .val (.int f0), .unset, .unset, .unset] []))
          refine o_iconst hst X_20.here hx (hb hby at_236) (pc' := 237) rfl (z := (1 : Int32)) rfl ?_
          refine o_goto hst X_20.here hx (hb hby at_237) (by decide) (pc' := 241) (by decide) ?_
          exact J241 _ T_20 _ X_20 eh_20 N_20 (by rw [own_fl, if_pos hp1, if_neg hp1a])
      ·
        refine hst (fun _ kt => XS.icmpYes Xj_15.here hx rfl (pc0 := 222) (pc' := 240) rfl (hb hby at_222) rfl (flt hp1).2.2.2 (by decide) (by decide) kt) ?_
        show G (Tj_15.setTop (mkF mI 240 #[.val (.int bits), .val (.int qq), .val (.int y0), .val (.int y1), .val (.int y2), .val (.int nn), .val (.int (own_ch qq)), .val (.int kd0), .val (.int kd1), .val (.int kd2), .val r0, .val r1, .val r2, .val (.ref ir), .val (.ref q), .val (.ref t), .val (.ref g), .val (.int f0), .unset, .unset, .unset] []))
        refine o_iconst hst Xj_15.here hx (hb hby at_240) (pc' := 241) rfl (z := (0 : Int32)) rfl ?_
        exact J241 _ Tj_15 _ Xj_15 ej_15 Nj_15 (by rw [own_fl, if_neg hp1])
    by_cases hp0 : (0 : Int32) < nn
    ·
      refine hst (fun _ kt => XS.ifNo X_14.here hx rfl (hb hby at_198) rfl ((if0 _ _).trans (tlt hp0).2.2.2) kt) ?_
      show G (T_14.setTop (mkF mI 201 #[.val (.int bits), .val (.int qq), .val (.int y0), .val (.int y1), .val (.int y2), .val (.int nn), .val (.int (own_ch qq)), .val (.int kd0), .val (.int kd1), .val (.int kd2), .val r0, .val r1, .val r2, .val (.ref ir), .val (.ref q), .val (.ref t), .val (.ref g), .unset, .unset, .unset, .unset] []))
      refine o_iload hst X_14.here hx (hb hby at_201) (pc' := 203) rfl rfl ?_
      refine o_iload hst X_14.here hx (hb hby at_203) (pc' := 205) rfl rfl ?_
      refine o_iloadN hst X_14.here hx (hb hby at_205) (pc' := 206) rfl rfl ?_
      obtain ⟨_, _, ⟨T_21, L_21, k_21, n_21⟩, -, X_21, ⟨Lc_21, hQ_21, l_21, y_21, z_21⟩, st_21⟩ := Jvm.LawKit.callS X_14 hx (y := (⟨x.cls, "matches", "(ICI)Z"⟩ : MethodName)) hown (mvT hZ (own_w326 hw)) (mvT hZ (own_w327 hw)) (mvT hZ (own_w2 hw)) (mvT hZ (own_w328 hw)) (by decide) (backOf (W := 0) (rmmt lL Z a0 hw [] kd0 (own_ch qq) y0  T_14.heap n0 Z0) hZ (own_w328 hw) (own_w2 hw) (by decide) (by decide)) (g := (mkF mI 206 #[.val (.int bits), .val (.int qq), .val (.int y0), .val (.int y1), .val (.int y2), .val (.int nn), .val (.int (own_ch qq)), .val (.int kd0), .val (.int kd1), .val (.int kd2), .val r0, .val r1, .val r2, .val (.ref ir), .val (.ref q), .val (.ref t), .val (.ref g), .unset, .unset, .unset, .unset] [(.int y0), (.int (own_ch qq)), (.int kd0)])) rfl (by rw [hml]; rfl) (argsL := [(.int kd0), (.int (own_ch qq)), (.int y0)]) (rest := []) (lenOf pd_26 rfl) rfl (by show 2 * 0 + _ ≤ _; exact Nat.le_of_eq rfl) (hb hby at_206) (fun _ _ => ⟨rfl, rfl, (by decide : 41 + 0 ≤ _), (by decide : 6232 + 0 ≤ _)⟩)
      dsimp only [Pt.U, Pt.locs, Pt.cells, Pt.slots] at X_21 l_21 y_21 z_21 st_21 hQ_21
      subst l_21 y_21 z_21
      obtain ⟨rfl, N_21q, eh_21⟩ := hQ_21
      have N_21 := Fr.app N_14 N_21q
      refine hst (fun _ kt => st_21 _ kt) ?_
      show G (T_21.setTop (mkF mI 209 #[.val (.int bits), .val (.int qq), .val (.int y0), .val (.int y1), .val (.int y2), .val (.int nn), .val (.int (own_ch qq)), .val (.int kd0), .val (.int kd1), .val (.int kd2), .val r0, .val r1, .val r2, .val (.ref ir), .val (.ref q), .val (.ref t), .val (.ref g), .unset, .unset, .unset, .unset] [(.int (own_mt kd0 (own_ch qq) y0))]))
      by_cases hp0a : (own_mt kd0 (own_ch qq) y0) = (0 : Int32)
      ·
        refine hst (fun _ kt => XS.ifYes X_21.here hx rfl (pc0 := 209) (pc' := 216) rfl (hb hby at_209) rfl ((if0 _ _).trans (teq hp0a).1) (by decide) (by decide) kt) ?_
        show G (T_21.setTop (mkF mI 216 #[.val (.int bits), .val (.int qq), .val (.int y0), .val (.int y1), .val (.int y2), .val (.int nn), .val (.int (own_ch qq)), .val (.int kd0), .val (.int kd1), .val (.int kd2), .val r0, .val r1, .val r2, .val (.ref ir), .val (.ref q), .val (.ref t), .val (.ref g), .unset, .unset, .unset, .unset] []))
        refine o_iconst hst X_21.here hx (hb hby at_216) (pc' := 217) rfl (z := (0 : Int32)) rfl ?_
        exact J217 _ T_21 _ X_21 eh_21 N_21 (by rw [own_fl, if_pos hp0, if_pos hp0a])
      ·
        refine hst (fun _ kt => XS.ifNo X_21.here hx rfl (hb hby at_209) rfl ((if0 _ _).trans (feq hp0a).1) kt) ?_
        show G (T_21.setTop (mkF mI 212 #[.val (.int bits), .val (.int qq), .val (.int y0), .val (.int y1), .val (.int y2), .val (.int nn), .val (.int (own_ch qq)), .val (.int kd0), .val (.int kd1), .val (.int kd2), .val r0, .val r1, .val r2, .val (.ref ir), .val (.ref q), .val (.ref t), .val (.ref g), .unset, .unset, .unset, .unset] []))
        refine o_iconst hst X_21.here hx (hb hby at_212) (pc' := 213) rfl (z := (1 : Int32)) rfl ?_
        refine o_goto hst X_21.here hx (hb hby at_213) (by decide) (pc' := 217) (by decide) ?_
        exact J217 _ T_21 _ X_21 eh_21 N_21 (by rw [own_fl, if_pos hp0, if_neg hp0a])
    ·
      refine hst (fun _ kt => XS.ifYes X_14.here hx rfl (pc0 := 198) (pc' := 216) rfl (hb hby at_198) rfl ((if0 _ _).trans (flt hp0).2.2.2) (by decide) (by decide) kt) ?_
      show G (T_14.setTop (mkF mI 216 #[.val (.int bits), .val (.int qq), .val (.int y0), .val (.int y1), .val (.int y2), .val (.int nn), .val (.int (own_ch qq)), .val (.int kd0), .val (.int kd1), .val (.int kd2), .val r0, .val r1, .val r2, .val (.ref ir), .val (.ref q), .val (.ref t), .val (.ref g), .unset, .unset, .unset, .unset] []))
      refine o_iconst hst X_14.here hx (hb hby at_216) (pc' := 217) rfl (z := (0 : Int32)) rfl ?_
      exact J217 _ T_14 _ X_14 rfl N_14 (by rw [own_fl, if_neg hp0])
  rcases hin with hn | hn | hn | hn
  ·
    subst hn
    show G (T_3.setTop (mkF mI 68 #[.val (.int bits), .val (.int qq), .val (.int y0), .val (.int y1), .val (.int y2), .val (.int (0 : Int32)), .val (.int (own_ch qq)), .val (.int kd0), .val (.int kd1), .val (.int kd2), .val r0, .val r1, .val r2, .unset, .unset, .unset, .unset, .unset, .unset, .unset, .unset] [(.int (0 : Int32))]))
    have hw0 : (0 : Int32) = (0 : Int32) := by decide
    refine hst (fun _ kt => XS.ifNo X_3.here hx rfl (hb hby at_68) rfl ((if0 _ _).trans (teq hw0).2) kt) ?_
    show G (T_3.setTop (mkF mI 71 #[.val (.int bits), .val (.int qq), .val (.int y0), .val (.int y1), .val (.int y2), .val (.int (0 : Int32)), .val (.int (own_ch qq)), .val (.int kd0), .val (.int kd1), .val (.int kd2), .val r0, .val r1, .val r2, .unset, .unset, .unset, .unset, .unset, .unset, .unset, .unset] []))
    refine o_iconst hst X_3.here hx (hb hby at_71) (pc' := 72) rfl (z := (0 : Int32)) rfl ?_
    obtain ⟨T_22, h_22, k_ir, X_22, e_22, E_22, A_22, O_ir, st_22⟩ := newR X_3 hx hZ hown (own_w4 hw) (own_w5 hw) rfl (g := (mkF mI 72 #[.val (.int bits), .val (.int qq), .val (.int y0), .val (.int y1), .val (.int y2), .val (.int (0 : Int32)), .val (.int (own_ch qq)), .val (.int kd0), .val (.int kd1), .val (.int kd2), .val r0, .val r1, .val r2, .unset, .unset, .unset, .unset, .unset, .unset, .unset, .unset] [(.int (0 : Int32))])) rfl (hb hby at_72) rfl (by decide) (cap := 0) (by decide) (by decide) (by decide) (by decide)
    obtain ⟨ir, g_ir⟩ : ∃ z, z = T_3.heap.size := ⟨_, rfl⟩
    rw [← g_ir] at A_22 st_22
    have le_n0_ir : n0 ≤ ir := Nat.le_trans Z0 (Nat.le_of_eq g_ir.symm)
    have le_B_ir : B0 ≤ ir := Nat.le_trans ZB (Nat.le_of_eq g_ir.symm)
    have Z0 := Nat.le_trans Z0 E_22.1
    have S_c := S_c.ext E_22
    have ZB := Nat.le_trans ZB E_22.1
    have C_s0 := own_St_keep C_s0 ((Keep.refl _ []).ext E_22) all0
    have C_s1 := own_St_keep C_s1 ((Keep.refl _ []).ext E_22) all0
    have C_s2 := own_St_keep C_s2 ((Keep.refl _ []).ext E_22) all0
    have V_ir : Arv Z h_22 ir k_ir (.object "java/lang/String") (0 : Int32) [] .null := (Arv.new A_22 (by decide)).pad (pad_rep [] .null 0)
    refine hst st_22 ?_
    show G (T_22.setTop (mkF mI 75 #[.val (.int bits), .val (.int qq), .val (.int y0), .val (.int y1), .val (.int y2), .val (.int (0 : Int32)), .val (.int (own_ch qq)), .val (.int kd0), .val (.int kd1), .val (.int kd2), .val r0, .val r1, .val r2, .unset, .unset, .unset, .unset, .unset, .unset, .unset, .unset] [(.ref ir)]))
    refine o_astore hst X_22.here hx (hb hby at_75) (pc' := 77) rfl (Lt := #[.val (.int bits), .val (.int qq), .val (.int y0), .val (.int y1), .val (.int y2), .val (.int (0 : Int32)), .val (.int (own_ch qq)), .val (.int kd0), .val (.int kd1), .val (.int kd2), .val r0, .val r1, .val r2, .val (.ref ir), .unset, .unset, .unset, .unset, .unset, .unset, .unset]) rfl rfl ?_
    refine o_goto hst X_22.here hx (hb hby at_77) (by decide) (pc' := 146) (by decide) ?_
    exact J146 ir k_ir h_22 T_22 _ (X_22.more (by decide) (by decide)) e_22 N_3 Z0 S_c ZB C_s0 C_s1 C_s2 V_ir le_B_ir
  ·
    subst hn
    show G (T_3.setTop (mkF mI 68 #[.val (.int bits), .val (.int qq), .val (.int y0), .val (.int y1), .val (.int y2), .val (.int (1 : Int32)), .val (.int (own_ch qq)), .val (.int kd0), .val (.int kd1), .val (.int kd2), .val r0, .val r1, .val r2, .unset, .unset, .unset, .unset, .unset, .unset, .unset, .unset] [(.int (1 : Int32))]))
    have hw0 : ¬ ((1 : Int32) = (0 : Int32)) := by decide
    refine hst (fun _ kt => XS.ifYes X_3.here hx rfl (pc0 := 68) (pc' := 80) rfl (hb hby at_68) rfl ((if0 _ _).trans (feq hw0).2) (by decide) (by decide) kt) ?_
    show G (T_3.setTop (mkF mI 80 #[.val (.int bits), .val (.int qq), .val (.int y0), .val (.int y1), .val (.int y2), .val (.int (1 : Int32)), .val (.int (own_ch qq)), .val (.int kd0), .val (.int kd1), .val (.int kd2), .val r0, .val r1, .val r2, .unset, .unset, .unset, .unset, .unset, .unset, .unset, .unset] []))
    refine o_iload hst X_3.here hx (hb hby at_80) (pc' := 82) rfl rfl ?_
    refine o_iconst hst X_3.here hx (hb hby at_82) (pc' := 83) rfl (z := (1 : Int32)) rfl ?_
    have hw1 : (1 : Int32) = (1 : Int32) := by decide
    refine hst (fun _ kt => XS.icmpNo X_3.here hx rfl (hb hby at_83) rfl (teq hw1).2 kt) ?_
    show G (T_3.setTop (mkF mI 86 #[.val (.int bits), .val (.int qq), .val (.int y0), .val (.int y1), .val (.int y2), .val (.int (1 : Int32)), .val (.int (own_ch qq)), .val (.int kd0), .val (.int kd1), .val (.int kd2), .val r0, .val r1, .val r2, .unset, .unset, .unset, .unset, .unset, .unset, .unset, .unset] []))
    refine o_iconst hst X_3.here hx (hb hby at_86) (pc' := 87) rfl (z := (1 : Int32)) rfl ?_
    obtain ⟨T_23, h_23, k_ir, X_23, e_23, E_23, A_23, O_ir, st_23⟩ := newR X_3 hx hZ hown (own_w4 hw) (own_w5 hw) rfl (g := (mkF mI 87 #[.val (.int bits), .val (.int qq), .val (.int y0), .val (.int y1), .val (.int y2), .val (.int (1 : Int32)), .val (.int (own_ch qq)), .val (.int kd0), .val (.int kd1), .val (.int kd2), .val r0, .val r1, .val r2, .unset, .unset, .unset, .unset, .unset, .unset, .unset, .unset] [(.int (1 : Int32))])) rfl (hb hby at_87) rfl (by decide) (cap := 1) (by decide) (by decide) (by decide) (by decide)
    obtain ⟨ir, g_ir⟩ : ∃ z, z = T_3.heap.size := ⟨_, rfl⟩
    rw [← g_ir] at A_23 st_23
    have le_n0_ir : n0 ≤ ir := Nat.le_trans Z0 (Nat.le_of_eq g_ir.symm)
    have le_B_ir : B0 ≤ ir := Nat.le_trans ZB (Nat.le_of_eq g_ir.symm)
    have Z0 := Nat.le_trans Z0 E_23.1
    have S_c := S_c.ext E_23
    have ZB := Nat.le_trans ZB E_23.1
    have C_s0 := own_St_keep C_s0 ((Keep.refl _ []).ext E_23) all0
    have C_s1 := own_St_keep C_s1 ((Keep.refl _ []).ext E_23) all0
    have C_s2 := own_St_keep C_s2 ((Keep.refl _ []).ext E_23) all0
    have V_ir : Arv Z h_23 ir k_ir (.object "java/lang/String") (1 : Int32) [.null] .null := (Arv.new A_23 (by decide)).pad (pad_rep [] .null 1)
    refine hst st_23 ?_
    show G (T_23.setTop (mkF mI 90 #[.val (.int bits), .val (.int qq), .val (.int y0), .val (.int y1), .val (.int y2), .val (.int (1 : Int32)), .val (.int (own_ch qq)), .val (.int kd0), .val (.int kd1), .val (.int kd2), .val r0, .val r1, .val r2, .unset, .unset, .unset, .unset, .unset, .unset, .unset, .unset] [(.ref ir)]))
    refine o_dup hst X_23.here hx (hb hby at_90) (pc' := 91) rfl rfl ?_
    refine o_iconst hst X_23.here hx (hb hby at_91) (pc' := 92) rfl (z := (0 : Int32)) rfl ?_
    refine o_aload hst X_23.here hx (hb hby at_92) (pc' := 94) rfl rfl hr0 ?_
    obtain ⟨cl_24, Ar_24, q_24, S_24, M_24, Hs_24, Gs_24⟩ := V_ir
    have hin_24 : ¬ ((0 : Int32) < 0 ∨ cl_24.slots.size ≤ ((0 : Int32)).toNatClampNeg) := inb_of S_24 ⟨by decide, by decide⟩
    obtain ⟨T_24, h_24, X_24, e_24, W_24, st_24⟩ := stR X_23 hx hZ e_23 Ar_24 (j := (0 : Int32)) (v := r0) hin_24 rfl (own_St_sto C_s0 Ar_24 q_24 O_ir) (g := (mkF mI 94 #[.val (.int bits), .val (.int qq), .val (.int y0), .val (.int y1), .val (.int y2), .val (.int (1 : Int32)), .val (.int (own_ch qq)), .val (.int kd0), .val (.int kd1), .val (.int kd2), .val r0, .val r1, .val r2, .unset, .unset, .unset, .unset, .unset, .unset, .unset, .unset] [r0, (.int (0 : Int32)), (.ref ir), (.ref ir)])) rfl rfl (hb hby at_94)
    have V_ir := Arv.set Ar_24 q_24 S_24 M_24 Hs_24 Gs_24 (own_St_fit C_s0) W_24 0 rfl (Nat.le_of_ble_eq_true rfl)
    have V_ir : Arv Z h_24 ir k_ir (.object "java/lang/String") (1 : Int32) [r0] .null := V_ir
    have Z0 := Nat.le_trans Z0 (Keep.of_wr W_24).1
    have S_c := S_c.wr W_24
    have ZB := Nat.le_trans ZB (Keep.of_wr W_24).1
    have C_s0 := own_St_keep C_s0 (Keep.of_wr W_24) (allS le_B_ir all0)
    have C_s1 := own_St_keep C_s1 (Keep.of_wr W_24) (allS le_B_ir all0)
    have C_s2 := own_St_keep C_s2 (Keep.of_wr W_24) (allS le_B_ir all0)
    have N_24 := Fr.snoc X_24 N_3 le_n0_ir
    refine hst st_24 ?_
    show G (T_24.setTop (mkF mI 95 #[.val (.int bits), .val (.int qq), .val (.int y0), .val (.int y1), .val (.int y2), .val (.int (1 : Int32)), .val (.int (own_ch qq)), .val (.int kd0), .val (.int kd1), .val (.int kd2), .val r0, .val r1, .val r2, .unset, .unset, .unset, .unset, .unset, .unset, .unset, .unset] [(.ref ir)]))
    refine o_astore hst X_24.here hx (hb hby at_95) (pc' := 97) rfl (Lt := #[.val (.int bits), .val (.int qq), .val (.int y0), .val (.int y1), .val (.int y2), .val (.int (1 : Int32)), .val (.int (own_ch qq)), .val (.int kd0), .val (.int kd1), .val (.int kd2), .val r0, .val r1, .val r2, .val (.ref ir), .unset, .unset, .unset, .unset, .unset, .unset, .unset]) rfl rfl ?_
    refine o_goto hst X_24.here hx (hb hby at_97) (by decide) (pc' := 146) (by decide) ?_
    exact J146 ir k_ir h_24 T_24 _ (X_24.more (by decide) (by decide)) e_24 N_24 Z0 S_c ZB C_s0 C_s1 C_s2 V_ir le_B_ir
  ·
    subst hn
    show G (T_3.setTop (mkF mI 68 #[.val (.int bits), .val (.int qq), .val (.int y0), .val (.int y1), .val (.int y2), .val (.int (2 : Int32)), .val (.int (own_ch qq)), .val (.int kd0), .val (.int kd1), .val (.int kd2), .val r0, .val r1, .val r2, .unset, .unset, .unset, .unset, .unset, .unset, .unset, .unset] [(.int (2 : Int32))]))
    have hw0 : ¬ ((2 : Int32) = (0 : Int32)) := by decide
    refine hst (fun _ kt => XS.ifYes X_3.here hx rfl (pc0 := 68) (pc' := 80) rfl (hb hby at_68) rfl ((if0 _ _).trans (feq hw0).2) (by decide) (by decide) kt) ?_
    show G (T_3.setTop (mkF mI 80 #[.val (.int bits), .val (.int qq), .val (.int y0), .val (.int y1), .val (.int y2), .val (.int (2 : Int32)), .val (.int (own_ch qq)), .val (.int kd0), .val (.int kd1), .val (.int kd2), .val r0, .val r1, .val r2, .unset, .unset, .unset, .unset, .unset, .unset, .unset, .unset] []))
    refine o_iload hst X_3.here hx (hb hby at_80) (pc' := 82) rfl rfl ?_
    refine o_iconst hst X_3.here hx (hb hby at_82) (pc' := 83) rfl (z := (1 : Int32)) rfl ?_
    have hw1 : ¬ ((2 : Int32) = (1 : Int32)) := by decide
    refine hst (fun _ kt => XS.icmpYes X_3.here hx rfl (pc0 := 83) (pc' := 100) rfl (hb hby at_83) rfl (feq hw1).2 (by decide) (by decide) kt) ?_
    show G (T_3.setTop (mkF mI 100 #[.val (.int bits), .val (.int qq), .val (.int y0), .val (.int y1), .val (.int y2), .val (.int (2 : Int32)), .val (.int (own_ch qq)), .val (.int kd0), .val (.int kd1), .val (.int kd2), .val r0, .val r1, .val r2, .unset, .unset, .unset, .unset, .unset, .unset, .unset, .unset] []))
    refine o_iload hst X_3.here hx (hb hby at_100) (pc' := 102) rfl rfl ?_
    refine o_iconst hst X_3.here hx (hb hby at_102) (pc' := 103) rfl (z := (2 : Int32)) rfl ?_
    have hw2 : (2 : Int32) = (2 : Int32) := by decide
    refine hst (fun _ kt => XS.icmpNo X_3.here hx rfl (hb hby at_103) rfl (teq hw2).2 kt) ?_
    show G (T_3.setTop (mkF mI 106 #[.val (.int bits), .val (.int qq), .val (.int y0), .val (.int y1), .val (.int y2), .val (.int (2 : Int32)), .val (.int (own_ch qq)), .val (.int kd0), .val (.int kd1), .val (.int kd2), .val r0, .val r1, .val r2, .unset, .unset, .unset, .unset, .unset, .unset, .unset, .unset] []))
    refine o_iconst hst X_3.here hx (hb hby at_106) (pc' := 107) rfl (z := (2 : Int32)) rfl ?_
    obtain ⟨T_25, h_25, k_ir, X_25, e_25, E_25, A_25, O_ir, st_25⟩ := newR X_3 hx hZ hown (own_w4 hw) (own_w5 hw) rfl (g := (mkF mI 107 #[.val (.int bits), .val (.int qq), .val (.int y0), .val (.int y1), .val (.int y2), .val (.int (2 : Int32)), .val (.int (own_ch qq)), .val (.int kd0), .val (.int kd1), .val (.int kd2), .val r0, .val r1, .val r2, .unset, .unset, .unset, .unset, .unset, .unset, .unset, .unset] [(.int (2 : Int32))])) rfl (hb hby at_107) rfl (by decide) (cap := 2) (by decide) (by decide) (by decide) (by decide)
    obtain ⟨ir, g_ir⟩ : ∃ z, z = T_3.heap.size := ⟨_, rfl⟩
    rw [← g_ir] at A_25 st_25
    have le_n0_ir : n0 ≤ ir := Nat.le_trans Z0 (Nat.le_of_eq g_ir.symm)
    have le_B_ir : B0 ≤ ir := Nat.le_trans ZB (Nat.le_of_eq g_ir.symm)
    have Z0 := Nat.le_trans Z0 E_25.1
    have S_c := S_c.ext E_25
    have ZB := Nat.le_trans ZB E_25.1
    have C_s0 := own_St_keep C_s0 ((Keep.refl _ []).ext E_25) all0
    have C_s1 := own_St_keep C_s1 ((Keep.refl _ []).ext E_25) all0
    have C_s2 := own_St_keep C_s2 ((Keep.refl _ []).ext E_25) all0
    have V_ir : Arv Z h_25 ir k_ir (.object "java/lang/String") (2 : Int32) [.null, .null] .null := (Arv.new A_25 (by decide)).pad (pad_rep [] .null 2)
    refine hst st_25 ?_
    show G (T_25.setTop (mkF mI 110 #[.val (.int bits), .val (.int qq), .val (.int y0), .val (.int y1), .val (.int y2), .val (.int (2 : Int32)), .val (.int (own_ch qq)), .val (.int kd0), .val (.int kd1), .val (.int kd2), .val r0, .val r1, .val r2, .unset, .unset, .unset, .unset, .unset, .unset, .unset, .unset] [(.ref ir)]))
    refine o_dup hst X_25.here hx (hb hby at_110) (pc' := 111) rfl rfl ?_
    refine o_iconst hst X_25.here hx (hb hby at_111) (pc' := 112) rfl (z := (0 : Int32)) rfl ?_
    refine o_aload hst X_25.here hx (hb hby at_112) (pc' := 114) rfl rfl hr0 ?_
    obtain ⟨cl_26, Ar_26, q_26, S_26, M_26, Hs_26, Gs_26⟩ := V_ir
    have hin_26 : ¬ ((0 : Int32) < 0 ∨ cl_26.slots.size ≤ ((0 : Int32)).toNatClampNeg) := inb_of S_26 ⟨by decide, by decide⟩
    obtain ⟨T_26, h_26, X_26, e_26, W_26, st_26⟩ := stR X_25 hx hZ e_25 Ar_26 (j := (0 : Int32)) (v := r0) hin_26 rfl (own_St_sto C_s0 Ar_26 q_26 O_ir) (g := (mkF mI 114 #[.val (.int bits), .val (.int qq), .val (.int y0), .val (.int y1), .val (.int y2), .val (.int (2 : Int32)), .val (.int (own_ch qq)), .val (.int kd0), .val (.int kd1), .val (.int kd2), .val r0, .val r1, .val r2, .unset, .unset, .unset, .unset, .unset, .unset, .unset, .unset] [r0, (.int (0 : Int32)), (.ref ir), (.ref ir)])) rfl rfl (hb hby at_114)
    have V_ir := Arv.set Ar_26 q_26 S_26 M_26 Hs_26 Gs_26 (own_St_fit C_s0) W_26 0 rfl (Nat.le_of_ble_eq_true rfl)
    have V_ir : Arv Z h_26 ir k_ir (.object "java/lang/String") (2 : Int32) [r0, .null] .null := V_ir
    have Z0 := Nat.le_trans Z0 (Keep.of_wr W_26).1
    have S_c := S_c.wr W_26
    have ZB := Nat.le_trans ZB (Keep.of_wr W_26).1
    have C_s0 := own_St_keep C_s0 (Keep.of_wr W_26) (allS le_B_ir all0)
    have C_s1 := own_St_keep C_s1 (Keep.of_wr W_26) (allS le_B_ir all0)
    have C_s2 := own_St_keep C_s2 (Keep.of_wr W_26) (allS le_B_ir all0)
    have N_26 := Fr.snoc X_26 N_3 le_n0_ir
    refine hst st_26 ?_
    show G (T_26.setTop (mkF mI 115 #[.val (.int bits), .val (.int qq), .val (.int y0), .val (.int y1), .val (.int y2), .val (.int (2 : Int32)), .val (.int (own_ch qq)), .val (.int kd0), .val (.int kd1), .val (.int kd2), .val r0, .val r1, .val r2, .unset, .unset, .unset, .unset, .unset, .unset, .unset, .unset] [(.ref ir)]))
    refine o_dup hst X_26.here hx (hb hby at_115) (pc' := 116) rfl rfl ?_
    refine o_iconst hst X_26.here hx (hb hby at_116) (pc' := 117) rfl (z := (1 : Int32)) rfl ?_
    refine o_aload hst X_26.here hx (hb hby at_117) (pc' := 119) rfl rfl hr1 ?_
    obtain ⟨cl_27, Ar_27, q_27, S_27, M_27, Hs_27, Gs_27⟩ := V_ir
    have hin_27 : ¬ ((1 : Int32) < 0 ∨ cl_27.slots.size ≤ ((1 : Int32)).toNatClampNeg) := inb_of S_27 ⟨by decide, by decide⟩
    obtain ⟨T_27, h_27, X_27, e_27, W_27, st_27⟩ := stR X_26 hx hZ e_26 Ar_27 (j := (1 : Int32)) (v := r1) hin_27 rfl (own_St_sto C_s1 Ar_27 q_27 O_ir) (g := (mkF mI 119 #[.val (.int bits), .val (.int qq), .val (.int y0), .val (.int y1), .val (.int y2), .val (.int (2 : Int32)), .val (.int (own_ch qq)), .val (.int kd0), .val (.int kd1), .val (.int kd2), .val r0, .val r1, .val r2, .unset, .unset, .unset, .unset, .unset, .unset, .unset, .unset] [r1, (.int (1 : Int32)), (.ref ir), (.ref ir)])) rfl rfl (hb hby at_119)
    have V_ir := Arv.set Ar_27 q_27 S_27 M_27 Hs_27 Gs_27 (own_St_fit C_s1) W_27 1 rfl (Nat.le_of_ble_eq_true rfl)
    have V_ir : Arv Z h_27 ir k_ir (.object "java/lang/String") (2 : Int32) [r0, r1] .null := V_ir
    have Z0 := Nat.le_trans Z0 (Keep.of_wr W_27).1
    have S_c := S_c.wr W_27
    have ZB := Nat.le_trans ZB (Keep.of_wr W_27).1
    have C_s0 := own_St_keep C_s0 (Keep.of_wr W_27) (allS le_B_ir all0)
    have C_s1 := own_St_keep C_s1 (Keep.of_wr W_27) (allS le_B_ir all0)
    have C_s2 := own_St_keep C_s2 (Keep.of_wr W_27) (allS le_B_ir all0)
    have N_27 := Fr.snoc X_27 N_26 le_n0_ir
    refine hst st_27 ?_
    show G (T_27.setTop (mkF mI 120 #[.val (.int bits), .val (.int qq), .val (.int y0), .val (.int y1), .val (.int y2), .val (.int (2 : Int32)), .val (.int (own_ch qq)), .val (.int kd0), .val (.int kd1), .val (.int kd2), .val r0, .val r1, .val r2, .unset, .unset, .unset, .unset, .unset, .unset, .unset, .unset] [(.ref ir)]))
    refine o_astore hst X_27.here hx (hb hby at_120) (pc' := 122) rfl (Lt := #[.val (.int bits), .val (.int qq), .val (.int y0), .val (.int y1), .val (.int y2), .val (.int (2 : Int32)), .val (.int (own_ch qq)), .val (.int kd0), .val (.int kd1), .val (.int kd2), .val r0, .val r1, .val r2, .val (.ref ir), .unset, .unset, .unset, .unset, .unset, .unset, .unset]) rfl rfl ?_
    refine o_goto hst X_27.here hx (hb hby at_122) (by decide) (pc' := 146) (by decide) ?_
    exact J146 ir k_ir h_27 T_27 _ (X_27.more (by decide) (by decide)) e_27 N_27 Z0 S_c ZB C_s0 C_s1 C_s2 V_ir le_B_ir
  ·
    subst hn
    show G (T_3.setTop (mkF mI 68 #[.val (.int bits), .val (.int qq), .val (.int y0), .val (.int y1), .val (.int y2), .val (.int (3 : Int32)), .val (.int (own_ch qq)), .val (.int kd0), .val (.int kd1), .val (.int kd2), .val r0, .val r1, .val r2, .unset, .unset, .unset, .unset, .unset, .unset, .unset, .unset] [(.int (3 : Int32))]))
    have hw0 : ¬ ((3 : Int32) = (0 : Int32)) := by decide
    refine hst (fun _ kt => XS.ifYes X_3.here hx rfl (pc0 := 68) (pc' := 80) rfl (hb hby at_68) rfl ((if0 _ _).trans (feq hw0).2) (by decide) (by decide) kt) ?_
    show G (T_3.setTop (mkF mI 80 #[.val (.int bits), .val (.int qq), .val (.int y0), .val (.int y1), .val (.int y2), .val (.int (3 : Int32)), .val (.int (own_ch qq)), .val (.int kd0), .val (.int kd1), .val (.int kd2), .val r0, .val r1, .val r2, .unset, .unset, .unset, .unset, .unset, .unset, .unset, .unset] []))
    refine o_iload hst X_3.here hx (hb hby at_80) (pc' := 82) rfl rfl ?_
    refine o_iconst hst X_3.here hx (hb hby at_82) (pc' := 83) rfl (z := (1 : Int32)) rfl ?_
    have hw1 : ¬ ((3 : Int32) = (1 : Int32)) := by decide
    refine hst (fun _ kt => XS.icmpYes X_3.here hx rfl (pc0 := 83) (pc' := 100) rfl (hb hby at_83) rfl (feq hw1).2 (by decide) (by decide) kt) ?_
    show G (T_3.setTop (mkF mI 100 #[.val (.int bits), .val (.int qq), .val (.int y0), .val (.int y1), .val (.int y2), .val (.int (3 : Int32)), .val (.int (own_ch qq)), .val (.int kd0), .val (.int kd1), .val (.int kd2), .val r0, .val r1, .val r2, .unset, .unset, .unset, .unset, .unset, .unset, .unset, .unset] []))
    refine o_iload hst X_3.here hx (hb hby at_100) (pc' := 102) rfl rfl ?_
    refine o_iconst hst X_3.here hx (hb hby at_102) (pc' := 103) rfl (z := (2 : Int32)) rfl ?_
    have hw2 : ¬ ((3 : Int32) = (2 : Int32)) := by decide
    refine hst (fun _ kt => XS.icmpYes X_3.here hx rfl (pc0 := 103) (pc' := 125) rfl (hb hby at_103) rfl (feq hw2).2 (by decide) (by decide) kt) ?_
    show G (T_3.setTop (mkF mI 125 #[.val (.int bits), .val (.int qq), .val (.int y0), .val (.int y1), .val (.int y2), .val (.int (3 : Int32)), .val (.int (own_ch qq)), .val (.int kd0), .val (.int kd1), .val (.int kd2), .val r0, .val r1, .val r2, .unset, .unset, .unset, .unset, .unset, .unset, .unset, .unset] []))
    refine o_iconst hst X_3.here hx (hb hby at_125) (pc' := 126) rfl (z := (3 : Int32)) rfl ?_
    obtain ⟨T_28, h_28, k_ir, X_28, e_28, E_28, A_28, O_ir, st_28⟩ := newR X_3 hx hZ hown (own_w4 hw) (own_w5 hw) rfl (g := (mkF mI 126 #[.val (.int bits), .val (.int qq), .val (.int y0), .val (.int y1), .val (.int y2), .val (.int (3 : Int32)), .val (.int (own_ch qq)), .val (.int kd0), .val (.int kd1), .val (.int kd2), .val r0, .val r1, .val r2, .unset, .unset, .unset, .unset, .unset, .unset, .unset, .unset] [(.int (3 : Int32))])) rfl (hb hby at_126) rfl (by decide) (cap := 3) (by decide) (by decide) (by decide) (by decide)
    obtain ⟨ir, g_ir⟩ : ∃ z, z = T_3.heap.size := ⟨_, rfl⟩
    rw [← g_ir] at A_28 st_28
    have le_n0_ir : n0 ≤ ir := Nat.le_trans Z0 (Nat.le_of_eq g_ir.symm)
    have le_B_ir : B0 ≤ ir := Nat.le_trans ZB (Nat.le_of_eq g_ir.symm)
    have Z0 := Nat.le_trans Z0 E_28.1
    have S_c := S_c.ext E_28
    have ZB := Nat.le_trans ZB E_28.1
    have C_s0 := own_St_keep C_s0 ((Keep.refl _ []).ext E_28) all0
    have C_s1 := own_St_keep C_s1 ((Keep.refl _ []).ext E_28) all0
    have C_s2 := own_St_keep C_s2 ((Keep.refl _ []).ext E_28) all0
    have V_ir : Arv Z h_28 ir k_ir (.object "java/lang/String") (3 : Int32) [.null, .null, .null] .null := (Arv.new A_28 (by decide)).pad (pad_rep [] .null 3)
    refine hst st_28 ?_
    show G (T_28.setTop (mkF mI 129 #[.val (.int bits), .val (.int qq), .val (.int y0), .val (.int y1), .val (.int y2), .val (.int (3 : Int32)), .val (.int (own_ch qq)), .val (.int kd0), .val (.int kd1), .val (.int kd2), .val r0, .val r1, .val r2, .unset, .unset, .unset, .unset, .unset, .unset, .unset, .unset] [(.ref ir)]))
    refine o_dup hst X_28.here hx (hb hby at_129) (pc' := 130) rfl rfl ?_
    refine o_iconst hst X_28.here hx (hb hby at_130) (pc' := 131) rfl (z := (0 : Int32)) rfl ?_
    refine o_aload hst X_28.here hx (hb hby at_131) (pc' := 133) rfl rfl hr0 ?_
    obtain ⟨cl_29, Ar_29, q_29, S_29, M_29, Hs_29, Gs_29⟩ := V_ir
    have hin_29 : ¬ ((0 : Int32) < 0 ∨ cl_29.slots.size ≤ ((0 : Int32)).toNatClampNeg) := inb_of S_29 ⟨by decide, by decide⟩
    obtain ⟨T_29, h_29, X_29, e_29, W_29, st_29⟩ := stR X_28 hx hZ e_28 Ar_29 (j := (0 : Int32)) (v := r0) hin_29 rfl (own_St_sto C_s0 Ar_29 q_29 O_ir) (g := (mkF mI 133 #[.val (.int bits), .val (.int qq), .val (.int y0), .val (.int y1), .val (.int y2), .val (.int (3 : Int32)), .val (.int (own_ch qq)), .val (.int kd0), .val (.int kd1), .val (.int kd2), .val r0, .val r1, .val r2, .unset, .unset, .unset, .unset, .unset, .unset, .unset, .unset] [r0, (.int (0 : Int32)), (.ref ir), (.ref ir)])) rfl rfl (hb hby at_133)
    have V_ir := Arv.set Ar_29 q_29 S_29 M_29 Hs_29 Gs_29 (own_St_fit C_s0) W_29 0 rfl (Nat.le_of_ble_eq_true rfl)
    have V_ir : Arv Z h_29 ir k_ir (.object "java/lang/String") (3 : Int32) [r0, .null, .null] .null := V_ir
    have Z0 := Nat.le_trans Z0 (Keep.of_wr W_29).1
    have S_c := S_c.wr W_29
    have ZB := Nat.le_trans ZB (Keep.of_wr W_29).1
    have C_s0 := own_St_keep C_s0 (Keep.of_wr W_29) (allS le_B_ir all0)
    have C_s1 := own_St_keep C_s1 (Keep.of_wr W_29) (allS le_B_ir all0)
    have C_s2 := own_St_keep C_s2 (Keep.of_wr W_29) (allS le_B_ir all0)
    have N_29 := Fr.snoc X_29 N_3 le_n0_ir
    refine hst st_29 ?_
    show G (T_29.setTop (mkF mI 134 #[.val (.int bits), .val (.int qq), .val (.int y0), .val (.int y1), .val (.int y2), .val (.int (3 : Int32)), .val (.int (own_ch qq)), .val (.int kd0), .val (.int kd1), .val (.int kd2), .val r0, .val r1, .val r2, .unset, .unset, .unset, .unset, .unset, .unset, .unset, .unset] [(.ref ir)]))
    refine o_dup hst X_29.here hx (hb hby at_134) (pc' := 135) rfl rfl ?_
    refine o_iconst hst X_29.here hx (hb hby at_135) (pc' := 136) rfl (z := (1 : Int32)) rfl ?_
    refine o_aload hst X_29.here hx (hb hby at_136) (pc' := 138) rfl rfl hr1 ?_
    obtain ⟨cl_30, Ar_30, q_30, S_30, M_30, Hs_30, Gs_30⟩ := V_ir
    have hin_30 : ¬ ((1 : Int32) < 0 ∨ cl_30.slots.size ≤ ((1 : Int32)).toNatClampNeg) := inb_of S_30 ⟨by decide, by decide⟩
    obtain ⟨T_30, h_30, X_30, e_30, W_30, st_30⟩ := stR X_29 hx hZ e_29 Ar_30 (j := (1 : Int32)) (v := r1) hin_30 rfl (own_St_sto C_s1 Ar_30 q_30 O_ir) (g := (mkF mI 138 #[.val (.int bits), .val (.int qq), .val (.int y0), .val (.int y1), .val (.int y2), .val (.int (3 : Int32)), .val (.int (own_ch qq)), .val (.int kd0), .val (.int kd1), .val (.int kd2), .val r0, .val r1, .val r2, .unset, .unset, .unset, .unset, .unset, .unset, .unset, .unset] [r1, (.int (1 : Int32)), (.ref ir), (.ref ir)])) rfl rfl (hb hby at_138)
    have V_ir := Arv.set Ar_30 q_30 S_30 M_30 Hs_30 Gs_30 (own_St_fit C_s1) W_30 1 rfl (Nat.le_of_ble_eq_true rfl)
    have V_ir : Arv Z h_30 ir k_ir (.object "java/lang/String") (3 : Int32) [r0, r1, .null] .null := V_ir
    have Z0 := Nat.le_trans Z0 (Keep.of_wr W_30).1
    have S_c := S_c.wr W_30
    have ZB := Nat.le_trans ZB (Keep.of_wr W_30).1
    have C_s0 := own_St_keep C_s0 (Keep.of_wr W_30) (allS le_B_ir all0)
    have C_s1 := own_St_keep C_s1 (Keep.of_wr W_30) (allS le_B_ir all0)
    have C_s2 := own_St_keep C_s2 (Keep.of_wr W_30) (allS le_B_ir all0)
    have N_30 := Fr.snoc X_30 N_29 le_n0_ir
    refine hst st_30 ?_
    show G (T_30.setTop (mkF mI 139 #[.val (.int bits), .val (.int qq), .val (.int y0), .val (.int y1), .val (.int y2), .val (.int (3 : Int32)), .val (.int (own_ch qq)), .val (.int kd0), .val (.int kd1), .val (.int kd2), .val r0, .val r1, .val r2, .unset, .unset, .unset, .unset, .unset, .unset, .unset, .unset] [(.ref ir)]))
    refine o_dup hst X_30.here hx (hb hby at_139) (pc' := 140) rfl rfl ?_
    refine o_iconst hst X_30.here hx (hb hby at_140) (pc' := 141) rfl (z := (2 : Int32)) rfl ?_
    refine o_aload hst X_30.here hx (hb hby at_141) (pc' := 143) rfl rfl hr2 ?_
    obtain ⟨cl_31, Ar_31, q_31, S_31, M_31, Hs_31, Gs_31⟩ := V_ir
    have hin_31 : ¬ ((2 : Int32) < 0 ∨ cl_31.slots.size ≤ ((2 : Int32)).toNatClampNeg) := inb_of S_31 ⟨by decide, by decide⟩
    obtain ⟨T_31, h_31, X_31, e_31, W_31, st_31⟩ := stR X_30 hx hZ e_30 Ar_31 (j := (2 : Int32)) (v := r2) hin_31 rfl (own_St_sto C_s2 Ar_31 q_31 O_ir) (g := (mkF mI 143 #[.val (.int bits), .val (.int qq), .val (.int y0), .val (.int y1), .val (.int y2), .val (.int (3 : Int32)), .val (.int (own_ch qq)), .val (.int kd0), .val (.int kd1), .val (.int kd2), .val r0, .val r1, .val r2, .unset, .unset, .unset, .unset, .unset, .unset, .unset, .unset] [r2, (.int (2 : Int32)), (.ref ir), (.ref ir)])) rfl rfl (hb hby at_143)
    have V_ir := Arv.set Ar_31 q_31 S_31 M_31 Hs_31 Gs_31 (own_St_fit C_s2) W_31 2 rfl (Nat.le_of_ble_eq_true rfl)
    have V_ir : Arv Z h_31 ir k_ir (.object "java/lang/String") (3 : Int32) [r0, r1, r2] .null := V_ir
    have Z0 := Nat.le_trans Z0 (Keep.of_wr W_31).1
    have S_c := S_c.wr W_31
    have ZB := Nat.le_trans ZB (Keep.of_wr W_31).1
    have C_s0 := own_St_keep C_s0 (Keep.of_wr W_31) (allS le_B_ir all0)
    have C_s1 := own_St_keep C_s1 (Keep.of_wr W_31) (allS le_B_ir all0)
    have C_s2 := own_St_keep C_s2 (Keep.of_wr W_31) (allS le_B_ir all0)
    have N_31 := Fr.snoc X_31 N_30 le_n0_ir
    refine hst st_31 ?_
    show G (T_31.setTop (mkF mI 144 #[.val (.int bits), .val (.int qq), .val (.int y0), .val (.int y1), .val (.int y2), .val (.int (3 : Int32)), .val (.int (own_ch qq)), .val (.int kd0), .val (.int kd1), .val (.int kd2), .val r0, .val r1, .val r2, .unset, .unset, .unset, .unset, .unset, .unset, .unset, .unset] [(.ref ir)]))
    refine o_astore hst X_31.here hx (hb hby at_144) (pc' := 146) rfl (Lt := #[.val (.int bits), .val (.int qq), .val (.int y0), .val (.int y1), .val (.int y2), .val (.int (3 : Int32)), .val (.int (own_ch qq)), .val (.int kd0), .val (.int kd1), .val (.int kd2), .val r0, .val r1, .val r2, .val (.ref ir), .unset, .unset, .unset, .unset, .unset, .unset, .unset]) rfl rfl ?_
    exact J146 ir k_ir h_31 T_31 _ (X_31.more (by decide) (by decide)) e_31 N_31 Z0 S_c ZB C_s0 C_s1 C_s2 V_ir le_B_ir
set_option maxRecDepth 65536 in
set_option maxHeartbeats 40000000 in
theorem comes_1 {Post : Tables → Env → Array Value → State → Outcome → State → Prop} (hpost : ∀ tb e args s v u, (limb_1_1.after args s (.returned v) u = true ∧ limb_1_2.after args s (.returned v) u = true ∧ True) → FrameEnd s (.returned v) u (Jvm.fieldLocs frame_1_writes args s ++ Jvm.arrayLocs frame_1_arrays args s ++ Jvm.staticLocs frame_1_statics s) 96 12544 → Post tb e args s (.returned v) u) :
    ArmFor flags0 classFile x code maxLocals ret World_1 tables_1 room_1 Calls_1 rest_1 Pre_1 Post := by
  intro l hfl _ _ p e ha hc hk s m args below hf hA hF happ hP
  obtain ⟨hcalls, hrest, hpre⟩ := hP
  obtain ⟨-, -, -, hnamed, -, -, -, hat⟩ := (Spec.applies_iff hf).mp happ
  obtain ⟨hg, hn⟩ := and_e (Cond.before_iff.mp (show (Jvm.Cond.and given_1 narrow_1).before args s = true from hpre))
  obtain ⟨gc, g0⟩ := and_e hg
  obtain ⟨ga0, g1⟩ := and_e g0
  obtain ⟨ga1, g2⟩ := and_e g1
  obtain ⟨ga2, g3⟩ := and_e g2
  obtain ⟨ga3, g4⟩ := and_e g3
  obtain ⟨w0, w1, w2, w3, w4, rfl⟩ : ∃ w0 w1 w2 w3 w4 : Value, args = #[w0, w1, w2, w3, w4] := by
    have hs : args.size = 5 := by simpa [Cond.value, given_1] using gc
    obtain ⟨L⟩ := args
    match L, hs with
    | [w0, w1, w2, w3, w4], _ => exact ⟨w0, w1, w2, w3, w4, rfl⟩
  have hw := fun d (hd : d ∈ tables_1) => atoms_spec (ws := Jvm.Cond.code x code maxLocals ret :: tables_1) hat d (List.mem_cons_of_mem _ hd)
  have hfit : Fit s := fun {y c} hc i hi => by
    obtain ⟨ha, rfl⟩ := Array.getElem?_eq_some_iff.mp hc
    have q := List.all_eq_true.mp ((Array.all_eq_true_iff_forall_mem.mp hF) _ (Array.getElem_mem ha)) i (List.mem_range.mpr hi)
    simpa [Array.getElem?_eq_getElem hi] using q
  obtain ⟨hsets, hown0⟩ := atoms_of _ (rest_1_c_eq ▸ (show rest_1_c.before _ s = true from hrest))
  have hr0 := Cond.before_iff.mp hown0
  obtain ⟨i0, ei0⟩ := is_v ga0
  obtain rfl : w0 = (.int i0) := Option.some.inj ei0
  obtain ⟨i1, ei1⟩ := is_v ga1
  obtain rfl : w1 = (.int i1) := Option.some.inj ei1
  obtain ⟨i2, ei2⟩ := is_v ga2
  obtain rfl : w2 = (.int i2) := Option.some.inj ei2
  obtain ⟨i3, ei3⟩ := is_v ga3
  obtain rfl : w3 = (.int i3) := Option.some.inj ei3
  obtain ⟨i4, ei4⟩ := is_v g4
  obtain rfl : w4 = (.int i4) := Option.some.inj ei4
  have hs1 := Cond.before_iff.mp (hsets _ (List.mem_of_getElem? (i := 1) rfl))
  have hs2 := Cond.before_iff.mp (hsets _ (List.mem_of_getElem? (i := 2) rfl))
  obtain ⟨cz, evc⟩ := is_v hs1
  have hcz : ¬ cz = 0 := fun q => by
    subst q
    have := not_v hs2
    simp [Cond.value, evc, Term.int_eval] at this
  have S_c := Sta.start evc (Or.inl (hsets _ (List.mem_of_getElem? (i := 0) rfl)))
  obtain ⟨n, o, h1, h2, h3, _, L, rfl, ⟨rfl, N⟩, hq⟩ := rm0 l s _ hw tables_1 i0 i1 i2 i3 i4 cz s.heap s.heap.size (Nat.le_refl _) S_c hcz p e ha hc hk s m _ below hf ((Spec.applies_iff_loose hf).mp happ).1 ⟨rfl, State.Warmed39.refl s, rfl⟩ trivial
  refine ⟨n, _, h1, h2, h3, hpost _ _ _ _ _ _ ⟨Cond.after_iff.mpr rfl, Cond.after_iff.mpr (eq_i res_at (Term.int_eval (1)) rfl), trivial⟩ ⟨hq.1, hq.2.1, (hq.2.2.sift fun y hy => Or.inr (N y hy)).mono (by decide) (by decide)⟩⟩
theorem main_1_1 : Claimed_1_1 := comes_1 fun _ _ _ _ _ _ h hF => ⟨h.1, hF⟩
theorem main_1_2 : Claimed_1_2 := comes_1 fun _ _ _ _ _ _ h hF => ⟨h.2.1, hF⟩
end Jvm.Pilot.@@N@@
namespace Jvm.Pilot.@@N@@
open Jvm Jvm.ClassFile Sem Op Lib Jvm.Free Jvm.Stand Jvm.Pilot.@@N@@.Jvm.D
/-! MADE BY PROGRAM (witnessworld.py) out of the Statement's table words and the real class files: 49 classes; the members and pool entries that the words name. The judged class is class 1, her method 1. -/
namespace start1
open Jvm.ClassFile
def u (s : String) : CpInfo := .utf8 (stringToUtf16 s)
/-- a pool by its gaps: so many unusable entries, then the entry; so many at the end -/
def gap : Nat → List CpInfo → List CpInfo
  | 0, r => r
  | n + 1, r => .unusable :: gap n r
def poolList (es : List (Nat × CpInfo)) (last : Nat) : List CpInfo := es.foldr (fun e r => gap e.1 (e.2 :: r)) (gap last [])
def pool (es : List (Nat × CpInfo)) (last : Nat) : Array CpInfo := ⟨poolList es last⟩
def fileOf (pool : Array CpInfo) (this : Nat) (attrs : Array Attribute := #[]) (ms : Array MethodInfo := #[]) (fl : Nat := 33) (sup : Nat := 0) (ifs : Array Nat := #[]) (fds : Array FieldInfo := #[]) : ClassFile where
  minorVersion := 0
  majorVersion := 65
  constantPool := pool
  accessFlags := fl
  thisClass := this
  superClass := sup
  interfaces := ifs
  fields := fds
  methods := ms
  attributes := attrs
def plain (name : String) (sup : Option ClassId) : Class where
  name := name
  kind := .ordinary
  loader := none
  accessFlags := 33
  super := sup
  interfaces := #[]
  cf := none
  fields := #[]
  methods := #[]
  instanceTypes := #[]
  staticTypes := #[]
  resolved := #[]
  callSites := []
  init := .initialized
  statics := none
  mirror := none

def pool0 : Array CpInfo := pool [(5, u "<init>"), (0, u "()V"), (1, .class_ 10), (1, u "java/lang/Object")] 113

def k0c0 : Code := { maxStack := 0, maxLocals := 1, code := object_method_1_code, exceptionTable := #[], attributes := #[] }
def k0m0 : Method := { name := "<init>", desc := "()V", sig := { parameters := [], returnType := none }, accessFlags := 1, code := some k0c0 }
/-- java/lang/Object -/
def k0 : Class := { plain "java/lang/Object" none with
  accessFlags := 33
  interfaces := #[]
  cf := some (fileOf pool0 8 #[] #[{ accessFlags := 1, nameIndex := 5, descriptorIndex := 6, attributes := #[] }] 33 0 #[] #[])
  fields := #[]
  methods := #[k0m0]
  instanceTypes := #[]
  staticTypes := #[]
  resolved := Array.replicate 124 none
  statics := none }

def pool1 : Array CpInfo := pool [(2, .class_ 4), (0, .nameAndType 5 6), (0, u "java/lang/Object"), (0, u "<init>"), (0, u "()V"), (0, .methodref 8 9), (0, .class_ 10), (0, .nameAndType 11 12), (0, u "com/example/weser/weser/core/RdfGraphNodePinLaw"), (0, u "entry"), (0, u "(ICI)Ljava/lang/String;"), (0, .class_ 14), (0, u "java/lang/String"), (0, .methodref 13 16), (0, .nameAndType 17 18), (0, u "valueOf"), (0, u "(C)Ljava/lang/String;"), (0, .class_ 20), (0, u "com/example/weser/weser/core/TripleTable"), (0, .methodref 19 3), (0, .class_ 23), (0, u "com/example/weser/weser/core/RdfGraph"), (0, .class_ 25), (0, u "com/example/weser/weser/core/Prefixes"), (0, .methodref 24 3), (0, .methodref 22 28), (0, .nameAndType 5 29), (0, u "([Ljava/lang/String;[Ljava/lang/String;[Ljava/lang/String;Lcom/example/weser/weser/core/TripleTable;Lcom/example/weser/weser/core/TripleTable;[Ljava/lang/String;Lcom/example/weser/weser/core/Prefixes;)V"), (0, .methodref 8 31), (0, .nameAndType 32 33), (0, u "matches"), (0, u "(ICI)Z"), (0, .methodref 22 35), (0, .nameAndType 36 37), (0, u "node"), (0, u "(Ljava/lang/String;)I"), (0, .methodref 13 39), (0, .nameAndType 5 40), (0, u "([C)V"), (2, u "law"), (0, u "(IIIII)Z")] 5

def k1m0 : Method := { name := "<init>", desc := "()V", sig := { parameters := [], returnType := none }, accessFlags := 1, code := none }
def k1c1 : Code := { maxStack := 10, maxLocals := 21, code := code, exceptionTable := #[], attributes := #[] }
def k1m1 : Method := { name := "law", desc := "(IIIII)Z", sig := { parameters := [.int, .int, .int, .int, .int], returnType := some .boolean }, accessFlags := 9, code := some k1c1 }
def k1c2 : Code := { maxStack := 6, maxLocals := 3, code := method_3_code, exceptionTable := #[], attributes := #[] }
def k1m2 : Method := { name := "entry", desc := "(ICI)Ljava/lang/String;", sig := { parameters := [.int, .char, .int], returnType := some (.object "java/lang/String") }, accessFlags := 10, code := some k1c2 }
def k1c3 : Code := { maxStack := 2, maxLocals := 3, code := method_4_code, exceptionTable := #[], attributes := #[] }
def k1m3 : Method := { name := "matches", desc := "(ICI)Z", sig := { parameters := [.int, .char, .int], returnType := some .boolean }, accessFlags := 10, code := some k1c3 }
/-- com/example/weser/weser/core/RdfGraphNodePinLaw -/
def k1 : Class := { plain "com/example/weser/weser/core/RdfGraphNodePinLaw" (some 0) with
  accessFlags := 49
  interfaces := #[]
  cf := some (fileOf pool1 8 #[] #[{ accessFlags := 1, nameIndex := 5, descriptorIndex := 6, attributes := #[] }, { accessFlags := 9, nameIndex := 43, descriptorIndex := 44, attributes := #[] }, { accessFlags := 10, nameIndex := 11, descriptorIndex := 12, attributes := #[] }, { accessFlags := 10, nameIndex := 32, descriptorIndex := 33, attributes := #[] }] 49 2 #[] #[])
  fields := #[]
  methods := #[k1m0, k1m1, k1m2, k1m3]
  instanceTypes := #[]
  staticTypes := #[]
  resolved := Array.replicate 50 none
  statics := none }

def pool2 : Array CpInfo := pool [(1, .class_ 2), (0, u "java/io/Serializable"), (0, .class_ 4), (0, u "java/lang/Object")] 2

/-- java/io/Serializable -/
def k2 : Class := { plain "java/io/Serializable" (some 0) with
  accessFlags := 1537
  interfaces := #[]
  cf := some (fileOf pool2 1 #[] #[] 1537 3 #[] #[])
  fields := #[]
  methods := #[]
  instanceTypes := #[]
  staticTypes := #[]
  resolved := Array.replicate 7 none
  statics := none }

def pool3 : Array CpInfo := pool [(1, .class_ 2), (0, u "java/lang/Comparable"), (0, .class_ 4), (0, u "java/lang/Object")] 7

/-- java/lang/Comparable -/
def k3 : Class := { plain "java/lang/Comparable" (some 0) with
  accessFlags := 1537
  interfaces := #[]
  cf := some (fileOf pool3 1 #[] #[] 1537 3 #[] #[])
  fields := #[]
  methods := #[]
  instanceTypes := #[]
  staticTypes := #[]
  resolved := Array.replicate 12 none
  statics := none }

def pool4 : Array CpInfo := pool [(2, .class_ 4), (1, u "java/lang/CharSequence"), (42, .class_ 48), (0, u "java/lang/CharSequence$1CodePointIterator"), (10, .class_ 60), (0, u "java/lang/CharSequence$1CharIterator"), (5, .class_ 67), (0, u "java/lang/Object")] 63

/-- java/lang/CharSequence -/
def k4 : Class := { plain "java/lang/CharSequence" (some 0) with
  accessFlags := 1537
  interfaces := #[]
  cf := some (fileOf pool4 2 #[.nestMembers #[47, 59]] #[] 1537 66 #[] #[])
  fields := #[]
  methods := #[]
  instanceTypes := #[]
  staticTypes := #[]
  resolved := Array.replicate 131 none
  statics := none }

def pool5 : Array CpInfo := pool [(1, .class_ 2), (0, u "java/lang/constant/Constable"), (0, .class_ 4), (0, u "java/lang/Object")] 6

/-- java/lang/constant/Constable -/
def k5 : Class := { plain "java/lang/constant/Constable" (some 0) with
  accessFlags := 1537
  interfaces := #[]
  cf := some (fileOf pool5 1 #[] #[] 1537 3 #[] #[])
  fields := #[]
  methods := #[]
  instanceTypes := #[]
  staticTypes := #[]
  resolved := Array.replicate 11 none
  statics := none }

def pool6 : Array CpInfo := pool [(1, .class_ 2), (0, u "java/lang/constant/ConstantDesc"), (0, .class_ 4), (0, u "java/lang/Object")] 32

/-- java/lang/constant/ConstantDesc -/
def k6 : Class := { plain "java/lang/constant/ConstantDesc" (some 0) with
  accessFlags := 1537
  interfaces := #[]
  cf := some (fileOf pool6 1 #[] #[] 1537 3 #[] #[])
  fields := #[]
  methods := #[]
  instanceTypes := #[]
  staticTypes := #[]
  resolved := Array.replicate 37 none
  statics := none }

def pool7 : Array CpInfo := pool [(1, .methodref 2 3), (0, .class_ 4), (0, .nameAndType 5 6), (0, u "java/lang/Object"), (0, u "<init>"), (0, u "()V"), (2, .fieldref 10 11), (0, .class_ 12), (0, .nameAndType 13 14), (0, u "java/lang/String"), (0, u "value"), (0, u "[B"), (0, .fieldref 10 16), (0, .nameAndType 17 18), (0, u "coder"), (0, u "B"), (2, u "hash"), (0, u "I"), (2, u "hashIsZero"), (0, u "Z"), (0, .methodref 10 28), (0, .nameAndType 5 29), (0, u "([CIILjava/lang/Void;)V"), (8, .fieldref 10 39), (0, .nameAndType 40 26), (0, u "COMPACT_STRINGS"), (1, .class_ 44), (1, u "java/lang/StringUTF16"), (0, u "compress"), (1, .methodref 42 48), (0, .nameAndType 49 50), (0, u "coderFromArrayLen"), (0, u "([BI)B"), (2, u "toBytes"), (53, .class_ 109), (1, u "java/lang/StringLatin1"), (67, .methodref 42 178), (0, .nameAndType 45 179), (0, u "([CII)[B"), (29, .methodref 10 210), (0, .nameAndType 5 211), (0, u "([BB)V"), (157, u "(C)Z"), (171, .methodref 107 542), (0, .nameAndType 543 544), (0, u "equals"), (0, u "([B[B)Z"), (28, u "(Ljava/lang/Object;)Z"), (1, .class_ 576), (0, u "java/lang/CharSequence"), (22, u "CASE_INSENSITIVE_ORDER"), (0, u "Ljava/util/Comparator;"), (181, u "valueOf"), (0, u "(C)Ljava/lang/String;"), (226, u "([C)V"), (4, .methodref 107 1016), (0, .nameAndType 1017 369), (0, u "canEncode"), (0, .methodref 107 1019), (0, .nameAndType 53 1020), (0, u "(C)[B"), (80, u "serialPersistentFields"), (0, u "[Ljava/io/ObjectStreamField;"), (0, .class_ 1104), (0, u "java/lang/String$CaseInsensitiveComparator"), (1, .class_ 1107), (0, u "java/io/Serializable"), (0, .class_ 1109), (0, u "java/lang/Comparable"), (0, .class_ 1111), (0, u "java/lang/constant/Constable"), (0, .class_ 1113), (0, u "java/lang/constant/ConstantDesc"), (2, u "serialVersionUID"), (0, u "J"), (3, u "REPL"), (0, u "C"), (2, u "LATIN1"), (1, u "UTF16")] 323

def k7m0 : Method := { name := "<init>", desc := "()V", sig := { parameters := [], returnType := none }, accessFlags := 1, code := none }
def k7c1 : Code := { maxStack := 5, maxLocals := 2, code := jdk_42_method_3_code, exceptionTable := #[], attributes := #[] }
def k7m1 : Method := { name := "<init>", desc := "([C)V", sig := { parameters := [(.array .char)], returnType := none }, accessFlags := 1, code := some k7c1 }
def k7c2 : Code := { maxStack := 2, maxLocals := 3, code := jdk_42_method_66_code, exceptionTable := #[], attributes := #[] }
def k7m2 : Method := { name := "equals", desc := "(Ljava/lang/Object;)Z", sig := { parameters := [(.object "java/lang/Object")], returnType := some .boolean }, accessFlags := 1, code := some k7c2 }
def k7c3 : Code := { maxStack := 4, maxLocals := 1, code := jdk_42_method_139_code, exceptionTable := #[], attributes := #[] }
def k7m3 : Method := { name := "valueOf", desc := "(C)Ljava/lang/String;", sig := { parameters := [.char], returnType := some (.object "java/lang/String") }, accessFlags := 9, code := some k7c3 }
def k7c4 : Code := { maxStack := 4, maxLocals := 6, code := jdk_42_method_149_code, exceptionTable := #[], attributes := #[] }
def k7m4 : Method := { name := "<init>", desc := "([CIILjava/lang/Void;)V", sig := { parameters := [(.array .char), .int, .int, (.object "java/lang/Void")], returnType := none }, accessFlags := 2, code := some k7c4 }
def k7c5 : Code := { maxStack := 2, maxLocals := 3, code := jdk_42_method_151_code, exceptionTable := #[], attributes := #[] }
def k7m5 : Method := { name := "<init>", desc := "([BB)V", sig := { parameters := [(.array .byte), .byte], returnType := none }, accessFlags := 0, code := some k7c5 }
/-- java/lang/String -/
def k7 : Class := { plain "java/lang/String" (some 0) with
  accessFlags := 49
  interfaces := #[2, 3, 4, 5, 6]
  cf := some (fileOf pool7 10 #[.nestMembers #[1103]] #[{ accessFlags := 1, nameIndex := 5, descriptorIndex := 6, attributes := #[] }, { accessFlags := 1, nameIndex := 5, descriptorIndex := 1010, attributes := #[] }, { accessFlags := 1, nameIndex := 543, descriptorIndex := 573, attributes := #[] }, { accessFlags := 9, nameIndex := 782, descriptorIndex := 783, attributes := #[] }, { accessFlags := 2, nameIndex := 5, descriptorIndex := 29, attributes := #[] }, { accessFlags := 0, nameIndex := 5, descriptorIndex := 211, attributes := #[] }] 49 2 #[1106, 1108, 575, 1110, 1112] #[{ accessFlags := 18, nameIndex := 13, descriptorIndex := 14, attributes := #[] }, { accessFlags := 18, nameIndex := 17, descriptorIndex := 18, attributes := #[] }, { accessFlags := 2, nameIndex := 21, descriptorIndex := 22, attributes := #[] }, { accessFlags := 2, nameIndex := 25, descriptorIndex := 26, attributes := #[] }, { accessFlags := 26, nameIndex := 1116, descriptorIndex := 1117, attributes := #[] }, { accessFlags := 24, nameIndex := 40, descriptorIndex := 26, attributes := #[] }, { accessFlags := 26, nameIndex := 1101, descriptorIndex := 1102, attributes := #[] }, { accessFlags := 26, nameIndex := 1121, descriptorIndex := 1122, attributes := #[] }, { accessFlags := 25, nameIndex := 599, descriptorIndex := 600, attributes := #[] }, { accessFlags := 24, nameIndex := 1125, descriptorIndex := 18, attributes := #[] }, { accessFlags := 24, nameIndex := 1127, descriptorIndex := 18, attributes := #[] }])
  fields := #[{ name := "value", type := (.array .byte), accessFlags := 18, slot := 0, constantValue := 0 }, { name := "coder", type := .byte, accessFlags := 18, slot := 1, constantValue := 0 }, { name := "hash", type := .int, accessFlags := 2, slot := 2, constantValue := 0 }, { name := "hashIsZero", type := .boolean, accessFlags := 2, slot := 3, constantValue := 0 }, { name := "serialVersionUID", type := .long, accessFlags := 26, slot := 0, constantValue := 0 }, { name := "COMPACT_STRINGS", type := .boolean, accessFlags := 24, slot := 1, constantValue := 0 }, { name := "serialPersistentFields", type := (.array (.object "java/io/ObjectStreamField")), accessFlags := 26, slot := 2, constantValue := 0 }, { name := "REPL", type := .char, accessFlags := 26, slot := 3, constantValue := 0 }, { name := "CASE_INSENSITIVE_ORDER", type := (.object "java/util/Comparator"), accessFlags := 25, slot := 4, constantValue := 0 }, { name := "LATIN1", type := .byte, accessFlags := 24, slot := 5, constantValue := 0 }, { name := "UTF16", type := .byte, accessFlags := 24, slot := 6, constantValue := 0 }]
  methods := #[k7m0, k7m1, k7m2, k7m3, k7m4, k7m5]
  instanceTypes := #[(.array .byte), .byte, .int, .boolean]
  staticTypes := #[.long, .boolean, (.array (.object "java/io/ObjectStreamField")), .char, (.object "java/util/Comparator"), .byte, .byte]
  resolved := Array.replicate 1451 none
  statics := some 0 }

def pool8 : Array CpInfo := pool [(4, .class_ 6), (1, u "java/lang/Object"), (0, u "<init>"), (0, u "()V"), (5, .class_ 16), (1, u "java/lang/StringLatin1"), (73, u "canEncode"), (14, u "(C)Z"), (15, u "$assertionsDisabled"), (0, u "Z"), (98, .class_ 223), (1, u "java/lang/StringLatin1$LinesSpliterator"), (57, u "equals"), (0, u "([B[B)Z"), (97, u "toBytes"), (1, u "(C)[B"), (7, .class_ 391), (0, u "java/lang/StringLatin1$CharsSpliterator")] 3

def k8m0 : Method := { name := "<init>", desc := "()V", sig := { parameters := [], returnType := none }, accessFlags := 0, code := none }
def k8c1 : Code := { maxStack := 2, maxLocals := 1, code := jdk_43_method_3_code, exceptionTable := #[], attributes := #[] }
def k8m1 : Method := { name := "canEncode", desc := "(C)Z", sig := { parameters := [.char], returnType := some .boolean }, accessFlags := 9, code := some k8c1 }
def k8c2 : Code := { maxStack := 3, maxLocals := 3, code := jdk_43_method_13_code, exceptionTable := #[], attributes := #[] }
def k8m2 : Method := { name := "equals", desc := "([B[B)Z", sig := { parameters := [(.array .byte), (.array .byte)], returnType := some .boolean }, accessFlags := 9, code := some k8c2 }
def k8c3 : Code := { maxStack := 4, maxLocals := 1, code := jdk_43_method_46_code, exceptionTable := #[], attributes := #[] }
def k8m3 : Method := { name := "toBytes", desc := "(C)[B", sig := { parameters := [.char], returnType := some (.array .byte) }, accessFlags := 9, code := some k8c3 }
/-- java/lang/StringLatin1 -/
def k8 : Class := { plain "java/lang/StringLatin1" (some 0) with
  accessFlags := 48
  interfaces := #[]
  cf := some (fileOf pool8 14 #[.nestMembers #[390, 221]] #[{ accessFlags := 0, nameIndex := 7, descriptorIndex := 8, attributes := #[] }, { accessFlags := 9, nameIndex := 90, descriptorIndex := 105, attributes := #[] }, { accessFlags := 9, nameIndex := 281, descriptorIndex := 282, attributes := #[] }, { accessFlags := 9, nameIndex := 380, descriptorIndex := 382, attributes := #[] }] 48 4 #[] #[{ accessFlags := 4120, nameIndex := 121, descriptorIndex := 122, attributes := #[] }])
  fields := #[{ name := "$assertionsDisabled", type := .boolean, accessFlags := 4120, slot := 0, constantValue := 0 }]
  methods := #[k8m0, k8m1, k8m2, k8m3]
  instanceTypes := #[]
  staticTypes := #[.boolean]
  resolved := Array.replicate 395 none
  statics := none }

def pool9 : Array CpInfo := pool [(1, .methodref 2 3), (0, .class_ 4), (0, .nameAndType 5 6), (0, u "java/lang/Object"), (0, u "<init>"), (0, u "()V"), (0, .class_ 8), (0, u "com/example/weser/weser/core/TripleTable"), (0, .fieldref 7 10), (0, .nameAndType 11 12), (0, u "subjects"), (0, u "[I"), (0, .fieldref 7 14), (0, .nameAndType 15 12), (0, u "predicates"), (0, .fieldref 7 17), (0, .nameAndType 18 12), (0, u "objects"), (0, .fieldref 7 20), (0, .nameAndType 21 12), (0, u "firstGraphs"), (0, .class_ 23), (0, u "java/util/LinkedHashSet"), (0, .methodref 22 3), (0, .fieldref 7 26), (0, .nameAndType 27 28), (0, u "otherGraphs"), (0, u "Ljava/util/Set;"), (0, .fieldref 7 30), (0, .nameAndType 31 12), (0, u "table"), (11, .class_ 45), (1, u "java/util/Set"), (2, .fieldref 7 49), (0, .nameAndType 50 51), (0, u "size"), (0, u "I"), (0, .methodref 53 54), (0, .class_ 55), (0, .nameAndType 56 57), (0, u "java/util/Arrays"), (0, u "copyOf"), (0, u "([II)[I"), (4, .interfaceMethodref 43 63), (0, .nameAndType 50 64), (0, u "()I"), (0, .interfaceMethodref 43 66), (0, .nameAndType 67 68), (0, u "iterator"), (0, u "()Ljava/util/Iterator;"), (0, .interfaceMethodref 70 71), (0, .class_ 72), (0, .nameAndType 73 74), (0, u "java/util/Iterator"), (0, u "hasNext"), (0, u "()Z"), (8, .class_ 84), (0, u "com/example/weser/weser/core/Memberships"), (0, .methodref 83 86), (0, .nameAndType 5 87), (0, u "([I[I)V"), (3, u "INITIAL_SIZE"), (8, u "()[I"), (0, u "memberships"), (0, u "()Lcom/example/weser/weser/core/Memberships;")] 3

def k9c0 : Code := { maxStack := 3, maxLocals := 1, code := prog_37_method_1_code, exceptionTable := #[], attributes := #[] }
def k9m0 : Method := { name := "<init>", desc := "()V", sig := { parameters := [], returnType := none }, accessFlags := 0, code := some k9c0 }
def k9c1 : Code := { maxStack := 2, maxLocals := 1, code := prog_37_method_3_code, exceptionTable := #[], attributes := #[] }
def k9m1 : Method := { name := "subjects", desc := "()[I", sig := { parameters := [], returnType := some (.array .int) }, accessFlags := 0, code := some k9c1 }
def k9c2 : Code := { maxStack := 2, maxLocals := 1, code := prog_37_method_4_code, exceptionTable := #[], attributes := #[] }
def k9m2 : Method := { name := "predicates", desc := "()[I", sig := { parameters := [], returnType := some (.array .int) }, accessFlags := 0, code := some k9c2 }
def k9c3 : Code := { maxStack := 2, maxLocals := 1, code := prog_37_method_5_code, exceptionTable := #[], attributes := #[] }
def k9m3 : Method := { name := "objects", desc := "()[I", sig := { parameters := [], returnType := some (.array .int) }, accessFlags := 0, code := some k9c3 }
def k9c4 : Code := { maxStack := 5, maxLocals := 8, code := prog_37_method_6_code, exceptionTable := #[], attributes := #[] }
def k9m4 : Method := { name := "memberships", desc := "()Lcom/example/weser/weser/core/Memberships;", sig := { parameters := [], returnType := some (.object "com/example/weser/weser/core/Memberships") }, accessFlags := 0, code := some k9c4 }
/-- com/example/weser/weser/core/TripleTable -/
def k9 : Class := { plain "com/example/weser/weser/core/TripleTable" (some 0) with
  accessFlags := 48
  interfaces := #[]
  cf := some (fileOf pool9 7 #[] #[{ accessFlags := 0, nameIndex := 5, descriptorIndex := 6, attributes := #[] }, { accessFlags := 0, nameIndex := 11, descriptorIndex := 100, attributes := #[] }, { accessFlags := 0, nameIndex := 15, descriptorIndex := 100, attributes := #[] }, { accessFlags := 0, nameIndex := 18, descriptorIndex := 100, attributes := #[] }, { accessFlags := 0, nameIndex := 101, descriptorIndex := 102, attributes := #[] }] 48 2 #[] #[{ accessFlags := 26, nameIndex := 91, descriptorIndex := 51, attributes := #[] }, { accessFlags := 2, nameIndex := 11, descriptorIndex := 12, attributes := #[] }, { accessFlags := 2, nameIndex := 15, descriptorIndex := 12, attributes := #[] }, { accessFlags := 2, nameIndex := 18, descriptorIndex := 12, attributes := #[] }, { accessFlags := 2, nameIndex := 21, descriptorIndex := 12, attributes := #[] }, { accessFlags := 18, nameIndex := 27, descriptorIndex := 28, attributes := #[] }, { accessFlags := 2, nameIndex := 50, descriptorIndex := 51, attributes := #[] }, { accessFlags := 2, nameIndex := 31, descriptorIndex := 12, attributes := #[] }])
  fields := #[{ name := "INITIAL_SIZE", type := .int, accessFlags := 26, slot := 0, constantValue := 0 }, { name := "subjects", type := (.array .int), accessFlags := 2, slot := 0, constantValue := 0 }, { name := "predicates", type := (.array .int), accessFlags := 2, slot := 1, constantValue := 0 }, { name := "objects", type := (.array .int), accessFlags := 2, slot := 2, constantValue := 0 }, { name := "firstGraphs", type := (.array .int), accessFlags := 2, slot := 3, constantValue := 0 }, { name := "otherGraphs", type := (.object "java/util/Set"), accessFlags := 18, slot := 4, constantValue := 0 }, { name := "size", type := .int, accessFlags := 2, slot := 5, constantValue := 0 }, { name := "table", type := (.array .int), accessFlags := 2, slot := 6, constantValue := 0 }]
  methods := #[k9m0, k9m1, k9m2, k9m3, k9m4]
  instanceTypes := #[(.array .int), (.array .int), (.array .int), (.array .int), (.object "java/util/Set"), .int, (.array .int)]
  staticTypes := #[.int]
  resolved := Array.replicate 106 none
  statics := none }

def pool10 : Array CpInfo := pool [(8, .class_ 10), (1, u "java/lang/Iterable"), (24, .class_ 36), (0, u "java/lang/Object")] 25

/-- java/lang/Iterable -/
def k10 : Class := { plain "java/lang/Iterable" (some 0) with
  accessFlags := 1537
  interfaces := #[]
  cf := some (fileOf pool10 8 #[] #[] 1537 35 #[] #[])
  fields := #[]
  methods := #[]
  instanceTypes := #[]
  staticTypes := #[]
  resolved := Array.replicate 62 none
  statics := none }

def pool11 : Array CpInfo := pool [(10, .class_ 12), (1, u "java/util/Collection"), (47, .class_ 61), (0, u "java/lang/Object"), (0, .class_ 63), (0, u "java/lang/Iterable")] 51

/-- java/util/Collection -/
def k11 : Class := { plain "java/util/Collection" (some 0) with
  accessFlags := 1537
  interfaces := #[10]
  cf := some (fileOf pool11 10 #[] #[] 1537 60 #[62] #[])
  fields := #[]
  methods := #[]
  instanceTypes := #[]
  staticTypes := #[]
  resolved := Array.replicate 115 none
  statics := none }

def pool12 : Array CpInfo := pool [(1, .methodref 2 3), (0, .class_ 4), (0, .nameAndType 5 6), (0, u "java/lang/Object"), (0, u "<init>"), (0, u "()V"), (1, .class_ 10), (1, u "java/util/AbstractCollection"), (66, .class_ 78), (0, u "java/util/Collection")] 81

def k12c0 : Code := { maxStack := 1, maxLocals := 1, code := jdk_22_method_1_code, exceptionTable := #[], attributes := #[] }
def k12m0 : Method := { name := "<init>", desc := "()V", sig := { parameters := [], returnType := none }, accessFlags := 4, code := some k12c0 }
/-- java/util/AbstractCollection -/
def k12 : Class := { plain "java/util/AbstractCollection" (some 0) with
  accessFlags := 1057
  interfaces := #[11]
  cf := some (fileOf pool12 8 #[] #[{ accessFlags := 4, nameIndex := 5, descriptorIndex := 6, attributes := #[] }] 1057 2 #[77] #[])
  fields := #[]
  methods := #[k12m0]
  instanceTypes := #[]
  staticTypes := #[]
  resolved := Array.replicate 160 none
  statics := none }

def pool13 : Array CpInfo := pool [(26, .class_ 27), (0, u "java/lang/Object"), (5, .class_ 34), (0, u "java/util/Set"), (1, .class_ 38), (1, u "java/util/Collection"), (18, u "size"), (0, u "()I"), (2, u "iterator"), (0, u "()Ljava/util/Iterator;")] 81

def k13m0 : Method := { name := "size", desc := "()I", sig := { parameters := [], returnType := some .int }, accessFlags := 1025, code := none }
def k13m1 : Method := { name := "iterator", desc := "()Ljava/util/Iterator;", sig := { parameters := [], returnType := some (.object "java/util/Iterator") }, accessFlags := 1025, code := none }
/-- java/util/Set -/
def k13 : Class := { plain "java/util/Set" (some 0) with
  accessFlags := 1537
  interfaces := #[11]
  cf := some (fileOf pool13 33 #[] #[{ accessFlags := 1025, nameIndex := 57, descriptorIndex := 58, attributes := #[] }, { accessFlags := 1025, nameIndex := 61, descriptorIndex := 62, attributes := #[] }] 1537 26 #[36] #[])
  fields := #[]
  methods := #[k13m0, k13m1]
  instanceTypes := #[]
  staticTypes := #[]
  resolved := Array.replicate 144 none
  statics := none }

def pool14 : Array CpInfo := pool [(1, .methodref 2 3), (0, .class_ 4), (0, .nameAndType 5 6), (0, u "java/util/AbstractCollection"), (0, u "<init>"), (0, u "()V"), (0, .class_ 8), (0, u "java/util/Set"), (7, .class_ 17), (0, u "java/util/AbstractSet")] 78

def k14c0 : Code := { maxStack := 1, maxLocals := 1, code := jdk_91_method_1_code, exceptionTable := #[], attributes := #[] }
def k14m0 : Method := { name := "<init>", desc := "()V", sig := { parameters := [], returnType := none }, accessFlags := 4, code := some k14c0 }
/-- java/util/AbstractSet -/
def k14 : Class := { plain "java/util/AbstractSet" (some 12) with
  accessFlags := 1057
  interfaces := #[13]
  cf := some (fileOf pool14 16 #[] #[{ accessFlags := 4, nameIndex := 5, descriptorIndex := 6, attributes := #[] }] 1057 2 #[7] #[])
  fields := #[]
  methods := #[k14m0]
  instanceTypes := #[]
  staticTypes := #[]
  resolved := Array.replicate 96 none
  statics := none }

def pool15 : Array CpInfo := pool [(1, .class_ 2), (0, u "java/lang/Cloneable"), (0, .class_ 4), (0, u "java/lang/Object")] 2

/-- java/lang/Cloneable -/
def k15 : Class := { plain "java/lang/Cloneable" (some 0) with
  accessFlags := 1537
  interfaces := #[]
  cf := some (fileOf pool15 1 #[] #[] 1537 3 #[] #[])
  fields := #[]
  methods := #[]
  instanceTypes := #[]
  staticTypes := #[]
  resolved := Array.replicate 7 none
  statics := none }

def pool16 : Array CpInfo := pool [(1, .methodref 2 3), (0, .class_ 4), (0, .nameAndType 5 6), (0, u "java/util/AbstractSet"), (0, u "<init>"), (0, u "()V"), (0, .class_ 8), (0, u "java/util/HashMap"), (1, .fieldref 11 12), (0, .class_ 13), (0, .nameAndType 14 15), (0, u "java/util/HashSet"), (0, u "map"), (0, u "Ljava/util/HashMap;"), (2, .nameAndType 20 21), (1, u "size"), (0, u "()I"), (15, .nameAndType 5 38), (0, u "(IF)V"), (3, .class_ 43), (0, u "java/util/LinkedHashMap"), (0, .methodref 42 37), (0, .methodref 7 46), (0, .nameAndType 47 48), (0, u "keySet"), (0, u "()Ljava/util/Set;"), (0, .interfaceMethodref 50 51), (0, .class_ 52), (0, .nameAndType 53 54), (0, u "java/util/Set"), (0, u "iterator"), (0, u "()Ljava/util/Iterator;"), (0, .methodref 7 18), (10, u "PRESENT"), (0, u "Ljava/lang/Object;"), (158, .class_ 227), (0, u "java/lang/Cloneable"), (0, .class_ 229), (0, u "java/io/Serializable"), (0, u "serialVersionUID"), (0, u "J"), (20, u "(IFZ)V")] 50

def k16m0 : Method := { name := "<init>", desc := "()V", sig := { parameters := [], returnType := none }, accessFlags := 1, code := none }
def k16c1 : Code := { maxStack := 5, maxLocals := 4, code := jdk_93_method_5_code, exceptionTable := #[], attributes := #[] }
def k16m1 : Method := { name := "<init>", desc := "(IFZ)V", sig := { parameters := [.int, .float, .boolean], returnType := none }, accessFlags := 0, code := some k16c1 }
def k16c2 : Code := { maxStack := 1, maxLocals := 1, code := jdk_93_method_6_code, exceptionTable := #[], attributes := #[] }
def k16m2 : Method := { name := "iterator", desc := "()Ljava/util/Iterator;", sig := { parameters := [], returnType := some (.object "java/util/Iterator") }, accessFlags := 1, code := some k16c2 }
def k16c3 : Code := { maxStack := 1, maxLocals := 1, code := jdk_93_method_7_code, exceptionTable := #[], attributes := #[] }
def k16m3 : Method := { name := "size", desc := "()I", sig := { parameters := [], returnType := some .int }, accessFlags := 1, code := some k16c3 }
/-- java/util/HashSet -/
def k16 : Class := { plain "java/util/HashSet" (some 14) with
  accessFlags := 33
  interfaces := #[13, 15, 2]
  cf := some (fileOf pool16 11 #[] #[{ accessFlags := 1, nameIndex := 5, descriptorIndex := 6, attributes := #[] }, { accessFlags := 0, nameIndex := 5, descriptorIndex := 252, attributes := #[] }, { accessFlags := 1, nameIndex := 53, descriptorIndex := 54, attributes := #[] }, { accessFlags := 1, nameIndex := 20, descriptorIndex := 21, attributes := #[] }] 33 2 #[50, 226, 228] #[{ accessFlags := 24, nameIndex := 230, descriptorIndex := 231, attributes := #[] }, { accessFlags := 128, nameIndex := 14, descriptorIndex := 15, attributes := #[] }, { accessFlags := 24, nameIndex := 66, descriptorIndex := 67, attributes := #[] }])
  fields := #[{ name := "serialVersionUID", type := .long, accessFlags := 24, slot := 0, constantValue := 0 }, { name := "map", type := (.object "java/util/HashMap"), accessFlags := 128, slot := 0, constantValue := 0 }, { name := "PRESENT", type := (.object "java/lang/Object"), accessFlags := 24, slot := 1, constantValue := 0 }]
  methods := #[k16m0, k16m1, k16m2, k16m3]
  instanceTypes := #[(.object "java/util/HashMap")]
  staticTypes := #[.long, (.object "java/lang/Object")]
  resolved := Array.replicate 303 none
  statics := none }

def pool17 : Array CpInfo := pool [(8, .class_ 10), (1, u "java/util/SequencedCollection"), (15, .class_ 27), (0, u "java/lang/Object"), (0, .class_ 29), (0, u "java/util/Collection")] 27

/-- java/util/SequencedCollection -/
def k17 : Class := { plain "java/util/SequencedCollection" (some 0) with
  accessFlags := 1537
  interfaces := #[11]
  cf := some (fileOf pool17 8 #[] #[] 1537 26 #[28] #[])
  fields := #[]
  methods := #[]
  instanceTypes := #[]
  staticTypes := #[]
  resolved := Array.replicate 57 none
  statics := none }

def pool18 : Array CpInfo := pool [(2, .class_ 4), (1, u "java/util/SequencedSet"), (2, .class_ 8), (0, u "java/lang/Object"), (0, .class_ 10), (0, u "java/util/SequencedCollection"), (0, .class_ 12), (0, u "java/util/Set")] 13

/-- java/util/SequencedSet -/
def k18 : Class := { plain "java/util/SequencedSet" (some 0) with
  accessFlags := 1537
  interfaces := #[17, 13]
  cf := some (fileOf pool18 2 #[] #[] 1537 7 #[9, 11] #[])
  fields := #[]
  methods := #[]
  instanceTypes := #[]
  staticTypes := #[]
  resolved := Array.replicate 26 none
  statics := none }

def pool19 : Array CpInfo := pool [(1, .methodref 2 3), (0, .class_ 4), (0, .nameAndType 5 6), (0, u "java/util/HashSet"), (0, u "<init>"), (0, u "(IFZ)V"), (0, .float 1061158912), (19, .class_ 29), (1, u "java/util/LinkedHashSet"), (16, u "()V"), (44, .class_ 93), (1, u "java/util/SequencedSet"), (11, .class_ 106), (0, u "java/util/LinkedHashSet$1ReverseLinkedHashSetView"), (6, .class_ 114), (0, u "java/lang/Cloneable"), (0, .class_ 116), (0, u "java/io/Serializable"), (0, u "serialVersionUID"), (0, u "J")] 44

def k19c0 : Code := { maxStack := 4, maxLocals := 1, code := jdk_2620_method_3_code, exceptionTable := #[], attributes := #[] }
def k19m0 : Method := { name := "<init>", desc := "()V", sig := { parameters := [], returnType := none }, accessFlags := 1, code := some k19c0 }
/-- java/util/LinkedHashSet -/
def k19 : Class := { plain "java/util/LinkedHashSet" (some 16) with
  accessFlags := 33
  interfaces := #[18, 15, 2]
  cf := some (fileOf pool19 27 #[.nestMembers #[105]] #[{ accessFlags := 1, nameIndex := 5, descriptorIndex := 46, attributes := #[] }] 33 2 #[91, 113, 115] #[{ accessFlags := 26, nameIndex := 117, descriptorIndex := 118, attributes := #[] }])
  fields := #[{ name := "serialVersionUID", type := .long, accessFlags := 26, slot := 0, constantValue := 0 }]
  methods := #[k19m0]
  instanceTypes := #[(.object "java/util/HashMap")]
  staticTypes := #[.long]
  resolved := Array.replicate 163 none
  statics := none }

def pool20 : Array CpInfo := pool [(2, .class_ 4), (1, u "java/util/Map"), (31, .class_ 37), (0, u "java/util/Map$Entry"), (55, .class_ 94), (0, u "java/lang/Object")] 168

/-- java/util/Map -/
def k20 : Class := { plain "java/util/Map" (some 0) with
  accessFlags := 1537
  interfaces := #[]
  cf := some (fileOf pool20 2 #[.nestMembers #[36]] #[] 1537 93 #[] #[])
  fields := #[]
  methods := #[]
  instanceTypes := #[]
  staticTypes := #[]
  resolved := Array.replicate 263 none
  statics := none }

def pool21 : Array CpInfo := pool [(1, .methodref 2 3), (0, .class_ 4), (0, .nameAndType 5 6), (0, u "java/lang/Object"), (0, u "<init>"), (0, u "()V"), (1, .class_ 10), (1, u "java/util/AbstractMap"), (42, .class_ 54), (0, u "java/util/Map"), (9, u "keySet"), (0, u "Ljava/util/Set;"), (0, .class_ 67), (0, u "java/util/AbstractMap$1"), (5, u "values"), (0, u "Ljava/util/Collection;"), (0, .class_ 76), (0, u "java/util/AbstractMap$2"), (104, .class_ 182), (0, u "java/util/AbstractMap$ViewCollection"), (0, .class_ 184), (0, u "java/util/AbstractMap$SimpleImmutableEntry"), (0, .class_ 186), (0, u "java/util/AbstractMap$SimpleEntry"), (0, .class_ 188), (0, u "java/util/AbstractMap$2$1"), (0, .class_ 190), (0, u "java/util/AbstractMap$1$1")] 5

def k21c0 : Code := { maxStack := 1, maxLocals := 1, code := jdk_71_method_1_code, exceptionTable := #[], attributes := #[] }
def k21m0 : Method := { name := "<init>", desc := "()V", sig := { parameters := [], returnType := none }, accessFlags := 4, code := some k21c0 }
/-- java/util/AbstractMap -/
def k21 : Class := { plain "java/util/AbstractMap" (some 0) with
  accessFlags := 1057
  interfaces := #[20]
  cf := some (fileOf pool21 8 #[.nestMembers #[181, 183, 185, 75, 187, 66, 189]] #[{ accessFlags := 4, nameIndex := 5, descriptorIndex := 6, attributes := #[] }] 1057 2 #[53] #[{ accessFlags := 128, nameIndex := 64, descriptorIndex := 65, attributes := #[] }, { accessFlags := 128, nameIndex := 73, descriptorIndex := 74, attributes := #[] }])
  fields := #[{ name := "keySet", type := (.object "java/util/Set"), accessFlags := 128, slot := 0, constantValue := 0 }, { name := "values", type := (.object "java/util/Collection"), accessFlags := 128, slot := 1, constantValue := 0 }]
  methods := #[k21m0]
  instanceTypes := #[(.object "java/util/Set"), (.object "java/util/Collection")]
  staticTypes := #[]
  resolved := Array.replicate 196 none
  statics := none }

def pool22 : Array CpInfo := pool [(6, u "()I"), (27, .methodref 35 36), (0, .class_ 37), (0, .nameAndType 38 39), (0, u "java/lang/Integer"), (0, u "numberOfLeadingZeros"), (0, u "(I)I"), (0, .class_ 41), (0, u "java/util/HashMap"), (0, .integer 1073741824), (0, .methodref 44 45), (0, .class_ 46), (0, .nameAndType 47 48), (0, u "java/util/AbstractMap"), (0, u "<init>"), (0, u "()V"), (21, .methodref 71 72), (0, .class_ 73), (0, .nameAndType 74 75), (0, u "java/lang/Float"), (0, u "isNaN"), (0, u "(F)Z"), (5, .fieldref 40 82), (0, .nameAndType 83 84), (0, u "loadFactor"), (0, u "F"), (0, .methodref 40 86), (0, .nameAndType 87 39), (0, u "tableSizeFor"), (0, .fieldref 40 89), (0, .nameAndType 90 91), (0, u "threshold"), (0, u "I"), (0, .float 1061158912), (2, u "(IF)V"), (5, .class_ 103), (1, u "java/util/Map"), (0, u "size"), (2, u "table"), (0, u "[Ljava/util/HashMap$Node;"), (14, u "entrySet"), (0, u "()Ljava/util/Set;"), (31, .fieldref 40 157), (0, .nameAndType 104 91), (5, .class_ 165), (1, u "java/util/HashMap$Node"), (14, .class_ 181), (0, u "java/util/HashMap$TreeNode"), (22, u "modCount"), (36, u "keySet"), (0, u "Ljava/util/Set;"), (0, .class_ 244), (0, u "java/util/HashMap$KeySet"), (18, .class_ 264), (0, u "java/util/HashMap$Values"), (3, .class_ 269), (0, u "java/util/HashMap$EntrySet"), (76, .class_ 348), (1, u "java/util/HashMap$UnsafeHolder"), (43, .class_ 393), (0, u "java/lang/Cloneable"), (0, .class_ 395), (0, u "java/io/Serializable"), (0, u "serialVersionUID"), (0, u "J"), (3, u "DEFAULT_INITIAL_CAPACITY"), (1, u "MAXIMUM_CAPACITY"), (0, u "DEFAULT_LOAD_FACTOR"), (0, u "TREEIFY_THRESHOLD"), (1, u "UNTREEIFY_THRESHOLD"), (1, u "MIN_TREEIFY_CAPACITY"), (186, .class_ 597), (0, u "java/util/HashMap$EntrySpliterator"), (0, .class_ 599), (0, u "java/util/HashMap$ValueSpliterator"), (0, .class_ 601), (0, u "java/util/HashMap$KeySpliterator"), (0, .class_ 603), (0, u "java/util/HashMap$HashMapSpliterator"), (0, .class_ 605), (0, u "java/util/HashMap$EntryIterator"), (0, .class_ 607), (0, u "java/util/HashMap$ValueIterator"), (0, .class_ 609), (0, u "java/util/HashMap$KeyIterator"), (0, .class_ 611), (0, u "java/util/HashMap$HashIterator")] 17

def k22c0 : Code := { maxStack := 3, maxLocals := 2, code := jdk_69_method_4_code, exceptionTable := #[], attributes := #[] }
def k22m0 : Method := { name := "tableSizeFor", desc := "(I)I", sig := { parameters := [.int], returnType := some .int }, accessFlags := 24, code := some k22c0 }
def k22c1 : Code := { maxStack := 4, maxLocals := 3, code := jdk_69_method_5_code, exceptionTable := #[], attributes := #[] }
def k22m1 : Method := { name := "<init>", desc := "(IF)V", sig := { parameters := [.int, .float], returnType := none }, accessFlags := 1, code := some k22c1 }
def k22c2 : Code := { maxStack := 2, maxLocals := 1, code := jdk_69_method_7_code, exceptionTable := #[], attributes := #[] }
def k22m2 : Method := { name := "<init>", desc := "()V", sig := { parameters := [], returnType := none }, accessFlags := 1, code := some k22c2 }
def k22c3 : Code := { maxStack := 1, maxLocals := 1, code := jdk_69_method_10_code, exceptionTable := #[], attributes := #[] }
def k22m3 : Method := { name := "size", desc := "()I", sig := { parameters := [], returnType := some .int }, accessFlags := 1, code := some k22c3 }
def k22c4 : Code := { maxStack := 3, maxLocals := 2, code := ⟨#[0x01, 0xb0]⟩, exceptionTable := #[], attributes := #[] }
def k22m4 : Method := { name := "keySet", desc := "()Ljava/util/Set;", sig := { parameters := [], returnType := some (.object "java/util/Set") }, accessFlags := 1, code := some k22c4 }
/-- java/util/HashMap -/
def k22 : Class := { plain "java/util/HashMap" (some 21) with
  accessFlags := 33
  interfaces := #[20, 15, 2]
  cf := some (fileOf pool22 40 #[.nestMembers #[180, 596, 598, 600, 602, 604, 606, 608, 610, 346, 268, 263, 243, 163]] #[{ accessFlags := 24, nameIndex := 87, descriptorIndex := 39, attributes := #[] }, { accessFlags := 1, nameIndex := 47, descriptorIndex := 95, attributes := #[] }, { accessFlags := 1, nameIndex := 47, descriptorIndex := 48, attributes := #[] }, { accessFlags := 1, nameIndex := 104, descriptorIndex := 6, attributes := #[] }, { accessFlags := 1, nameIndex := 241, descriptorIndex := 124, attributes := #[] }] 33 44 #[101, 392, 394] #[{ accessFlags := 26, nameIndex := 396, descriptorIndex := 397, attributes := #[] }, { accessFlags := 24, nameIndex := 401, descriptorIndex := 91, attributes := #[] }, { accessFlags := 24, nameIndex := 403, descriptorIndex := 91, attributes := #[] }, { accessFlags := 24, nameIndex := 404, descriptorIndex := 84, attributes := #[] }, { accessFlags := 24, nameIndex := 405, descriptorIndex := 91, attributes := #[] }, { accessFlags := 24, nameIndex := 407, descriptorIndex := 91, attributes := #[] }, { accessFlags := 24, nameIndex := 409, descriptorIndex := 91, attributes := #[] }, { accessFlags := 128, nameIndex := 107, descriptorIndex := 108, attributes := #[] }, { accessFlags := 128, nameIndex := 123, descriptorIndex := 242, attributes := #[] }, { accessFlags := 128, nameIndex := 104, descriptorIndex := 91, attributes := #[] }, { accessFlags := 128, nameIndex := 204, descriptorIndex := 91, attributes := #[] }, { accessFlags := 0, nameIndex := 90, descriptorIndex := 91, attributes := #[] }, { accessFlags := 16, nameIndex := 83, descriptorIndex := 84, attributes := #[] }])
  fields := #[{ name := "serialVersionUID", type := .long, accessFlags := 26, slot := 0, constantValue := 0 }, { name := "DEFAULT_INITIAL_CAPACITY", type := .int, accessFlags := 24, slot := 1, constantValue := 0 }, { name := "MAXIMUM_CAPACITY", type := .int, accessFlags := 24, slot := 2, constantValue := 0 }, { name := "DEFAULT_LOAD_FACTOR", type := .float, accessFlags := 24, slot := 3, constantValue := 0 }, { name := "TREEIFY_THRESHOLD", type := .int, accessFlags := 24, slot := 4, constantValue := 0 }, { name := "UNTREEIFY_THRESHOLD", type := .int, accessFlags := 24, slot := 5, constantValue := 0 }, { name := "MIN_TREEIFY_CAPACITY", type := .int, accessFlags := 24, slot := 6, constantValue := 0 }, { name := "table", type := (.array (.object "java/util/HashMap$Node")), accessFlags := 128, slot := 2, constantValue := 0 }, { name := "entrySet", type := (.object "java/util/Set"), accessFlags := 128, slot := 3, constantValue := 0 }, { name := "size", type := .int, accessFlags := 128, slot := 4, constantValue := 0 }, { name := "modCount", type := .int, accessFlags := 128, slot := 5, constantValue := 0 }, { name := "threshold", type := .int, accessFlags := 0, slot := 6, constantValue := 0 }, { name := "loadFactor", type := .float, accessFlags := 16, slot := 7, constantValue := 0 }]
  methods := #[k22m0, k22m1, k22m2, k22m3, k22m4]
  instanceTypes := #[(.object "java/util/Set"), (.object "java/util/Collection"), (.array (.object "java/util/HashMap$Node")), (.object "java/util/Set"), .int, .int, .int, .float]
  staticTypes := #[.long, .int, .int, .float, .int, .int, .int]
  resolved := Array.replicate 629 none
  statics := none }

def pool23 : Array CpInfo := pool [(2, .class_ 4), (1, u "java/util/SequencedMap"), (38, .class_ 44), (0, u "java/util/SequencedMap$1SeqKeySet"), (3, .class_ 49), (0, u "java/util/SequencedMap$1SeqValues"), (1, .class_ 52), (0, u "java/util/SequencedMap$1SeqEntrySet"), (1, .class_ 55), (0, u "java/lang/Object"), (0, .class_ 57), (0, u "java/util/Map")] 48

/-- java/util/SequencedMap -/
def k23 : Class := { plain "java/util/SequencedMap" (some 0) with
  accessFlags := 1537
  interfaces := #[20]
  cf := some (fileOf pool23 2 #[.nestMembers #[51, 48, 43]] #[] 1537 54 #[56] #[])
  fields := #[]
  methods := #[]
  instanceTypes := #[]
  staticTypes := #[]
  resolved := Array.replicate 106 none
  statics := none }

def pool24 : Array CpInfo := pool [(1, .fieldref 2 3), (0, .class_ 4), (0, .nameAndType 5 6), (0, u "java/util/LinkedHashMap"), (0, u "putMode"), (0, u "I"), (2, u "head"), (0, u "Ljava/util/LinkedHashMap$Entry;"), (2, u "tail"), (1, .class_ 17), (1, u "java/util/LinkedHashMap$Entry"), (5, .class_ 25), (1, u "java/util/HashMap"), (1, u "()V"), (2, u "<init>"), (33, .fieldref 2 65), (0, .nameAndType 66 67), (0, u "accessOrder"), (0, u "Z"), (13, .methodref 23 82), (0, .nameAndType 30 83), (0, u "(IF)V"), (3, .methodref 23 88), (0, .nameAndType 30 27), (24, .methodref 2 114), (0, .nameAndType 115 116), (0, u "sequencedKeySet"), (0, u "()Ljava/util/SequencedSet;"), (0, .fieldref 2 118), (0, .nameAndType 119 120), (0, u "keySet"), (0, u "Ljava/util/Set;"), (0, .class_ 122), (0, u "java/util/LinkedHashMap$LinkedKeySet"), (0, .methodref 121 124), (0, .nameAndType 30 125), (0, u "(Ljava/util/LinkedHashMap;Z)V"), (0, .class_ 127), (0, u "java/util/SequencedSet"), (15, .class_ 144), (0, u "java/util/LinkedHashMap$LinkedValues"), (9, .class_ 155), (0, u "java/util/LinkedHashMap$LinkedEntrySet"), (44, .class_ 201), (0, u "java/util/LinkedHashMap$ReversedLinkedHashMapView"), (3, .class_ 206), (0, u "java/util/SequencedMap"), (0, u "serialVersionUID"), (0, u "J"), (5, u "PUT_NORM"), (1, u "PUT_FIRST"), (1, u "PUT_LAST"), (79, u "()Ljava/util/Set;"), (63, .class_ 363), (0, u "java/util/LinkedHashMap$LinkedEntryIterator"), (0, .class_ 365), (0, u "java/util/LinkedHashMap$LinkedValueIterator"), (0, .class_ 367), (0, u "java/util/LinkedHashMap$LinkedKeyIterator"), (0, .class_ 369), (0, u "java/util/LinkedHashMap$LinkedHashIterator")] 16

def k24c0 : Code := { maxStack := 3, maxLocals := 3, code := jdk_94_method_14_code, exceptionTable := #[], attributes := #[] }
def k24m0 : Method := { name := "<init>", desc := "(IF)V", sig := { parameters := [.int, .float], returnType := none }, accessFlags := 1, code := some k24c0 }
def k24c1 : Code := { maxStack := 2, maxLocals := 1, code := jdk_94_method_16_code, exceptionTable := #[], attributes := #[] }
def k24m1 : Method := { name := "<init>", desc := "()V", sig := { parameters := [], returnType := none }, accessFlags := 1, code := some k24c1 }
def k24c2 : Code := { maxStack := 1, maxLocals := 1, code := jdk_94_method_24_code, exceptionTable := #[], attributes := #[] }
def k24m2 : Method := { name := "keySet", desc := "()Ljava/util/Set;", sig := { parameters := [], returnType := some (.object "java/util/Set") }, accessFlags := 1, code := some k24c2 }
def k24c3 : Code := { maxStack := 4, maxLocals := 3, code := jdk_94_method_25_code, exceptionTable := #[], attributes := #[] }
def k24m3 : Method := { name := "sequencedKeySet", desc := "()Ljava/util/SequencedSet;", sig := { parameters := [], returnType := some (.object "java/util/SequencedSet") }, accessFlags := 1, code := some k24c3 }
/-- java/util/LinkedHashMap -/
def k24 : Class := { plain "java/util/LinkedHashMap" (some 22) with
  accessFlags := 33
  interfaces := #[23]
  cf := some (fileOf pool24 2 #[.nestMembers #[200, 362, 364, 366, 368, 154, 143, 121, 15]] #[{ accessFlags := 1, nameIndex := 30, descriptorIndex := 83, attributes := #[] }, { accessFlags := 1, nameIndex := 30, descriptorIndex := 27, attributes := #[] }, { accessFlags := 1, nameIndex := 119, descriptorIndex := 298, attributes := #[] }, { accessFlags := 1, nameIndex := 115, descriptorIndex := 116, attributes := #[] }] 33 23 #[205] #[{ accessFlags := 26, nameIndex := 207, descriptorIndex := 208, attributes := #[] }, { accessFlags := 128, nameIndex := 9, descriptorIndex := 10, attributes := #[] }, { accessFlags := 128, nameIndex := 13, descriptorIndex := 10, attributes := #[] }, { accessFlags := 16, nameIndex := 66, descriptorIndex := 67, attributes := #[] }, { accessFlags := 24, nameIndex := 214, descriptorIndex := 6, attributes := #[] }, { accessFlags := 24, nameIndex := 216, descriptorIndex := 6, attributes := #[] }, { accessFlags := 24, nameIndex := 218, descriptorIndex := 6, attributes := #[] }, { accessFlags := 128, nameIndex := 5, descriptorIndex := 6, attributes := #[] }])
  fields := #[{ name := "serialVersionUID", type := .long, accessFlags := 26, slot := 0, constantValue := 0 }, { name := "head", type := (.object "java/util/LinkedHashMap$Entry"), accessFlags := 128, slot := 8, constantValue := 0 }, { name := "tail", type := (.object "java/util/LinkedHashMap$Entry"), accessFlags := 128, slot := 9, constantValue := 0 }, { name := "accessOrder", type := .boolean, accessFlags := 16, slot := 10, constantValue := 0 }, { name := "PUT_NORM", type := .int, accessFlags := 24, slot := 1, constantValue := 0 }, { name := "PUT_FIRST", type := .int, accessFlags := 24, slot := 2, constantValue := 0 }, { name := "PUT_LAST", type := .int, accessFlags := 24, slot := 3, constantValue := 0 }, { name := "putMode", type := .int, accessFlags := 128, slot := 11, constantValue := 0 }]
  methods := #[k24m0, k24m1, k24m2, k24m3]
  instanceTypes := #[(.object "java/util/Set"), (.object "java/util/Collection"), (.array (.object "java/util/HashMap$Node")), (.object "java/util/Set"), .int, .int, .int, .float, (.object "java/util/LinkedHashMap$Entry"), (.object "java/util/LinkedHashMap$Entry"), .boolean, .int]
  staticTypes := #[.long, .int, .int, .int]
  resolved := Array.replicate 386 none
  statics := none }

def pool25 : Array CpInfo := pool [(2, .class_ 4), (1, u "java/lang/Object"), (0, u "<init>"), (0, u "()V"), (1, .class_ 10), (1, u "java/lang/Number"), (2, .class_ 14), (0, u "java/io/Serializable"), (0, u "serialVersionUID"), (0, u "J")] 20

def k25m0 : Method := { name := "<init>", desc := "()V", sig := { parameters := [], returnType := none }, accessFlags := 1, code := none }
/-- java/lang/Number -/
def k25 : Class := { plain "java/lang/Number" (some 0) with
  accessFlags := 1057
  interfaces := #[2]
  cf := some (fileOf pool25 8 #[] #[{ accessFlags := 1, nameIndex := 5, descriptorIndex := 6, attributes := #[] }] 1057 2 #[13] #[{ accessFlags := 26, nameIndex := 15, descriptorIndex := 16, attributes := #[] }])
  fields := #[{ name := "serialVersionUID", type := .long, accessFlags := 26, slot := 0, constantValue := 0 }]
  methods := #[k25m0]
  instanceTypes := #[]
  staticTypes := #[.long]
  resolved := Array.replicate 37 none
  statics := none }

def pool26 : Array CpInfo := pool [(1, .class_ 2), (0, u "java/lang/Float"), (48, .class_ 53), (1, u "java/lang/Number"), (3, u "value"), (0, u "F"), (2, u "isNaN"), (0, u "(F)Z"), (28, u "$assertionsDisabled"), (0, u "Z"), (52, u "TYPE"), (0, u "Ljava/lang/Class;"), (0, .class_ 148), (0, u "java/lang/Comparable"), (0, .class_ 150), (0, u "java/lang/constant/Constable"), (0, .class_ 152), (0, u "java/lang/constant/ConstantDesc"), (0, u "POSITIVE_INFINITY"), (1, u "NEGATIVE_INFINITY"), (1, u "NaN"), (1, u "MAX_VALUE"), (0, u "MIN_NORMAL"), (0, u "MIN_VALUE"), (1, u "SIZE"), (0, u "I"), (1, u "PRECISION"), (1, u "MAX_EXPONENT"), (1, u "MIN_EXPONENT"), (1, u "BYTES"), (3, u "serialVersionUID"), (0, u "J")] 101

def k26c0 : Code := { maxStack := 2, maxLocals := 1, code := jdk_118_method_6_code, exceptionTable := #[], attributes := #[] }
def k26m0 : Method := { name := "isNaN", desc := "(F)Z", sig := { parameters := [.float], returnType := some .boolean }, accessFlags := 9, code := some k26c0 }
/-- java/lang/Float -/
def k26 : Class := { plain "java/lang/Float" (some 25) with
  accessFlags := 49
  interfaces := #[3, 5, 6]
  cf := some (fileOf pool26 1 #[] #[{ accessFlags := 9, nameIndex := 61, descriptorIndex := 62, attributes := #[] }] 49 51 #[147, 149, 151] #[{ accessFlags := 25, nameIndex := 153, descriptorIndex := 58, attributes := #[] }, { accessFlags := 25, nameIndex := 155, descriptorIndex := 58, attributes := #[] }, { accessFlags := 25, nameIndex := 157, descriptorIndex := 58, attributes := #[] }, { accessFlags := 25, nameIndex := 159, descriptorIndex := 58, attributes := #[] }, { accessFlags := 25, nameIndex := 160, descriptorIndex := 58, attributes := #[] }, { accessFlags := 25, nameIndex := 161, descriptorIndex := 58, attributes := #[] }, { accessFlags := 25, nameIndex := 163, descriptorIndex := 164, attributes := #[] }, { accessFlags := 25, nameIndex := 166, descriptorIndex := 164, attributes := #[] }, { accessFlags := 25, nameIndex := 168, descriptorIndex := 164, attributes := #[] }, { accessFlags := 25, nameIndex := 170, descriptorIndex := 164, attributes := #[] }, { accessFlags := 25, nameIndex := 172, descriptorIndex := 164, attributes := #[] }, { accessFlags := 25, nameIndex := 145, descriptorIndex := 146, attributes := #[] }, { accessFlags := 18, nameIndex := 57, descriptorIndex := 58, attributes := #[] }, { accessFlags := 26, nameIndex := 176, descriptorIndex := 177, attributes := #[] }, { accessFlags := 4120, nameIndex := 91, descriptorIndex := 92, attributes := #[] }])
  fields := #[{ name := "POSITIVE_INFINITY", type := .float, accessFlags := 25, slot := 0, constantValue := 0 }, { name := "NEGATIVE_INFINITY", type := .float, accessFlags := 25, slot := 1, constantValue := 0 }, { name := "NaN", type := .float, accessFlags := 25, slot := 2, constantValue := 0 }, { name := "MAX_VALUE", type := .float, accessFlags := 25, slot := 3, constantValue := 0 }, { name := "MIN_NORMAL", type := .float, accessFlags := 25, slot := 4, constantValue := 0 }, { name := "MIN_VALUE", type := .float, accessFlags := 25, slot := 5, constantValue := 0 }, { name := "SIZE", type := .int, accessFlags := 25, slot := 6, constantValue := 0 }, { name := "PRECISION", type := .int, accessFlags := 25, slot := 7, constantValue := 0 }, { name := "MAX_EXPONENT", type := .int, accessFlags := 25, slot := 8, constantValue := 0 }, { name := "MIN_EXPONENT", type := .int, accessFlags := 25, slot := 9, constantValue := 0 }, { name := "BYTES", type := .int, accessFlags := 25, slot := 10, constantValue := 0 }, { name := "TYPE", type := (.object "java/lang/Class"), accessFlags := 25, slot := 11, constantValue := 0 }, { name := "value", type := .float, accessFlags := 18, slot := 0, constantValue := 0 }, { name := "serialVersionUID", type := .long, accessFlags := 26, slot := 12, constantValue := 0 }, { name := "$assertionsDisabled", type := .boolean, accessFlags := 4120, slot := 13, constantValue := 0 }]
  methods := #[k26m0]
  instanceTypes := #[.float]
  staticTypes := #[.float, .float, .float, .float, .float, .float, .int, .int, .int, .int, .int, (.object "java/lang/Class"), .long, .boolean]
  resolved := Array.replicate 279 none
  statics := none }

def pool27 : Array CpInfo := pool [(1, .class_ 2), (0, u "java/lang/Integer"), (16, u "digits"), (0, u "[C"), (32, u "numberOfLeadingZeros"), (0, u "(I)I"), (30, u "DigitOnes"), (0, u "[B"), (2, u "DigitTens"), (99, .class_ 190), (0, u "java/lang/Integer$IntegerCache"), (3, u "I"), (8, .class_ 204), (0, u "java/lang/Number"), (2, u "value"), (56, .integer 65536), (37, u "TYPE"), (0, u "Ljava/lang/Class;"), (0, .class_ 305), (0, u "java/lang/Comparable"), (0, .class_ 307), (0, u "java/lang/constant/Constable"), (0, .class_ 309), (0, u "java/lang/constant/ConstantDesc"), (0, u "MIN_VALUE"), (1, u "MAX_VALUE"), (3, u "SIZE"), (1, u "BYTES"), (1, u "serialVersionUID"), (0, u "J")] 131

def k27c0 : Code := { maxStack := 3, maxLocals := 2, code := jdk_33_method_47_code, exceptionTable := #[], attributes := #[] }
def k27m0 : Method := { name := "numberOfLeadingZeros", desc := "(I)I", sig := { parameters := [.int], returnType := some .int }, accessFlags := 9, code := some k27c0 }
/-- java/lang/Integer -/
def k27 : Class := { plain "java/lang/Integer" (some 25) with
  accessFlags := 49
  interfaces := #[3, 5, 6]
  cf := some (fileOf pool27 1 #[.nestMembers #[189]] #[{ accessFlags := 9, nameIndex := 53, descriptorIndex := 54, attributes := #[] }] 49 203 #[304, 306, 308] #[{ accessFlags := 25, nameIndex := 310, descriptorIndex := 194, attributes := #[] }, { accessFlags := 25, nameIndex := 312, descriptorIndex := 194, attributes := #[] }, { accessFlags := 25, nameIndex := 302, descriptorIndex := 303, attributes := #[] }, { accessFlags := 24, nameIndex := 19, descriptorIndex := 20, attributes := #[] }, { accessFlags := 24, nameIndex := 89, descriptorIndex := 86, attributes := #[] }, { accessFlags := 24, nameIndex := 85, descriptorIndex := 86, attributes := #[] }, { accessFlags := 18, nameIndex := 207, descriptorIndex := 194, attributes := #[] }, { accessFlags := 25, nameIndex := 316, descriptorIndex := 194, attributes := #[] }, { accessFlags := 25, nameIndex := 318, descriptorIndex := 194, attributes := #[] }, { accessFlags := 26, nameIndex := 320, descriptorIndex := 321, attributes := #[] }])
  fields := #[{ name := "MIN_VALUE", type := .int, accessFlags := 25, slot := 0, constantValue := 0 }, { name := "MAX_VALUE", type := .int, accessFlags := 25, slot := 1, constantValue := 0 }, { name := "TYPE", type := (.object "java/lang/Class"), accessFlags := 25, slot := 2, constantValue := 0 }, { name := "digits", type := (.array .char), accessFlags := 24, slot := 3, constantValue := 0 }, { name := "DigitTens", type := (.array .byte), accessFlags := 24, slot := 4, constantValue := 0 }, { name := "DigitOnes", type := (.array .byte), accessFlags := 24, slot := 5, constantValue := 0 }, { name := "value", type := .int, accessFlags := 18, slot := 0, constantValue := 0 }, { name := "SIZE", type := .int, accessFlags := 25, slot := 6, constantValue := 0 }, { name := "BYTES", type := .int, accessFlags := 25, slot := 7, constantValue := 0 }, { name := "serialVersionUID", type := .long, accessFlags := 26, slot := 8, constantValue := 0 }]
  methods := #[k27m0]
  instanceTypes := #[.int]
  staticTypes := #[.int, .int, (.object "java/lang/Class"), (.array .char), (.array .byte), (.array .byte), .int, .int, .long]
  resolved := Array.replicate 453 none
  statics := none }

def pool28 : Array CpInfo := pool [(1, .methodref 2 3), (0, .class_ 4), (0, .nameAndType 5 6), (0, u "java/lang/Object"), (0, u "<init>"), (0, u "()V"), (0, .fieldref 8 9), (0, .class_ 10), (0, .nameAndType 11 12), (0, u "com/example/weser/weser/core/RdfGraph"), (0, u "iris"), (0, u "[Ljava/lang/String;"), (0, .fieldref 8 14), (0, .nameAndType 15 12), (0, u "predicateIris"), (0, .fieldref 8 17), (0, .nameAndType 18 12), (0, u "graphLabels"), (0, .methodref 20 21), (0, .class_ 22), (0, .nameAndType 23 24), (0, u "com/example/weser/weser/core/TripleTable"), (0, u "subjects"), (0, u "()[I"), (0, .fieldref 8 26), (0, .nameAndType 27 28), (0, u "linkSources"), (0, u "[I"), (0, .methodref 20 30), (0, .nameAndType 31 24), (0, u "predicates"), (0, .fieldref 8 33), (0, .nameAndType 34 28), (0, u "linkPredicates"), (0, .methodref 20 36), (0, .nameAndType 37 24), (0, u "objects"), (0, .fieldref 8 39), (0, .nameAndType 40 28), (0, u "linkTargets"), (0, .methodref 20 42), (0, .nameAndType 43 44), (0, u "memberships"), (0, u "()Lcom/example/weser/weser/core/Memberships;"), (0, .fieldref 8 46), (0, .nameAndType 47 48), (0, u "linkMemberships"), (0, u "Lcom/example/weser/weser/core/Memberships;"), (0, .fieldref 8 50), (0, .nameAndType 51 28), (0, u "literalSubjects"), (0, .fieldref 8 53), (0, .nameAndType 54 28), (0, u "literalPredicates"), (0, .fieldref 8 56), (0, .nameAndType 57 48), (0, u "literalMemberships"), (0, .fieldref 8 59), (0, .nameAndType 60 28), (0, u "literalObjects"), (0, .fieldref 8 62), (0, .nameAndType 63 12), (0, u "lexicalForms"), (0, .fieldref 8 65), (0, .nameAndType 66 67), (0, u "prefixes"), (0, u "Lcom/example/weser/weser/core/Prefixes;"), (0, .methodref 69 70), (0, .class_ 71), (0, .nameAndType 72 73), (0, u "java/lang/String"), (0, u "equals"), (0, u "(Ljava/lang/Object;)Z"), (0, u "([Ljava/lang/String;[Ljava/lang/String;[Ljava/lang/String;Lcom/example/weser/weser/core/TripleTable;Lcom/example/weser/weser/core/TripleTable;[Ljava/lang/String;Lcom/example/weser/weser/core/Prefixes;)V"), (10, u "node"), (0, u "(Ljava/lang/String;)I")] 13

def k28c0 : Code := { maxStack := 2, maxLocals := 8, code := prog_29_method_1_code, exceptionTable := #[], attributes := #[] }
def k28m0 : Method := { name := "<init>", desc := "([Ljava/lang/String;[Ljava/lang/String;[Ljava/lang/String;Lcom/example/weser/weser/core/TripleTable;Lcom/example/weser/weser/core/TripleTable;[Ljava/lang/String;Lcom/example/weser/weser/core/Prefixes;)V", sig := { parameters := [(.array (.object "java/lang/String")), (.array (.object "java/lang/String")), (.array (.object "java/lang/String")), (.object "com/example/weser/weser/core/TripleTable"), (.object "com/example/weser/weser/core/TripleTable"), (.array (.object "java/lang/String")), (.object "com/example/weser/weser/core/Prefixes")], returnType := none }, accessFlags := 0, code := some k28c0 }
def k28c1 : Code := { maxStack := 3, maxLocals := 4, code := prog_29_method_8_code, exceptionTable := #[], attributes := #[] }
def k28m1 : Method := { name := "node", desc := "(Ljava/lang/String;)I", sig := { parameters := [(.object "java/lang/String")], returnType := some .int }, accessFlags := 1, code := some k28c1 }
/-- com/example/weser/weser/core/RdfGraph -/
def k28 : Class := { plain "com/example/weser/weser/core/RdfGraph" (some 0) with
  accessFlags := 49
  interfaces := #[]
  cf := some (fileOf pool28 8 #[] #[{ accessFlags := 0, nameIndex := 5, descriptorIndex := 74, attributes := #[] }, { accessFlags := 1, nameIndex := 85, descriptorIndex := 86, attributes := #[] }] 49 2 #[] #[{ accessFlags := 18, nameIndex := 11, descriptorIndex := 12, attributes := #[] }, { accessFlags := 18, nameIndex := 15, descriptorIndex := 12, attributes := #[] }, { accessFlags := 18, nameIndex := 18, descriptorIndex := 12, attributes := #[] }, { accessFlags := 18, nameIndex := 27, descriptorIndex := 28, attributes := #[] }, { accessFlags := 18, nameIndex := 34, descriptorIndex := 28, attributes := #[] }, { accessFlags := 18, nameIndex := 40, descriptorIndex := 28, attributes := #[] }, { accessFlags := 18, nameIndex := 47, descriptorIndex := 48, attributes := #[] }, { accessFlags := 18, nameIndex := 51, descriptorIndex := 28, attributes := #[] }, { accessFlags := 18, nameIndex := 54, descriptorIndex := 28, attributes := #[] }, { accessFlags := 18, nameIndex := 57, descriptorIndex := 48, attributes := #[] }, { accessFlags := 18, nameIndex := 60, descriptorIndex := 28, attributes := #[] }, { accessFlags := 18, nameIndex := 63, descriptorIndex := 12, attributes := #[] }, { accessFlags := 18, nameIndex := 66, descriptorIndex := 67, attributes := #[] }])
  fields := #[{ name := "iris", type := (.array (.object "java/lang/String")), accessFlags := 18, slot := 0, constantValue := 0 }, { name := "predicateIris", type := (.array (.object "java/lang/String")), accessFlags := 18, slot := 1, constantValue := 0 }, { name := "graphLabels", type := (.array (.object "java/lang/String")), accessFlags := 18, slot := 2, constantValue := 0 }, { name := "linkSources", type := (.array .int), accessFlags := 18, slot := 3, constantValue := 0 }, { name := "linkPredicates", type := (.array .int), accessFlags := 18, slot := 4, constantValue := 0 }, { name := "linkTargets", type := (.array .int), accessFlags := 18, slot := 5, constantValue := 0 }, { name := "linkMemberships", type := (.object "com/example/weser/weser/core/Memberships"), accessFlags := 18, slot := 6, constantValue := 0 }, { name := "literalSubjects", type := (.array .int), accessFlags := 18, slot := 7, constantValue := 0 }, { name := "literalPredicates", type := (.array .int), accessFlags := 18, slot := 8, constantValue := 0 }, { name := "literalMemberships", type := (.object "com/example/weser/weser/core/Memberships"), accessFlags := 18, slot := 9, constantValue := 0 }, { name := "literalObjects", type := (.array .int), accessFlags := 18, slot := 10, constantValue := 0 }, { name := "lexicalForms", type := (.array (.object "java/lang/String")), accessFlags := 18, slot := 11, constantValue := 0 }, { name := "prefixes", type := (.object "com/example/weser/weser/core/Prefixes"), accessFlags := 18, slot := 12, constantValue := 0 }]
  methods := #[k28m0, k28m1]
  instanceTypes := #[(.array (.object "java/lang/String")), (.array (.object "java/lang/String")), (.array (.object "java/lang/String")), (.array .int), (.array .int), (.array .int), (.object "com/example/weser/weser/core/Memberships"), (.array .int), (.array .int), (.object "com/example/weser/weser/core/Memberships"), (.array .int), (.array (.object "java/lang/String")), (.object "com/example/weser/weser/core/Prefixes")]
  staticTypes := #[]
  resolved := Array.replicate 100 none
  statics := none }

def pool29 : Array CpInfo := pool [(1, .methodref 2 3), (0, .class_ 4), (0, .nameAndType 5 6), (0, u "java/lang/Object"), (0, u "<init>"), (0, u "()V"), (0, .class_ 8), (0, u "java/util/LinkedHashMap"), (0, .methodref 7 3), (0, .fieldref 11 12), (0, .class_ 13), (0, .nameAndType 14 15), (0, u "com/example/weser/weser/core/Prefixes"), (0, u "declarations"), (0, u "Ljava/util/Map;"), (58, u "ABSOLUTE"), (0, u "Ljava/util/regex/Pattern;"), (89, u "LETTER_RANGES"), (0, u "[I"), (47, u "INNER_RANGES"), (17, u "ESCAPABLE"), (0, u "Ljava/lang/String;")] 49

def k29c0 : Code := { maxStack := 3, maxLocals := 1, code := prog_25_method_1_code, exceptionTable := #[], attributes := #[] }
def k29m0 : Method := { name := "<init>", desc := "()V", sig := { parameters := [], returnType := none }, accessFlags := 0, code := some k29c0 }
/-- com/example/weser/weser/core/Prefixes -/
def k29 : Class := { plain "com/example/weser/weser/core/Prefixes" (some 0) with
  accessFlags := 49
  interfaces := #[]
  cf := some (fileOf pool29 11 #[] #[{ accessFlags := 0, nameIndex := 5, descriptorIndex := 6, attributes := #[] }] 49 2 #[] #[{ accessFlags := 26, nameIndex := 165, descriptorIndex := 166, attributes := #[] }, { accessFlags := 26, nameIndex := 214, descriptorIndex := 166, attributes := #[] }, { accessFlags := 26, nameIndex := 232, descriptorIndex := 233, attributes := #[] }, { accessFlags := 26, nameIndex := 74, descriptorIndex := 75, attributes := #[] }, { accessFlags := 18, nameIndex := 14, descriptorIndex := 15, attributes := #[] }])
  fields := #[{ name := "LETTER_RANGES", type := (.array .int), accessFlags := 26, slot := 0, constantValue := 0 }, { name := "INNER_RANGES", type := (.array .int), accessFlags := 26, slot := 1, constantValue := 0 }, { name := "ESCAPABLE", type := (.object "java/lang/String"), accessFlags := 26, slot := 2, constantValue := 0 }, { name := "ABSOLUTE", type := (.object "java/util/regex/Pattern"), accessFlags := 26, slot := 3, constantValue := 0 }, { name := "declarations", type := (.object "java/util/Map"), accessFlags := 18, slot := 0, constantValue := 0 }]
  methods := #[k29m0]
  instanceTypes := #[(.object "java/util/Map")]
  staticTypes := #[(.array .int), (.array .int), (.object "java/lang/String"), (.object "java/util/regex/Pattern")]
  resolved := Array.replicate 283 none
  statics := none }

def pool30 : Array CpInfo := pool [(2, .class_ 4), (1, u "java/lang/Object"), (0, u "<init>"), (0, u "()V"), (7, .class_ 16), (1, u "java/util/Arrays"), (57, .class_ 76), (1, u "java/util/Arrays$NaturalOrder"), (36, .class_ 115), (1, u "java/util/Arrays$LegacyMergeSort"), (1, u "Z"), (32, .methodref 151 152), (0, .class_ 153), (0, .nameAndType 154 155), (0, u "java/lang/System"), (0, u "arraycopy"), (0, u "(Ljava/lang/Object;ILjava/lang/Object;II)V"), (146, u "copyOf"), (1, .methodref 305 306), (0, .class_ 307), (0, .nameAndType 308 309), (0, u "java/lang/Math"), (0, u "min"), (0, u "(II)I"), (65, .class_ 376), (0, u "java/util/Arrays$ArrayList"), (68, u "$assertionsDisabled"), (269, u "MIN_ARRAY_SORT_GRAN"), (0, u "I"), (2, u "INSERTIONSORT_THRESHOLD"), (151, u "([II)[I"), (103, .class_ 976), (0, u "java/util/Arrays$ArrayItr")] 52

def k30m0 : Method := { name := "<init>", desc := "()V", sig := { parameters := [], returnType := none }, accessFlags := 2, code := none }
def k30c1 : Code := { maxStack := 6, maxLocals := 3, code := jdk_65_method_123_code, exceptionTable := #[], attributes := #[] }
def k30m1 : Method := { name := "copyOf", desc := "([II)[I", sig := { parameters := [(.array .int), .int], returnType := some (.array .int) }, accessFlags := 9, code := some k30c1 }
/-- java/util/Arrays -/
def k30 : Class := { plain "java/util/Arrays" (some 0) with
  accessFlags := 49
  interfaces := #[]
  cf := some (fileOf pool30 14 #[.nestMembers #[975, 375, 113, 74]] #[{ accessFlags := 2, nameIndex := 5, descriptorIndex := 6, attributes := #[] }, { accessFlags := 9, nameIndex := 302, descriptorIndex := 871, attributes := #[] }] 49 2 #[] #[{ accessFlags := 26, nameIndex := 715, descriptorIndex := 716, attributes := #[] }, { accessFlags := 26, nameIndex := 719, descriptorIndex := 716, attributes := #[] }, { accessFlags := 4120, nameIndex := 445, descriptorIndex := 117, attributes := #[] }])
  fields := #[{ name := "MIN_ARRAY_SORT_GRAN", type := .int, accessFlags := 26, slot := 0, constantValue := 0 }, { name := "INSERTIONSORT_THRESHOLD", type := .int, accessFlags := 26, slot := 1, constantValue := 0 }, { name := "$assertionsDisabled", type := .boolean, accessFlags := 4120, slot := 2, constantValue := 0 }]
  methods := #[k30m0, k30m1]
  instanceTypes := #[]
  staticTypes := #[.int, .int, .boolean]
  resolved := Array.replicate 1029 none
  statics := none }

def pool31 : Array CpInfo := pool [(1, .class_ 2), (0, u "java/lang/Math"), (1, .class_ 6), (1, u "java/lang/Object"), (0, u "<init>"), (0, u "()V"), (89, .class_ 100), (1, u "java/lang/Math$RandomNumberGeneratorHolder"), (71, u "negativeZeroFloatBits"), (0, u "J"), (2, u "negativeZeroDoubleBits"), (24, u "min"), (43, u "$assertionsDisabled"), (0, u "Z"), (88, u "(II)I"), (2, u "twoToTheDoubleScaleDown"), (0, u "D"), (4, u "twoToTheDoubleScaleUp"), (9, u "E"), (3, u "PI"), (2, u "TAU"), (2, u "DEGREES_TO_RADIANS"), (0, u "RADIANS_TO_DEGREES")] 94

def k31m0 : Method := { name := "<init>", desc := "()V", sig := { parameters := [], returnType := none }, accessFlags := 2, code := none }
def k31c1 : Code := { maxStack := 2, maxLocals := 2, code := jdk_29_method_69_code, exceptionTable := #[], attributes := #[] }
def k31m1 : Method := { name := "min", desc := "(II)I", sig := { parameters := [.int, .int], returnType := some .int }, accessFlags := 9, code := some k31c1 }
/-- java/lang/Math -/
def k31 : Class := { plain "java/lang/Math" (some 0) with
  accessFlags := 49
  interfaces := #[]
  cf := some (fileOf pool31 1 #[.nestMembers #[98]] #[{ accessFlags := 2, nameIndex := 7, descriptorIndex := 8, attributes := #[] }, { accessFlags := 9, nameIndex := 201, descriptorIndex := 335, attributes := #[] }] 49 4 #[] #[{ accessFlags := 25, nameIndex := 354, descriptorIndex := 339, attributes := #[] }, { accessFlags := 25, nameIndex := 358, descriptorIndex := 339, attributes := #[] }, { accessFlags := 25, nameIndex := 361, descriptorIndex := 339, attributes := #[] }, { accessFlags := 26, nameIndex := 364, descriptorIndex := 339, attributes := #[] }, { accessFlags := 26, nameIndex := 365, descriptorIndex := 339, attributes := #[] }, { accessFlags := 26, nameIndex := 172, descriptorIndex := 173, attributes := #[] }, { accessFlags := 26, nameIndex := 176, descriptorIndex := 173, attributes := #[] }, { accessFlags := 8, nameIndex := 344, descriptorIndex := 339, attributes := #[] }, { accessFlags := 8, nameIndex := 338, descriptorIndex := 339, attributes := #[] }, { accessFlags := 4120, nameIndex := 245, descriptorIndex := 246, attributes := #[] }])
  fields := #[{ name := "E", type := .double, accessFlags := 25, slot := 0, constantValue := 0 }, { name := "PI", type := .double, accessFlags := 25, slot := 1, constantValue := 0 }, { name := "TAU", type := .double, accessFlags := 25, slot := 2, constantValue := 0 }, { name := "DEGREES_TO_RADIANS", type := .double, accessFlags := 26, slot := 3, constantValue := 0 }, { name := "RADIANS_TO_DEGREES", type := .double, accessFlags := 26, slot := 4, constantValue := 0 }, { name := "negativeZeroFloatBits", type := .long, accessFlags := 26, slot := 5, constantValue := 0 }, { name := "negativeZeroDoubleBits", type := .long, accessFlags := 26, slot := 6, constantValue := 0 }, { name := "twoToTheDoubleScaleUp", type := .double, accessFlags := 8, slot := 7, constantValue := 0 }, { name := "twoToTheDoubleScaleDown", type := .double, accessFlags := 8, slot := 8, constantValue := 0 }, { name := "$assertionsDisabled", type := .boolean, accessFlags := 4120, slot := 9, constantValue := 0 }]
  methods := #[k31m0, k31m1]
  instanceTypes := #[]
  staticTypes := #[.double, .double, .double, .double, .double, .long, .long, .double, .double, .boolean]
  resolved := Array.replicate 460 none
  statics := none }

def pool32 : Array CpInfo := pool [(2, .class_ 4), (1, u "java/lang/Object"), (0, u "<init>"), (0, u "()V"), (1, .class_ 10), (1, u "java/lang/System"), (0, u "allowSecurityManager"), (0, u "I"), (16, u "cons"), (0, u "Ljava/io/Console;"), (77, .class_ 110), (1, u "java/lang/System$CallersHolder"), (43, u "initialErrStream"), (0, u "Ljava/io/PrintStream;"), (19, u "security"), (0, u "Ljava/lang/SecurityManager;"), (31, .class_ 209), (0, u "java/lang/System$1"), (7, u "props"), (0, u "Ljava/util/Properties;"), (2, u "lineSeparator"), (0, u "Ljava/lang/String;"), (96, .class_ 321), (1, u "java/lang/System$LoggerFinder"), (5, .class_ 328), (0, u "java/lang/System$Logger"), (67, u "err"), (2, u "out"), (91, u "notSupportedJnuEncoding"), (15, u "in"), (17, u "initialIn"), (0, u "Ljava/io/InputStream;"), (35, u "bootLayer"), (0, u "Ljava/lang/ModuleLayer;"), (99, .class_ 664), (0, u "java/lang/System$2"), (9, u "NEVER"), (2, u "MAYBE"), (49, u "arraycopy"), (0, u "(Ljava/lang/Object;ILjava/lang/Object;II)V"), (72, .class_ 802), (0, u "java/lang/System$Logger$Level")] 31

def k32m0 : Method := { name := "<init>", desc := "()V", sig := { parameters := [], returnType := none }, accessFlags := 2, code := none }
def k32m1 : Method := { name := "arraycopy", desc := "(Ljava/lang/Object;ILjava/lang/Object;II)V", sig := { parameters := [(.object "java/lang/Object"), .int, (.object "java/lang/Object"), .int, .int], returnType := none }, accessFlags := 265, code := none }
/-- java/lang/System -/
def k32 : Class := { plain "java/lang/System" (some 0) with
  accessFlags := 49
  interfaces := #[]
  cf := some (fileOf pool32 8 #[.nestMembers #[319, 327, 801, 108, 663, 208]] #[{ accessFlags := 2, nameIndex := 5, descriptorIndex := 6, attributes := #[] }, { accessFlags := 265, nameIndex := 727, descriptorIndex := 728, attributes := #[] }] 49 2 #[] #[{ accessFlags := 25, nameIndex := 507, descriptorIndex := 526, attributes := #[] }, { accessFlags := 25, nameIndex := 399, descriptorIndex := 155, attributes := #[] }, { accessFlags := 25, nameIndex := 396, descriptorIndex := 155, attributes := #[] }, { accessFlags := 10, nameIndex := 525, descriptorIndex := 526, attributes := #[] }, { accessFlags := 26, nameIndex := 674, descriptorIndex := 12, attributes := #[] }, { accessFlags := 26, nameIndex := 677, descriptorIndex := 12, attributes := #[] }, { accessFlags := 10, nameIndex := 11, descriptorIndex := 12, attributes := #[] }, { accessFlags := 74, nameIndex := 175, descriptorIndex := 176, attributes := #[] }, { accessFlags := 10, nameIndex := 491, descriptorIndex := 222, attributes := #[] }, { accessFlags := 74, nameIndex := 29, descriptorIndex := 30, attributes := #[] }, { accessFlags := 74, nameIndex := 154, descriptorIndex := 155, attributes := #[] }, { accessFlags := 10, nameIndex := 217, descriptorIndex := 218, attributes := #[] }, { accessFlags := 10, nameIndex := 221, descriptorIndex := 222, attributes := #[] }, { accessFlags := 8, nameIndex := 562, descriptorIndex := 563, attributes := #[] }])
  fields := #[{ name := "in", type := (.object "java/io/InputStream"), accessFlags := 25, slot := 0, constantValue := 0 }, { name := "out", type := (.object "java/io/PrintStream"), accessFlags := 25, slot := 1, constantValue := 0 }, { name := "err", type := (.object "java/io/PrintStream"), accessFlags := 25, slot := 2, constantValue := 0 }, { name := "initialIn", type := (.object "java/io/InputStream"), accessFlags := 10, slot := 3, constantValue := 0 }, { name := "NEVER", type := .int, accessFlags := 26, slot := 4, constantValue := 0 }, { name := "MAYBE", type := .int, accessFlags := 26, slot := 5, constantValue := 0 }, { name := "allowSecurityManager", type := .int, accessFlags := 10, slot := 6, constantValue := 0 }, { name := "security", type := (.object "java/lang/SecurityManager"), accessFlags := 74, slot := 7, constantValue := 0 }, { name := "notSupportedJnuEncoding", type := (.object "java/lang/String"), accessFlags := 10, slot := 8, constantValue := 0 }, { name := "cons", type := (.object "java/io/Console"), accessFlags := 74, slot := 9, constantValue := 0 }, { name := "initialErrStream", type := (.object "java/io/PrintStream"), accessFlags := 74, slot := 10, constantValue := 0 }, { name := "props", type := (.object "java/util/Properties"), accessFlags := 10, slot := 11, constantValue := 0 }, { name := "lineSeparator", type := (.object "java/lang/String"), accessFlags := 10, slot := 12, constantValue := 0 }, { name := "bootLayer", type := (.object "java/lang/ModuleLayer"), accessFlags := 8, slot := 13, constantValue := 0 }]
  methods := #[k32m0, k32m1]
  instanceTypes := #[]
  staticTypes := #[(.object "java/io/InputStream"), (.object "java/io/PrintStream"), (.object "java/io/PrintStream"), (.object "java/io/InputStream"), .int, .int, .int, (.object "java/lang/SecurityManager"), (.object "java/lang/String"), (.object "java/io/Console"), (.object "java/io/PrintStream"), (.object "java/util/Properties"), (.object "java/lang/String"), (.object "java/lang/ModuleLayer")]
  resolved := Array.replicate 834 none
  statics := none }

def pool33 : Array CpInfo := pool [(1, .fieldref 2 3), (0, .class_ 4), (0, .nameAndType 5 6), (0, u "java/util/LinkedHashMap$LinkedKeySet"), (0, u "this$0"), (0, u "Ljava/util/LinkedHashMap;"), (0, .methodref 8 9), (0, .class_ 10), (0, .nameAndType 11 12), (0, u "java/util/AbstractSet"), (0, u "<init>"), (0, u "()V"), (0, .fieldref 2 14), (0, .nameAndType 15 16), (0, u "reversed"), (0, u "Z"), (1, .class_ 20), (1, u "java/util/LinkedHashMap"), (5, .class_ 27), (0, u "java/util/LinkedHashMap$LinkedKeyIterator"), (0, .methodref 26 29), (0, .nameAndType 11 30), (0, u "(Ljava/util/LinkedHashMap;Z)V"), (85, .class_ 117), (0, u "java/util/SequencedSet"), (9, u "iterator"), (0, u "()Ljava/util/Iterator;")] 48

def k33c0 : Code := { maxStack := 2, maxLocals := 3, code := jdk_112_method_1_code, exceptionTable := #[], attributes := #[] }
def k33m0 : Method := { name := "<init>", desc := "(Ljava/util/LinkedHashMap;Z)V", sig := { parameters := [(.object "java/util/LinkedHashMap"), .boolean], returnType := none }, accessFlags := 0, code := some k33c0 }
def k33c1 : Code := { maxStack := 4, maxLocals := 1, code := jdk_112_method_4_code, exceptionTable := #[], attributes := #[] }
def k33m1 : Method := { name := "iterator", desc := "()Ljava/util/Iterator;", sig := { parameters := [], returnType := some (.object "java/util/Iterator") }, accessFlags := 17, code := some k33c1 }
/-- java/util/LinkedHashMap$LinkedKeySet -/
def k33 : Class := { plain "java/util/LinkedHashMap$LinkedKeySet" (some 14) with
  accessFlags := 48
  interfaces := #[18]
  cf := some (fileOf pool33 2 #[.nestHost 18] #[{ accessFlags := 0, nameIndex := 11, descriptorIndex := 30, attributes := #[] }, { accessFlags := 17, nameIndex := 127, descriptorIndex := 128, attributes := #[] }] 48 8 #[116] #[{ accessFlags := 16, nameIndex := 15, descriptorIndex := 16, attributes := #[] }, { accessFlags := 4112, nameIndex := 5, descriptorIndex := 6, attributes := #[] }])
  fields := #[{ name := "reversed", type := .boolean, accessFlags := 16, slot := 0, constantValue := 0 }, { name := "this$0", type := (.object "java/util/LinkedHashMap"), accessFlags := 4112, slot := 1, constantValue := 0 }]
  methods := #[k33m0, k33m1]
  instanceTypes := #[.boolean, (.object "java/util/LinkedHashMap")]
  staticTypes := #[]
  resolved := Array.replicate 177 none
  statics := none }

def pool34 : Array CpInfo := pool [(1, .fieldref 2 3), (0, .class_ 4), (0, .nameAndType 5 6), (0, u "java/util/LinkedHashMap$LinkedHashIterator"), (0, u "this$0"), (0, u "Ljava/util/LinkedHashMap;"), (0, .methodref 8 9), (0, .class_ 10), (0, .nameAndType 11 12), (0, u "java/lang/Object"), (0, u "<init>"), (0, u "()V"), (0, .fieldref 2 14), (0, .nameAndType 15 16), (0, u "reversed"), (0, u "Z"), (1, .class_ 20), (1, u "java/util/LinkedHashMap"), (1, u "Ljava/util/LinkedHashMap$Entry;"), (0, .fieldref 18 24), (0, .nameAndType 25 22), (0, u "head"), (0, .fieldref 2 27), (0, .nameAndType 28 22), (0, u "next"), (0, .fieldref 18 30), (0, .nameAndType 31 32), (0, u "modCount"), (0, u "I"), (0, .fieldref 2 34), (0, .nameAndType 35 32), (0, u "expectedModCount"), (0, .fieldref 2 37), (0, .nameAndType 38 22), (0, u "current"), (32, u "(Ljava/util/LinkedHashMap;Z)V"), (9, u "hasNext"), (0, u "()Z")] 17

def k34c0 : Code := { maxStack := 2, maxLocals := 3, code := jdk_2616_method_1_code, exceptionTable := #[], attributes := #[] }
def k34m0 : Method := { name := "<init>", desc := "(Ljava/util/LinkedHashMap;Z)V", sig := { parameters := [(.object "java/util/LinkedHashMap"), .boolean], returnType := none }, accessFlags := 0, code := some k34c0 }
def k34c1 : Code := { maxStack := 1, maxLocals := 1, code := jdk_2616_method_2_code, exceptionTable := #[], attributes := #[] }
def k34m1 : Method := { name := "hasNext", desc := "()Z", sig := { parameters := [], returnType := some .boolean }, accessFlags := 17, code := some k34c1 }
/-- java/util/LinkedHashMap$LinkedHashIterator -/
def k34 : Class := { plain "java/util/LinkedHashMap$LinkedHashIterator" (some 0) with
  accessFlags := 1056
  interfaces := #[]
  cf := some (fileOf pool34 2 #[.nestHost 18] #[{ accessFlags := 0, nameIndex := 11, descriptorIndex := 71, attributes := #[] }, { accessFlags := 17, nameIndex := 81, descriptorIndex := 82, attributes := #[] }] 1056 8 #[] #[{ accessFlags := 0, nameIndex := 28, descriptorIndex := 22, attributes := #[] }, { accessFlags := 0, nameIndex := 38, descriptorIndex := 22, attributes := #[] }, { accessFlags := 0, nameIndex := 35, descriptorIndex := 32, attributes := #[] }, { accessFlags := 0, nameIndex := 15, descriptorIndex := 16, attributes := #[] }, { accessFlags := 4112, nameIndex := 5, descriptorIndex := 6, attributes := #[] }])
  fields := #[{ name := "next", type := (.object "java/util/LinkedHashMap$Entry"), accessFlags := 0, slot := 0, constantValue := 0 }, { name := "current", type := (.object "java/util/LinkedHashMap$Entry"), accessFlags := 0, slot := 1, constantValue := 0 }, { name := "expectedModCount", type := .int, accessFlags := 0, slot := 2, constantValue := 0 }, { name := "reversed", type := .boolean, accessFlags := 0, slot := 3, constantValue := 0 }, { name := "this$0", type := (.object "java/util/LinkedHashMap"), accessFlags := 4112, slot := 4, constantValue := 0 }]
  methods := #[k34m0, k34m1]
  instanceTypes := #[(.object "java/util/LinkedHashMap$Entry"), (.object "java/util/LinkedHashMap$Entry"), .int, .boolean, (.object "java/util/LinkedHashMap")]
  staticTypes := #[]
  resolved := Array.replicate 100 none
  statics := none }

def pool35 : Array CpInfo := pool [(16, .class_ 18), (1, u "java/util/Iterator"), (0, u "hasNext"), (0, u "()Z"), (10, .class_ 32), (0, u "java/lang/Object")] 20

def k35m0 : Method := { name := "hasNext", desc := "()Z", sig := { parameters := [], returnType := some .boolean }, accessFlags := 1025, code := none }
/-- java/util/Iterator -/
def k35 : Class := { plain "java/util/Iterator" (some 0) with
  accessFlags := 1537
  interfaces := #[]
  cf := some (fileOf pool35 16 #[] #[{ accessFlags := 1025, nameIndex := 19, descriptorIndex := 20, attributes := #[] }] 1537 31 #[] #[])
  fields := #[]
  methods := #[k35m0]
  instanceTypes := #[]
  staticTypes := #[]
  resolved := Array.replicate 53 none
  statics := none }

def pool36 : Array CpInfo := pool [(1, .methodref 2 3), (0, .class_ 4), (0, .nameAndType 5 6), (0, u "java/util/LinkedHashMap$LinkedHashIterator"), (0, u "<init>"), (0, u "(Ljava/util/LinkedHashMap;Z)V"), (1, .class_ 10), (1, u "java/util/LinkedHashMap$LinkedKeyIterator"), (8, .class_ 20), (0, u "java/util/Iterator"), (19, .class_ 41), (0, u "java/util/LinkedHashMap")] 4

def k36c0 : Code := { maxStack := 3, maxLocals := 3, code := jdk_2617_method_1_code, exceptionTable := #[], attributes := #[] }
def k36m0 : Method := { name := "<init>", desc := "(Ljava/util/LinkedHashMap;Z)V", sig := { parameters := [(.object "java/util/LinkedHashMap"), .boolean], returnType := none }, accessFlags := 0, code := some k36c0 }
/-- java/util/LinkedHashMap$LinkedKeyIterator -/
def k36 : Class := { plain "java/util/LinkedHashMap$LinkedKeyIterator" (some 34) with
  accessFlags := 48
  interfaces := #[35]
  cf := some (fileOf pool36 8 #[.nestHost 40] #[{ accessFlags := 0, nameIndex := 5, descriptorIndex := 6, attributes := #[] }] 48 2 #[19] #[])
  fields := #[]
  methods := #[k36m0]
  instanceTypes := #[(.object "java/util/LinkedHashMap$Entry"), (.object "java/util/LinkedHashMap$Entry"), .int, .boolean, (.object "java/util/LinkedHashMap")]
  staticTypes := #[]
  resolved := Array.replicate 46 none
  statics := none }

def pool37 : Array CpInfo := pool [(1, .methodref 2 3), (0, .class_ 4), (0, .nameAndType 5 6), (0, u "java/lang/Object"), (0, u "<init>"), (0, u "()V"), (0, .class_ 8), (0, u "java/lang/Record")] 13

def k37c0 : Code := { maxStack := 1, maxLocals := 1, code := jdk_30_method_1_code, exceptionTable := #[], attributes := #[] }
def k37m0 : Method := { name := "<init>", desc := "()V", sig := { parameters := [], returnType := none }, accessFlags := 4, code := some k37c0 }
/-- java/lang/Record -/
def k37 : Class := { plain "java/lang/Record" (some 0) with
  accessFlags := 1057
  interfaces := #[]
  cf := some (fileOf pool37 7 #[] #[{ accessFlags := 4, nameIndex := 5, descriptorIndex := 6, attributes := #[] }] 1057 2 #[] #[])
  fields := #[]
  methods := #[k37m0]
  instanceTypes := #[]
  staticTypes := #[]
  resolved := Array.replicate 22 none
  statics := none }

def pool38 : Array CpInfo := pool [(1, .methodref 2 3), (0, .class_ 4), (0, .nameAndType 5 6), (0, u "java/lang/Record"), (0, u "<init>"), (0, u "()V"), (0, .fieldref 8 9), (0, .class_ 10), (0, .nameAndType 11 12), (0, u "com/example/weser/weser/core/Memberships"), (0, u "triples"), (0, u "[I"), (0, .fieldref 8 14), (0, .nameAndType 15 12), (0, u "graphs"), (12, u "([I[I)V")] 28

def k38c0 : Code := { maxStack := 2, maxLocals := 3, code := prog_20_method_1_code, exceptionTable := #[], attributes := #[] }
def k38m0 : Method := { name := "<init>", desc := "([I[I)V", sig := { parameters := [(.array .int), (.array .int)], returnType := none }, accessFlags := 0, code := some k38c0 }
/-- com/example/weser/weser/core/Memberships -/
def k38 : Class := { plain "com/example/weser/weser/core/Memberships" (some 37) with
  accessFlags := 48
  interfaces := #[]
  cf := some (fileOf pool38 8 #[] #[{ accessFlags := 0, nameIndex := 5, descriptorIndex := 28, attributes := #[] }] 48 2 #[] #[{ accessFlags := 18, nameIndex := 11, descriptorIndex := 12, attributes := #[] }, { accessFlags := 18, nameIndex := 15, descriptorIndex := 12, attributes := #[] }])
  fields := #[{ name := "triples", type := (.array .int), accessFlags := 18, slot := 0, constantValue := 0 }, { name := "graphs", type := (.array .int), accessFlags := 18, slot := 1, constantValue := 0 }]
  methods := #[k38m0]
  instanceTypes := #[(.array .int), (.array .int)]
  staticTypes := #[]
  resolved := Array.replicate 57 none
  statics := none }

def pool39 : Array CpInfo := pool [(6, .class_ 8), (1, u "java/lang/Object"), (0, u "<init>"), (0, u "()V"), (1, .class_ 14), (1, u "java/lang/StringUTF16"), (31, u "$assertionsDisabled"), (0, u "Z"), (13, u "HI_BYTE_SHIFT"), (0, u "I"), (2, u "LO_BYTE_SHIFT"), (49, .methodref 12 116), (0, .nameAndType 117 118), (0, u "compress"), (0, u "([CI[BII)I"), (3, u "([CII)[B"), (138, u "coderFromArrayLen"), (0, u "([BI)B"), (106, .class_ 371), (1, u "java/lang/StringUTF16$LinesSpliterator"), (58, u "MAX_LENGTH"), (196, .class_ 628), (0, u "java/lang/StringUTF16$CodePointsSpliterator"), (0, .class_ 630), (0, u "java/lang/StringUTF16$CharsSpliterator")] 4

def k39m0 : Method := { name := "<init>", desc := "()V", sig := { parameters := [], returnType := none }, accessFlags := 0, code := none }
def k39c1 : Code := { maxStack := 2, maxLocals := 2, code := jdk_52_method_15_code, exceptionTable := #[], attributes := #[] }
def k39m1 : Method := { name := "coderFromArrayLen", desc := "([BI)B", sig := { parameters := [(.array .byte), .int], returnType := some .byte }, accessFlags := 8, code := some k39c1 }
def k39c2 : Code := { maxStack := 5, maxLocals := 6, code := jdk_52_method_16_code, exceptionTable := #[], attributes := #[] }
def k39m2 : Method := { name := "compress", desc := "([CII)[B", sig := { parameters := [(.array .char), .int, .int], returnType := some (.array .byte) }, accessFlags := 9, code := some k39c2 }
def k39c3 : Code := { maxStack := 3, maxLocals := 7, code := jdk_52_method_21_code, exceptionTable := #[], attributes := #[] }
def k39m3 : Method := { name := "compress", desc := "([CI[BII)I", sig := { parameters := [(.array .char), .int, (.array .byte), .int, .int], returnType := some .int }, accessFlags := 9, code := some k39c3 }
/-- java/lang/StringUTF16 -/
def k39 : Class := { plain "java/lang/StringUTF16" (some 0) with
  accessFlags := 48
  interfaces := #[]
  cf := some (fileOf pool39 12 #[.nestMembers #[627, 629, 369]] #[{ accessFlags := 0, nameIndex := 9, descriptorIndex := 10, attributes := #[] }, { accessFlags := 8, nameIndex := 261, descriptorIndex := 262, attributes := #[] }, { accessFlags := 9, nameIndex := 117, descriptorIndex := 122, attributes := #[] }, { accessFlags := 9, nameIndex := 117, descriptorIndex := 118, attributes := #[] }] 48 6 #[] #[{ accessFlags := 26, nameIndex := 61, descriptorIndex := 62, attributes := #[] }, { accessFlags := 26, nameIndex := 65, descriptorIndex := 62, attributes := #[] }, { accessFlags := 24, nameIndex := 430, descriptorIndex := 62, attributes := #[] }, { accessFlags := 4120, nameIndex := 46, descriptorIndex := 47, attributes := #[] }])
  fields := #[{ name := "HI_BYTE_SHIFT", type := .int, accessFlags := 26, slot := 0, constantValue := 0 }, { name := "LO_BYTE_SHIFT", type := .int, accessFlags := 26, slot := 1, constantValue := 0 }, { name := "MAX_LENGTH", type := .int, accessFlags := 24, slot := 2, constantValue := 0 }, { name := "$assertionsDisabled", type := .boolean, accessFlags := 4120, slot := 3, constantValue := 0 }]
  methods := #[k39m0, k39m1, k39m2, k39m3]
  instanceTypes := #[]
  staticTypes := #[.int, .int, .int, .boolean]
  resolved := Array.replicate 635 none
  statics := none }

def pool40 : Array CpInfo := pool [(2, .class_ 4), (1, u "java/lang/Object"), (0, u "<init>"), (0, u "()V"), (17, .class_ 26), (1, u "jdk/internal/util/Preconditions"), (28, .class_ 56), (0, u "jdk/internal/util/Preconditions$4"), (57, .class_ 115), (0, u "jdk/internal/util/Preconditions$1"), (7, u "SIOOBE_FORMATTER"), (0, u "Ljava/util/function/BiFunction;"), (0, .class_ 126), (0, u "jdk/internal/util/Preconditions$2"), (3, u "AIOOBE_FORMATTER"), (0, .class_ 132), (0, u "jdk/internal/util/Preconditions$3"), (3, u "IOOBE_FORMATTER")] 57

def k40m0 : Method := { name := "<init>", desc := "()V", sig := { parameters := [], returnType := none }, accessFlags := 1, code := none }
/-- jdk/internal/util/Preconditions -/
def k40 : Class := { plain "jdk/internal/util/Preconditions" (some 0) with
  accessFlags := 33
  interfaces := #[]
  cf := some (fileOf pool40 24 #[.nestMembers #[55, 131, 125, 114]] #[{ accessFlags := 1, nameIndex := 5, descriptorIndex := 6, attributes := #[] }] 33 2 #[] #[{ accessFlags := 25, nameIndex := 123, descriptorIndex := 124, attributes := #[] }, { accessFlags := 25, nameIndex := 130, descriptorIndex := 124, attributes := #[] }, { accessFlags := 25, nameIndex := 136, descriptorIndex := 124, attributes := #[] }])
  fields := #[{ name := "SIOOBE_FORMATTER", type := (.object "java/util/function/BiFunction"), accessFlags := 25, slot := 0, constantValue := 0 }, { name := "AIOOBE_FORMATTER", type := (.object "java/util/function/BiFunction"), accessFlags := 25, slot := 1, constantValue := 0 }, { name := "IOOBE_FORMATTER", type := (.object "java/util/function/BiFunction"), accessFlags := 25, slot := 2, constantValue := 0 }]
  methods := #[k40m0]
  instanceTypes := #[]
  staticTypes := #[(.object "java/util/function/BiFunction"), (.object "java/util/function/BiFunction"), (.object "java/util/function/BiFunction")]
  resolved := Array.replicate 194 none
  statics := some 1 }

def pool41 : Array CpInfo := pool [(9, u "<init>"), (6, .class_ 18), (1, u "java/lang/Object"), (0, u "()V"), (1, .class_ 23), (1, u "jdk/internal/util/ArraysSupport"), (0, u "LOG2_ARRAY_LONG_INDEX_SCALE"), (0, u "I"), (2, u "U"), (0, u "Ljdk/internal/misc/Unsafe;"), (8, u "BIG_ENDIAN"), (0, u "Z"), (8, u "LOG2_BYTE_BIT_SIZE"), (4, u "LOG2_ARRAY_INT_INDEX_SCALE"), (54, u "JLA"), (0, u "Ljdk/internal/access/JavaLangAccess;"), (11, u "LOG2_ARRAY_BOOLEAN_INDEX_SCALE"), (9, u "LOG2_ARRAY_BYTE_INDEX_SCALE"), (5, u "LOG2_ARRAY_CHAR_INDEX_SCALE"), (5, u "LOG2_ARRAY_SHORT_INDEX_SCALE"), (18, u "LOG2_ARRAY_FLOAT_INDEX_SCALE"), (24, u "LOG2_ARRAY_DOUBLE_INDEX_SCALE"), (89, u "T_BOOLEAN"), (2, u "T_CHAR"), (1, u "T_FLOAT"), (1, u "T_DOUBLE"), (1, u "T_BYTE"), (1, u "T_SHORT"), (1, u "T_INT"), (1, u "T_LONG"), (1, u "SOFT_MAX_ARRAY_LENGTH")] 83

def k41m0 : Method := { name := "<init>", desc := "()V", sig := { parameters := [], returnType := none }, accessFlags := 2, code := none }
/-- jdk/internal/util/ArraysSupport -/
def k41 : Class := { plain "jdk/internal/util/ArraysSupport" (some 0) with
  accessFlags := 33
  interfaces := #[]
  cf := some (fileOf pool41 21 #[] #[{ accessFlags := 2, nameIndex := 9, descriptorIndex := 19, attributes := #[] }] 33 16 #[] #[{ accessFlags := 24, nameIndex := 28, descriptorIndex := 29, attributes := #[] }, { accessFlags := 26, nameIndex := 38, descriptorIndex := 39, attributes := #[] }, { accessFlags := 25, nameIndex := 121, descriptorIndex := 25, attributes := #[] }, { accessFlags := 25, nameIndex := 131, descriptorIndex := 25, attributes := #[] }, { accessFlags := 25, nameIndex := 137, descriptorIndex := 25, attributes := #[] }, { accessFlags := 25, nameIndex := 143, descriptorIndex := 25, attributes := #[] }, { accessFlags := 25, nameIndex := 53, descriptorIndex := 25, attributes := #[] }, { accessFlags := 25, nameIndex := 24, descriptorIndex := 25, attributes := #[] }, { accessFlags := 25, nameIndex := 162, descriptorIndex := 25, attributes := #[] }, { accessFlags := 25, nameIndex := 187, descriptorIndex := 25, attributes := #[] }, { accessFlags := 26, nameIndex := 48, descriptorIndex := 25, attributes := #[] }, { accessFlags := 25, nameIndex := 277, descriptorIndex := 25, attributes := #[] }, { accessFlags := 25, nameIndex := 280, descriptorIndex := 25, attributes := #[] }, { accessFlags := 25, nameIndex := 282, descriptorIndex := 25, attributes := #[] }, { accessFlags := 25, nameIndex := 284, descriptorIndex := 25, attributes := #[] }, { accessFlags := 25, nameIndex := 286, descriptorIndex := 25, attributes := #[] }, { accessFlags := 25, nameIndex := 288, descriptorIndex := 25, attributes := #[] }, { accessFlags := 25, nameIndex := 290, descriptorIndex := 25, attributes := #[] }, { accessFlags := 25, nameIndex := 292, descriptorIndex := 25, attributes := #[] }, { accessFlags := 26, nameIndex := 108, descriptorIndex := 109, attributes := #[] }, { accessFlags := 25, nameIndex := 294, descriptorIndex := 25, attributes := #[] }])
  fields := #[{ name := "U", type := (.object "jdk/internal/misc/Unsafe"), accessFlags := 24, slot := 0, constantValue := 0 }, { name := "BIG_ENDIAN", type := .boolean, accessFlags := 26, slot := 1, constantValue := 0 }, { name := "LOG2_ARRAY_BOOLEAN_INDEX_SCALE", type := .int, accessFlags := 25, slot := 2, constantValue := 0 }, { name := "LOG2_ARRAY_BYTE_INDEX_SCALE", type := .int, accessFlags := 25, slot := 3, constantValue := 0 }, { name := "LOG2_ARRAY_CHAR_INDEX_SCALE", type := .int, accessFlags := 25, slot := 4, constantValue := 0 }, { name := "LOG2_ARRAY_SHORT_INDEX_SCALE", type := .int, accessFlags := 25, slot := 5, constantValue := 0 }, { name := "LOG2_ARRAY_INT_INDEX_SCALE", type := .int, accessFlags := 25, slot := 6, constantValue := 0 }, { name := "LOG2_ARRAY_LONG_INDEX_SCALE", type := .int, accessFlags := 25, slot := 7, constantValue := 0 }, { name := "LOG2_ARRAY_FLOAT_INDEX_SCALE", type := .int, accessFlags := 25, slot := 8, constantValue := 0 }, { name := "LOG2_ARRAY_DOUBLE_INDEX_SCALE", type := .int, accessFlags := 25, slot := 9, constantValue := 0 }, { name := "LOG2_BYTE_BIT_SIZE", type := .int, accessFlags := 26, slot := 10, constantValue := 0 }, { name := "T_BOOLEAN", type := .int, accessFlags := 25, slot := 11, constantValue := 0 }, { name := "T_CHAR", type := .int, accessFlags := 25, slot := 12, constantValue := 0 }, { name := "T_FLOAT", type := .int, accessFlags := 25, slot := 13, constantValue := 0 }, { name := "T_DOUBLE", type := .int, accessFlags := 25, slot := 14, constantValue := 0 }, { name := "T_BYTE", type := .int, accessFlags := 25, slot := 15, constantValue := 0 }, { name := "T_SHORT", type := .int, accessFlags := 25, slot := 16, constantValue := 0 }, { name := "T_INT", type := .int, accessFlags := 25, slot := 17, constantValue := 0 }, { name := "T_LONG", type := .int, accessFlags := 25, slot := 18, constantValue := 0 }, { name := "JLA", type := (.object "jdk/internal/access/JavaLangAccess"), accessFlags := 26, slot := 19, constantValue := 0 }, { name := "SOFT_MAX_ARRAY_LENGTH", type := .int, accessFlags := 25, slot := 20, constantValue := 0 }]
  methods := #[k41m0]
  instanceTypes := #[]
  staticTypes := #[(.object "jdk/internal/misc/Unsafe"), .boolean, .int, .int, .int, .int, .int, .int, .int, .int, .int, .int, .int, .int, .int, .int, .int, .int, .int, (.object "jdk/internal/access/JavaLangAccess"), .int]
  resolved := Array.replicate 378 none
  statics := none }

/-- the primitive byte -/
def k42 : Class := { plain "byte" none with kind := .primitive 'B', accessFlags := 0x411 }
/-- [B -/
def k43 : Class := { plain "[B" (some 0) with kind := .array 42 .byte, interfaces := #[15, 2], accessFlags := 1041 }

/-- the primitive char -/
def k44 : Class := { plain "char" none with kind := .primitive 'C', accessFlags := 0x411 }
/-- [C -/
def k45 : Class := { plain "[C" (some 0) with kind := .array 44 .char, interfaces := #[15, 2], accessFlags := 1041 }

/-- the primitive int -/
def k46 : Class := { plain "int" none with kind := .primitive 'I', accessFlags := 0x411 }
/-- [I -/
def k47 : Class := { plain "[I" (some 0) with kind := .array 46 .int, interfaces := #[15, 2], accessFlags := 1041 }

/-- [Ljava/lang/String; -/
def k48 : Class := { plain "[Ljava/lang/String;" (some 0) with kind := .array 7 (.object "java/lang/String"), interfaces := #[15, 2], accessFlags := 1041 }

def heap : Heap := #[{ cls := 7, slots := #[.long 0, .int 1, .null, .int 0, .null, .int 0, .int 0], vm := .statics 7 },
  { cls := 40, slots := #[.null, .null, .null], vm := .statics 40 }]
def classes : Array Class := #[k0, k1, k2, k3, k4, k5, k6, k7, k8, k9, k10, k11, k12, k13, k14, k15, k16, k17, k18, k19, k20, k21, k22, k23, k24, k25, k26, k27, k28, k29, k30, k31, k32, k33, k34, k35, k36, k37, k38, k39, k40, k41, k42, k43, k44, k45, k46, k47, k48]
def interned : List (Array UInt16 × Addr) := []
def slotsUsed : Nat := 10
def theMethod : MethodId := ⟨1, 1⟩
def args0 : Array Value := #[.int 5, .int 7, .int 4, .int 3, .int 9]
def aboutOver (below : List Frame) : State where
  vm := { classes := classes, interned := interned.toArray }
  heap := heap
  slotsUsed := slotsUsed
  threads := #[{ frames := .invoking theMethod args0 :: below }]
def below0 : List Frame := [.native { method := ⟨0, 0⟩, args := #[] }]
def about1 : State := aboutOver below0
def p0 : Program := .bare "" "" ""
def e0 : Env := launch0.env 0 0 0
theorem w_frames : about1.frames = Frame.invoking theMethod args0 :: below0 := rfl
set_option maxRecDepth 65536 in
theorem w_args : argsFit about1.vm theMethod args0 = true := by decide +kernel
set_option maxRecDepth 65536 in
theorem w_heap : heapFits about1 = true := by decide +kernel
set_option maxRecDepth 65536 in
theorem w_runnable : about1.curStatus? = some .runnable := by decide +kernel
set_option maxRecDepth 65536 in
theorem w_alone : about1.alone = true := by decide +kernel
set_option maxRecDepth 65536 in
theorem w_named : about1.methodNamed? x = some theMethod := by decide +kernel
set_option maxRecDepth 65536 in
theorem w_hears : about1.hears theMethod below0 = true := by decide +kernel
set_option maxRecDepth 65536 in
theorem w_ripe : about1.ripe theMethod args0 below0 = true := by decide +kernel
theorem w_running : about1.status = .running := rfl
set_option maxRecDepth 65536 in
theorem w_room : about1.hasRoom e0.platform room_1 = true :=
  launch0.hasRoom_least _ room_1 (by decide +kernel) (by decide +kernel) (by decide +kernel) (by decide +kernel) (by decide +kernel) (by decide +kernel)
theorem allAtoms_all (ts : List Jvm.Cond) (a : Array Jvm.Value) (st : Jvm.State) : (allAtoms ts).before a st = ts.all (fun c => c.before a st) := by
  induction ts with
  | nil => rfl
  | cons c t ih =>
    show (Jvm.Cond.and c (allAtoms t)).before a st = _
    rw [Jvm.Cond.before_and, ih, List.all_cons]
def words1 : List Jvm.Cond := Jvm.Cond.code x code maxLocals ret :: tables_1
/-- a 'code' word, met by the world's own term for the bytes: nothing is compared byte by byte -/
theorem code_word {y : MethodName} {bytes : ByteArray} {mx : Nat} {rt : Option FieldType} {a : Array Value} {s : State} {m : MethodId} {meth : Method} {c : Code} (h1 : s.methodNamed? y = some m) (h2 : s.vm.method? m = some meth) (h3 : meth.code = some c) (h4 : c.code = bytes)
    (h5 : (c.maxLocals == mx && c.exceptionTable.isEmpty && decide (c.maxStack ≤ mostOperands) && decide (meth.sig.returnType = rt) && !meth.locks && decide (parseMethodDescriptor y.desc = some meth.sig)) = true) : (Jvm.Cond.code y bytes mx rt).before a s = true := by
  simp only [Bool.and_eq_true, beq_iff_eq, Bool.not_eq_true', decide_eq_true_eq] at h5
  obtain ⟨⟨⟨⟨⟨g1, g2⟩, g3⟩, g4⟩, g5⟩, g6⟩ := h5
  simp [Cond.before, Cond.holds, Cond.value, h1, h2, h3, h4, g1, g2, g3, g4, g5, g6]
def isCode : Jvm.Cond → Bool
  | .code _ _ _ _ => true
  | _ => false
theorem all_split {L : List Jvm.Cond} {P : Jvm.Cond → Bool} (h1 : L.all (fun c => isCode c || P c) = true) (h2 : ∀ c ∈ L.filter isCode, P c = true) : L.all P = true := by
  refine List.all_eq_true.mpr fun c hc => ?_
  have h := List.all_eq_true.mp h1 c hc
  rcases Bool.eq_false_or_eq_true (isCode c) with hi | hi
  · exact h2 c (List.mem_filter.mpr ⟨hc, hi⟩)
  · simpa [hi] using h
set_option maxRecDepth 65536 in
theorem w_c0 : (Jvm.Cond.code x code maxLocals ret).before args0 about1 = true := code_word (m := ⟨1, 1⟩) (meth := k1m1) (c := k1c1) (by decide +kernel) rfl rfl rfl (by decide +kernel)
set_option maxRecDepth 65536 in
theorem w_c1 : (Jvm.Cond.code ({ cls := "com/example/weser/weser/core/RdfGraphNodePinLaw", name := "entry", desc := "(ICI)Ljava/lang/String;" } : Jvm.MethodName) method_3_code (3 : Nat) (Option.some (Jvm.ClassFile.FieldType.object "java/lang/String"))).before args0 about1 = true := code_word (m := ⟨1, 2⟩) (meth := k1m2) (c := k1c2) (by decide +kernel) rfl rfl rfl (by decide +kernel)
set_option maxRecDepth 65536 in
theorem w_c2 : (Jvm.Cond.code ({ cls := "java/lang/String", name := "valueOf", desc := "(C)Ljava/lang/String;" } : Jvm.MethodName) jdk_42_method_139_code (1 : Nat) (Option.some (Jvm.ClassFile.FieldType.object "java/lang/String"))).before args0 about1 = true := code_word (m := ⟨7, 3⟩) (meth := k7m3) (c := k7c3) (by decide +kernel) rfl rfl rfl (by decide +kernel)
set_option maxRecDepth 65536 in
theorem w_c3 : (Jvm.Cond.code ({ cls := "java/lang/StringLatin1", name := "canEncode", desc := "(C)Z" } : Jvm.MethodName) jdk_43_method_3_code (1 : Nat) (Option.some Jvm.ClassFile.FieldType.boolean)).before args0 about1 = true := code_word (m := ⟨8, 1⟩) (meth := k8m1) (c := k8c1) (by decide +kernel) rfl rfl rfl (by decide +kernel)
set_option maxRecDepth 65536 in
theorem w_c4 : (Jvm.Cond.code ({ cls := "java/lang/StringLatin1", name := "toBytes", desc := "(C)[B" } : Jvm.MethodName) jdk_43_method_46_code (1 : Nat) (Option.some (Jvm.ClassFile.FieldType.array Jvm.ClassFile.FieldType.byte))).before args0 about1 = true := code_word (m := ⟨8, 3⟩) (meth := k8m3) (c := k8c3) (by decide +kernel) rfl rfl rfl (by decide +kernel)
set_option maxRecDepth 65536 in
theorem w_c5 : (Jvm.Cond.code ({ cls := "java/lang/String", name := "<init>", desc := "([BB)V" } : Jvm.MethodName) jdk_42_method_151_code (3 : Nat) (Option.none : Option Jvm.ClassFile.FieldType)).before args0 about1 = true := code_word (m := ⟨7, 5⟩) (meth := k7m5) (c := k7c5) (by decide +kernel) rfl rfl rfl (by decide +kernel)
set_option maxRecDepth 65536 in
theorem w_c6 : (Jvm.Cond.code ({ cls := "java/lang/Object", name := "<init>", desc := "()V" } : Jvm.MethodName) object_method_1_code (1 : Nat) (Option.none : Option Jvm.ClassFile.FieldType)).before args0 about1 = true := code_word (m := ⟨0, 0⟩) (meth := k0m0) (c := k0c0) (by decide +kernel) rfl rfl rfl (by decide +kernel)
set_option maxRecDepth 65536 in
theorem w_c7 : (Jvm.Cond.code ({ cls := "com/example/weser/weser/core/TripleTable", name := "<init>", desc := "()V" } : Jvm.MethodName) prog_37_method_1_code (1 : Nat) (Option.none : Option Jvm.ClassFile.FieldType)).before args0 about1 = true := code_word (m := ⟨9, 0⟩) (meth := k9m0) (c := k9c0) (by decide +kernel) rfl rfl rfl (by decide +kernel)
set_option maxRecDepth 65536 in
theorem w_c8 : (Jvm.Cond.code ({ cls := "java/util/LinkedHashSet", name := "<init>", desc := "()V" } : Jvm.MethodName) jdk_2620_method_3_code (1 : Nat) (Option.none : Option Jvm.ClassFile.FieldType)).before args0 about1 = true := code_word (m := ⟨19, 0⟩) (meth := k19m0) (c := k19c0) (by decide +kernel) rfl rfl rfl (by decide +kernel)
set_option maxRecDepth 65536 in
theorem w_c9 : (Jvm.Cond.code ({ cls := "java/util/HashSet", name := "<init>", desc := "(IFZ)V" } : Jvm.MethodName) jdk_93_method_5_code (4 : Nat) (Option.none : Option Jvm.ClassFile.FieldType)).before args0 about1 = true := code_word (m := ⟨16, 1⟩) (meth := k16m1) (c := k16c1) (by decide +kernel) rfl rfl rfl (by decide +kernel)
set_option maxRecDepth 65536 in
theorem w_c10 : (Jvm.Cond.code ({ cls := "java/util/AbstractSet", name := "<init>", desc := "()V" } : Jvm.MethodName) jdk_91_method_1_code (1 : Nat) (Option.none : Option Jvm.ClassFile.FieldType)).before args0 about1 = true := code_word (m := ⟨14, 0⟩) (meth := k14m0) (c := k14c0) (by decide +kernel) rfl rfl rfl (by decide +kernel)
set_option maxRecDepth 65536 in
theorem w_c11 : (Jvm.Cond.code ({ cls := "java/util/AbstractCollection", name := "<init>", desc := "()V" } : Jvm.MethodName) jdk_22_method_1_code (1 : Nat) (Option.none : Option Jvm.ClassFile.FieldType)).before args0 about1 = true := code_word (m := ⟨12, 0⟩) (meth := k12m0) (c := k12c0) (by decide +kernel) rfl rfl rfl (by decide +kernel)
set_option maxRecDepth 65536 in
theorem w_c12 : (Jvm.Cond.code ({ cls := "java/util/LinkedHashMap", name := "<init>", desc := "(IF)V" } : Jvm.MethodName) jdk_94_method_14_code (3 : Nat) (Option.none : Option Jvm.ClassFile.FieldType)).before args0 about1 = true := code_word (m := ⟨24, 0⟩) (meth := k24m0) (c := k24c0) (by decide +kernel) rfl rfl rfl (by decide +kernel)
set_option maxRecDepth 65536 in
theorem w_c13 : (Jvm.Cond.code ({ cls := "java/util/HashMap", name := "<init>", desc := "(IF)V" } : Jvm.MethodName) jdk_69_method_5_code (3 : Nat) (Option.none : Option Jvm.ClassFile.FieldType)).before args0 about1 = true := code_word (m := ⟨22, 1⟩) (meth := k22m1) (c := k22c1) (by decide +kernel) rfl rfl rfl (by decide +kernel)
set_option maxRecDepth 65536 in
theorem w_c14 : (Jvm.Cond.code ({ cls := "java/util/AbstractMap", name := "<init>", desc := "()V" } : Jvm.MethodName) jdk_71_method_1_code (1 : Nat) (Option.none : Option Jvm.ClassFile.FieldType)).before args0 about1 = true := code_word (m := ⟨21, 0⟩) (meth := k21m0) (c := k21c0) (by decide +kernel) rfl rfl rfl (by decide +kernel)
set_option maxRecDepth 65536 in
theorem w_c15 : (Jvm.Cond.code ({ cls := "java/lang/Float", name := "isNaN", desc := "(F)Z" } : Jvm.MethodName) jdk_118_method_6_code (1 : Nat) (Option.some Jvm.ClassFile.FieldType.boolean)).before args0 about1 = true := code_word (m := ⟨26, 0⟩) (meth := k26m0) (c := k26c0) (by decide +kernel) rfl rfl rfl (by decide +kernel)
set_option maxRecDepth 65536 in
theorem w_c16 : (Jvm.Cond.code ({ cls := "java/util/HashMap", name := "tableSizeFor", desc := "(I)I" } : Jvm.MethodName) jdk_69_method_4_code (2 : Nat) (Option.some Jvm.ClassFile.FieldType.int)).before args0 about1 = true := code_word (m := ⟨22, 0⟩) (meth := k22m0) (c := k22c0) (by decide +kernel) rfl rfl rfl (by decide +kernel)
set_option maxRecDepth 65536 in
theorem w_c17 : (Jvm.Cond.code ({ cls := "java/lang/Integer", name := "numberOfLeadingZeros", desc := "(I)I" } : Jvm.MethodName) jdk_33_method_47_code (2 : Nat) (Option.some Jvm.ClassFile.FieldType.int)).before args0 about1 = true := code_word (m := ⟨27, 0⟩) (meth := k27m0) (c := k27c0) (by decide +kernel) rfl rfl rfl (by decide +kernel)
set_option maxRecDepth 65536 in
theorem w_c18 : (Jvm.Cond.code ({ cls := "com/example/weser/weser/core/Prefixes", name := "<init>", desc := "()V" } : Jvm.MethodName) prog_25_method_1_code (1 : Nat) (Option.none : Option Jvm.ClassFile.FieldType)).before args0 about1 = true := code_word (m := ⟨29, 0⟩) (meth := k29m0) (c := k29c0) (by decide +kernel) rfl rfl rfl (by decide +kernel)
set_option maxRecDepth 65536 in
theorem w_c19 : (Jvm.Cond.code ({ cls := "java/util/LinkedHashMap", name := "<init>", desc := "()V" } : Jvm.MethodName) jdk_94_method_16_code (1 : Nat) (Option.none : Option Jvm.ClassFile.FieldType)).before args0 about1 = true := code_word (m := ⟨24, 1⟩) (meth := k24m1) (c := k24c1) (by decide +kernel) rfl rfl rfl (by decide +kernel)
set_option maxRecDepth 65536 in
theorem w_c20 : (Jvm.Cond.code ({ cls := "java/util/HashMap", name := "<init>", desc := "()V" } : Jvm.MethodName) jdk_69_method_7_code (1 : Nat) (Option.none : Option Jvm.ClassFile.FieldType)).before args0 about1 = true := code_word (m := ⟨22, 2⟩) (meth := k22m2) (c := k22c2) (by decide +kernel) rfl rfl rfl (by decide +kernel)
set_option maxRecDepth 65536 in
theorem w_c21 : (Jvm.Cond.code ({ cls := "com/example/weser/weser/core/RdfGraph", name := "<init>", desc := "([Ljava/lang/String;[Ljava/lang/String;[Ljava/lang/String;Lcom/example/weser/weser/core/TripleTable;Lcom/example/weser/weser/core/TripleTable;[Ljava/lang/String;Lcom/example/weser/weser/core/Prefixes;)V" } : Jvm.MethodName) prog_29_method_1_code (8 : Nat) (Option.none : Option Jvm.ClassFile.FieldType)).before args0 about1 = true := code_word (m := ⟨28, 0⟩) (meth := k28m0) (c := k28c0) (by decide +kernel) rfl rfl rfl (by decide +kernel)
set_option maxRecDepth 65536 in
theorem w_c22 : (Jvm.Cond.code ({ cls := "com/example/weser/weser/core/TripleTable", name := "subjects", desc := "()[I" } : Jvm.MethodName) prog_37_method_3_code (1 : Nat) (Option.some (Jvm.ClassFile.FieldType.array Jvm.ClassFile.FieldType.int))).before args0 about1 = true := code_word (m := ⟨9, 1⟩) (meth := k9m1) (c := k9c1) (by decide +kernel) rfl rfl rfl (by decide +kernel)
set_option maxRecDepth 65536 in
theorem w_c23 : (Jvm.Cond.code ({ cls := "java/util/Arrays", name := "copyOf", desc := "([II)[I" } : Jvm.MethodName) jdk_65_method_123_code (3 : Nat) (Option.some (Jvm.ClassFile.FieldType.array Jvm.ClassFile.FieldType.int))).before args0 about1 = true := code_word (m := ⟨30, 1⟩) (meth := k30m1) (c := k30c1) (by decide +kernel) rfl rfl rfl (by decide +kernel)
set_option maxRecDepth 65536 in
theorem w_c24 : (Jvm.Cond.code ({ cls := "java/lang/Math", name := "min", desc := "(II)I" } : Jvm.MethodName) jdk_29_method_69_code (2 : Nat) (Option.some Jvm.ClassFile.FieldType.int)).before args0 about1 = true := code_word (m := ⟨31, 1⟩) (meth := k31m1) (c := k31c1) (by decide +kernel) rfl rfl rfl (by decide +kernel)
set_option maxRecDepth 65536 in
theorem w_c25 : (Jvm.Cond.code ({ cls := "com/example/weser/weser/core/TripleTable", name := "predicates", desc := "()[I" } : Jvm.MethodName) prog_37_method_4_code (1 : Nat) (Option.some (Jvm.ClassFile.FieldType.array Jvm.ClassFile.FieldType.int))).before args0 about1 = true := code_word (m := ⟨9, 2⟩) (meth := k9m2) (c := k9c2) (by decide +kernel) rfl rfl rfl (by decide +kernel)
set_option maxRecDepth 65536 in
theorem w_c26 : (Jvm.Cond.code ({ cls := "com/example/weser/weser/core/TripleTable", name := "objects", desc := "()[I" } : Jvm.MethodName) prog_37_method_5_code (1 : Nat) (Option.some (Jvm.ClassFile.FieldType.array Jvm.ClassFile.FieldType.int))).before args0 about1 = true := code_word (m := ⟨9, 3⟩) (meth := k9m3) (c := k9c3) (by decide +kernel) rfl rfl rfl (by decide +kernel)
set_option maxRecDepth 65536 in
theorem w_c27 : (Jvm.Cond.code ({ cls := "com/example/weser/weser/core/TripleTable", name := "memberships", desc := "()Lcom/example/weser/weser/core/Memberships;" } : Jvm.MethodName) prog_37_method_6_code (8 : Nat) (Option.some (Jvm.ClassFile.FieldType.object "com/example/weser/weser/core/Memberships"))).before args0 about1 = true := code_word (m := ⟨9, 4⟩) (meth := k9m4) (c := k9c4) (by decide +kernel) rfl rfl rfl (by decide +kernel)
set_option maxRecDepth 65536 in
theorem w_c28 : (Jvm.Cond.code ({ cls := "java/util/HashSet", name := "size", desc := "()I" } : Jvm.MethodName) jdk_93_method_7_code (1 : Nat) (Option.some Jvm.ClassFile.FieldType.int)).before args0 about1 = true := code_word (m := ⟨16, 3⟩) (meth := k16m3) (c := k16c3) (by decide +kernel) rfl rfl rfl (by decide +kernel)
set_option maxRecDepth 65536 in
theorem w_c29 : (Jvm.Cond.code ({ cls := "java/util/HashMap", name := "size", desc := "()I" } : Jvm.MethodName) jdk_69_method_10_code (1 : Nat) (Option.some Jvm.ClassFile.FieldType.int)).before args0 about1 = true := code_word (m := ⟨22, 3⟩) (meth := k22m3) (c := k22c3) (by decide +kernel) rfl rfl rfl (by decide +kernel)
set_option maxRecDepth 65536 in
theorem w_c30 : (Jvm.Cond.code ({ cls := "java/util/HashSet", name := "iterator", desc := "()Ljava/util/Iterator;" } : Jvm.MethodName) jdk_93_method_6_code (1 : Nat) (Option.some (Jvm.ClassFile.FieldType.object "java/util/Iterator"))).before args0 about1 = true := code_word (m := ⟨16, 2⟩) (meth := k16m2) (c := k16c2) (by decide +kernel) rfl rfl rfl (by decide +kernel)
set_option maxRecDepth 65536 in
theorem w_c31 : (Jvm.Cond.code ({ cls := "java/util/LinkedHashMap", name := "keySet", desc := "()Ljava/util/Set;" } : Jvm.MethodName) jdk_94_method_24_code (1 : Nat) (Option.some (Jvm.ClassFile.FieldType.object "java/util/Set"))).before args0 about1 = true := code_word (m := ⟨24, 2⟩) (meth := k24m2) (c := k24c2) (by decide +kernel) rfl rfl rfl (by decide +kernel)
set_option maxRecDepth 65536 in
theorem w_c32 : (Jvm.Cond.code ({ cls := "java/util/LinkedHashMap", name := "sequencedKeySet", desc := "()Ljava/util/SequencedSet;" } : Jvm.MethodName) jdk_94_method_25_code (3 : Nat) (Option.some (Jvm.ClassFile.FieldType.object "java/util/SequencedSet"))).before args0 about1 = true := code_word (m := ⟨24, 3⟩) (meth := k24m3) (c := k24c3) (by decide +kernel) rfl rfl rfl (by decide +kernel)
set_option maxRecDepth 65536 in
theorem w_c33 : (Jvm.Cond.code ({ cls := "java/util/LinkedHashMap$LinkedKeySet", name := "<init>", desc := "(Ljava/util/LinkedHashMap;Z)V" } : Jvm.MethodName) jdk_112_method_1_code (3 : Nat) (Option.none : Option Jvm.ClassFile.FieldType)).before args0 about1 = true := code_word (m := ⟨33, 0⟩) (meth := k33m0) (c := k33c0) (by decide +kernel) rfl rfl rfl (by decide +kernel)
set_option maxRecDepth 65536 in
theorem w_c34 : (Jvm.Cond.code ({ cls := "java/util/LinkedHashMap$LinkedKeySet", name := "iterator", desc := "()Ljava/util/Iterator;" } : Jvm.MethodName) jdk_112_method_4_code (1 : Nat) (Option.some (Jvm.ClassFile.FieldType.object "java/util/Iterator"))).before args0 about1 = true := code_word (m := ⟨33, 1⟩) (meth := k33m1) (c := k33c1) (by decide +kernel) rfl rfl rfl (by decide +kernel)
set_option maxRecDepth 65536 in
theorem w_c35 : (Jvm.Cond.code ({ cls := "java/util/LinkedHashMap$LinkedKeyIterator", name := "<init>", desc := "(Ljava/util/LinkedHashMap;Z)V" } : Jvm.MethodName) jdk_2617_method_1_code (3 : Nat) (Option.none : Option Jvm.ClassFile.FieldType)).before args0 about1 = true := code_word (m := ⟨36, 0⟩) (meth := k36m0) (c := k36c0) (by decide +kernel) rfl rfl rfl (by decide +kernel)
set_option maxRecDepth 65536 in
theorem w_c36 : (Jvm.Cond.code ({ cls := "java/util/LinkedHashMap$LinkedHashIterator", name := "<init>", desc := "(Ljava/util/LinkedHashMap;Z)V" } : Jvm.MethodName) jdk_2616_method_1_code (3 : Nat) (Option.none : Option Jvm.ClassFile.FieldType)).before args0 about1 = true := code_word (m := ⟨34, 0⟩) (meth := k34m0) (c := k34c0) (by decide +kernel) rfl rfl rfl (by decide +kernel)
set_option maxRecDepth 65536 in
theorem w_c37 : (Jvm.Cond.code ({ cls := "java/util/LinkedHashMap$LinkedHashIterator", name := "hasNext", desc := "()Z" } : Jvm.MethodName) jdk_2616_method_2_code (1 : Nat) (Option.some Jvm.ClassFile.FieldType.boolean)).before args0 about1 = true := code_word (m := ⟨34, 1⟩) (meth := k34m1) (c := k34c1) (by decide +kernel) rfl rfl rfl (by decide +kernel)
set_option maxRecDepth 65536 in
theorem w_c38 : (Jvm.Cond.code ({ cls := "com/example/weser/weser/core/Memberships", name := "<init>", desc := "([I[I)V" } : Jvm.MethodName) prog_20_method_1_code (3 : Nat) (Option.none : Option Jvm.ClassFile.FieldType)).before args0 about1 = true := code_word (m := ⟨38, 0⟩) (meth := k38m0) (c := k38c0) (by decide +kernel) rfl rfl rfl (by decide +kernel)
set_option maxRecDepth 65536 in
theorem w_c39 : (Jvm.Cond.code ({ cls := "java/lang/Record", name := "<init>", desc := "()V" } : Jvm.MethodName) jdk_30_method_1_code (1 : Nat) (Option.none : Option Jvm.ClassFile.FieldType)).before args0 about1 = true := code_word (m := ⟨37, 0⟩) (meth := k37m0) (c := k37c0) (by decide +kernel) rfl rfl rfl (by decide +kernel)
set_option maxRecDepth 65536 in
theorem w_c40 : (Jvm.Cond.code ({ cls := "com/example/weser/weser/core/RdfGraph", name := "node", desc := "(Ljava/lang/String;)I" } : Jvm.MethodName) prog_29_method_8_code (4 : Nat) (Option.some Jvm.ClassFile.FieldType.int)).before args0 about1 = true := code_word (m := ⟨28, 1⟩) (meth := k28m1) (c := k28c1) (by decide +kernel) rfl rfl rfl (by decide +kernel)
set_option maxRecDepth 65536 in
theorem w_c41 : (Jvm.Cond.code ({ cls := "com/example/weser/weser/core/RdfGraphNodePinLaw", name := "matches", desc := "(ICI)Z" } : Jvm.MethodName) method_4_code (3 : Nat) (Option.some Jvm.ClassFile.FieldType.boolean)).before args0 about1 = true := code_word (m := ⟨1, 3⟩) (meth := k1m3) (c := k1c3) (by decide +kernel) rfl rfl rfl (by decide +kernel)
set_option maxRecDepth 65536 in
theorem w_c42 : (Jvm.Cond.code ({ cls := "java/lang/String", name := "equals", desc := "(Ljava/lang/Object;)Z" } : Jvm.MethodName) jdk_42_method_66_code (3 : Nat) (Option.some Jvm.ClassFile.FieldType.boolean)).before args0 about1 = true := code_word (m := ⟨7, 2⟩) (meth := k7m2) (c := k7c2) (by decide +kernel) rfl rfl rfl (by decide +kernel)
set_option maxRecDepth 65536 in
theorem w_c43 : (Jvm.Cond.code ({ cls := "java/lang/String", name := "<init>", desc := "([C)V" } : Jvm.MethodName) jdk_42_method_3_code (2 : Nat) (Option.none : Option Jvm.ClassFile.FieldType)).before args0 about1 = true := code_word (m := ⟨7, 1⟩) (meth := k7m1) (c := k7c1) (by decide +kernel) rfl rfl rfl (by decide +kernel)
set_option maxRecDepth 65536 in
theorem w_c44 : (Jvm.Cond.code ({ cls := "java/lang/String", name := "<init>", desc := "([CIILjava/lang/Void;)V" } : Jvm.MethodName) jdk_42_method_149_code (6 : Nat) (Option.none : Option Jvm.ClassFile.FieldType)).before args0 about1 = true := code_word (m := ⟨7, 4⟩) (meth := k7m4) (c := k7c4) (by decide +kernel) rfl rfl rfl (by decide +kernel)
set_option maxRecDepth 65536 in
theorem w_c45 : (Jvm.Cond.code ({ cls := "java/lang/StringUTF16", name := "compress", desc := "([CII)[B" } : Jvm.MethodName) jdk_52_method_16_code (6 : Nat) (Option.some (Jvm.ClassFile.FieldType.array Jvm.ClassFile.FieldType.byte))).before args0 about1 = true := code_word (m := ⟨39, 2⟩) (meth := k39m2) (c := k39c2) (by decide +kernel) rfl rfl rfl (by decide +kernel)
set_option maxRecDepth 65536 in
theorem w_c46 : (Jvm.Cond.code ({ cls := "java/lang/StringUTF16", name := "compress", desc := "([CI[BII)I" } : Jvm.MethodName) jdk_52_method_21_code (7 : Nat) (Option.some Jvm.ClassFile.FieldType.int)).before args0 about1 = true := code_word (m := ⟨39, 3⟩) (meth := k39m3) (c := k39c3) (by decide +kernel) rfl rfl rfl (by decide +kernel)
set_option maxRecDepth 65536 in
theorem w_c47 : (Jvm.Cond.code ({ cls := "java/lang/StringUTF16", name := "coderFromArrayLen", desc := "([BI)B" } : Jvm.MethodName) jdk_52_method_15_code (2 : Nat) (Option.some Jvm.ClassFile.FieldType.byte)).before args0 about1 = true := code_word (m := ⟨39, 1⟩) (meth := k39m1) (c := k39c1) (by decide +kernel) rfl rfl rfl (by decide +kernel)
set_option maxRecDepth 65536 in
theorem w_c48 : (Jvm.Cond.code ({ cls := "java/lang/StringLatin1", name := "equals", desc := "([B[B)Z" } : Jvm.MethodName) jdk_43_method_13_code (3 : Nat) (Option.some Jvm.ClassFile.FieldType.boolean)).before args0 about1 = true := code_word (m := ⟨8, 2⟩) (meth := k8m2) (c := k8c2) (by decide +kernel) rfl rfl rfl (by decide +kernel)
def codes1 : List Jvm.Cond := [Jvm.Cond.code x code maxLocals ret, Jvm.Cond.code ({ cls := "com/example/weser/weser/core/RdfGraphNodePinLaw", name := "entry", desc := "(ICI)Ljava/lang/String;" } : Jvm.MethodName) method_3_code (3 : Nat) (Option.some (Jvm.ClassFile.FieldType.object "java/lang/String")), Jvm.Cond.code ({ cls := "java/lang/String", name := "valueOf", desc := "(C)Ljava/lang/String;" } : Jvm.MethodName) jdk_42_method_139_code (1 : Nat) (Option.some (Jvm.ClassFile.FieldType.object "java/lang/String")), Jvm.Cond.code ({ cls := "java/lang/StringLatin1", name := "canEncode", desc := "(C)Z" } : Jvm.MethodName) jdk_43_method_3_code (1 : Nat) (Option.some Jvm.ClassFile.FieldType.boolean), Jvm.Cond.code ({ cls := "java/lang/StringLatin1", name := "toBytes", desc := "(C)[B" } : Jvm.MethodName) jdk_43_method_46_code (1 : Nat) (Option.some (Jvm.ClassFile.FieldType.array Jvm.ClassFile.FieldType.byte)), Jvm.Cond.code ({ cls := "java/lang/String", name := "<init>", desc := "([BB)V" } : Jvm.MethodName) jdk_42_method_151_code (3 : Nat) (Option.none : Option Jvm.ClassFile.FieldType), Jvm.Cond.code ({ cls := "java/lang/Object", name := "<init>", desc := "()V" } : Jvm.MethodName) object_method_1_code (1 : Nat) (Option.none : Option Jvm.ClassFile.FieldType), Jvm.Cond.code ({ cls := "com/example/weser/weser/core/TripleTable", name := "<init>", desc := "()V" } : Jvm.MethodName) prog_37_method_1_code (1 : Nat) (Option.none : Option Jvm.ClassFile.FieldType), Jvm.Cond.code ({ cls := "java/util/LinkedHashSet", name := "<init>", desc := "()V" } : Jvm.MethodName) jdk_2620_method_3_code (1 : Nat) (Option.none : Option Jvm.ClassFile.FieldType), Jvm.Cond.code ({ cls := "java/util/HashSet", name := "<init>", desc := "(IFZ)V" } : Jvm.MethodName) jdk_93_method_5_code (4 : Nat) (Option.none : Option Jvm.ClassFile.FieldType), Jvm.Cond.code ({ cls := "java/util/AbstractSet", name := "<init>", desc := "()V" } : Jvm.MethodName) jdk_91_method_1_code (1 : Nat) (Option.none : Option Jvm.ClassFile.FieldType), Jvm.Cond.code ({ cls := "java/util/AbstractCollection", name := "<init>", desc := "()V" } : Jvm.MethodName) jdk_22_method_1_code (1 : Nat) (Option.none : Option Jvm.ClassFile.FieldType), Jvm.Cond.code ({ cls := "java/util/LinkedHashMap", name := "<init>", desc := "(IF)V" } : Jvm.MethodName) jdk_94_method_14_code (3 : Nat) (Option.none : Option Jvm.ClassFile.FieldType), Jvm.Cond.code ({ cls := "java/util/HashMap", name := "<init>", desc := "(IF)V" } : Jvm.MethodName) jdk_69_method_5_code (3 : Nat) (Option.none : Option Jvm.ClassFile.FieldType), Jvm.Cond.code ({ cls := "java/util/AbstractMap", name := "<init>", desc := "()V" } : Jvm.MethodName) jdk_71_method_1_code (1 : Nat) (Option.none : Option Jvm.ClassFile.FieldType), Jvm.Cond.code ({ cls := "java/lang/Float", name := "isNaN", desc := "(F)Z" } : Jvm.MethodName) jdk_118_method_6_code (1 : Nat) (Option.some Jvm.ClassFile.FieldType.boolean), Jvm.Cond.code ({ cls := "java/util/HashMap", name := "tableSizeFor", desc := "(I)I" } : Jvm.MethodName) jdk_69_method_4_code (2 : Nat) (Option.some Jvm.ClassFile.FieldType.int), Jvm.Cond.code ({ cls := "java/lang/Integer", name := "numberOfLeadingZeros", desc := "(I)I" } : Jvm.MethodName) jdk_33_method_47_code (2 : Nat) (Option.some Jvm.ClassFile.FieldType.int), Jvm.Cond.code ({ cls := "com/example/weser/weser/core/Prefixes", name := "<init>", desc := "()V" } : Jvm.MethodName) prog_25_method_1_code (1 : Nat) (Option.none : Option Jvm.ClassFile.FieldType), Jvm.Cond.code ({ cls := "java/util/LinkedHashMap", name := "<init>", desc := "()V" } : Jvm.MethodName) jdk_94_method_16_code (1 : Nat) (Option.none : Option Jvm.ClassFile.FieldType), Jvm.Cond.code ({ cls := "java/util/HashMap", name := "<init>", desc := "()V" } : Jvm.MethodName) jdk_69_method_7_code (1 : Nat) (Option.none : Option Jvm.ClassFile.FieldType), Jvm.Cond.code ({ cls := "com/example/weser/weser/core/RdfGraph", name := "<init>", desc := "([Ljava/lang/String;[Ljava/lang/String;[Ljava/lang/String;Lcom/example/weser/weser/core/TripleTable;Lcom/example/weser/weser/core/TripleTable;[Ljava/lang/String;Lcom/example/weser/weser/core/Prefixes;)V" } : Jvm.MethodName) prog_29_method_1_code (8 : Nat) (Option.none : Option Jvm.ClassFile.FieldType), Jvm.Cond.code ({ cls := "com/example/weser/weser/core/TripleTable", name := "subjects", desc := "()[I" } : Jvm.MethodName) prog_37_method_3_code (1 : Nat) (Option.some (Jvm.ClassFile.FieldType.array Jvm.ClassFile.FieldType.int)), Jvm.Cond.code ({ cls := "java/util/Arrays", name := "copyOf", desc := "([II)[I" } : Jvm.MethodName) jdk_65_method_123_code (3 : Nat) (Option.some (Jvm.ClassFile.FieldType.array Jvm.ClassFile.FieldType.int)), Jvm.Cond.code ({ cls := "java/lang/Math", name := "min", desc := "(II)I" } : Jvm.MethodName) jdk_29_method_69_code (2 : Nat) (Option.some Jvm.ClassFile.FieldType.int), Jvm.Cond.code ({ cls := "com/example/weser/weser/core/TripleTable", name := "predicates", desc := "()[I" } : Jvm.MethodName) prog_37_method_4_code (1 : Nat) (Option.some (Jvm.ClassFile.FieldType.array Jvm.ClassFile.FieldType.int)), Jvm.Cond.code ({ cls := "com/example/weser/weser/core/TripleTable", name := "objects", desc := "()[I" } : Jvm.MethodName) prog_37_method_5_code (1 : Nat) (Option.some (Jvm.ClassFile.FieldType.array Jvm.ClassFile.FieldType.int)), Jvm.Cond.code ({ cls := "com/example/weser/weser/core/TripleTable", name := "memberships", desc := "()Lcom/example/weser/weser/core/Memberships;" } : Jvm.MethodName) prog_37_method_6_code (8 : Nat) (Option.some (Jvm.ClassFile.FieldType.object "com/example/weser/weser/core/Memberships")), Jvm.Cond.code ({ cls := "java/util/HashSet", name := "size", desc := "()I" } : Jvm.MethodName) jdk_93_method_7_code (1 : Nat) (Option.some Jvm.ClassFile.FieldType.int), Jvm.Cond.code ({ cls := "java/util/HashMap", name := "size", desc := "()I" } : Jvm.MethodName) jdk_69_method_10_code (1 : Nat) (Option.some Jvm.ClassFile.FieldType.int), Jvm.Cond.code ({ cls := "java/util/HashSet", name := "iterator", desc := "()Ljava/util/Iterator;" } : Jvm.MethodName) jdk_93_method_6_code (1 : Nat) (Option.some (Jvm.ClassFile.FieldType.object "java/util/Iterator")), Jvm.Cond.code ({ cls := "java/util/LinkedHashMap", name := "keySet", desc := "()Ljava/util/Set;" } : Jvm.MethodName) jdk_94_method_24_code (1 : Nat) (Option.some (Jvm.ClassFile.FieldType.object "java/util/Set")), Jvm.Cond.code ({ cls := "java/util/LinkedHashMap", name := "sequencedKeySet", desc := "()Ljava/util/SequencedSet;" } : Jvm.MethodName) jdk_94_method_25_code (3 : Nat) (Option.some (Jvm.ClassFile.FieldType.object "java/util/SequencedSet")), Jvm.Cond.code ({ cls := "java/util/LinkedHashMap$LinkedKeySet", name := "<init>", desc := "(Ljava/util/LinkedHashMap;Z)V" } : Jvm.MethodName) jdk_112_method_1_code (3 : Nat) (Option.none : Option Jvm.ClassFile.FieldType), Jvm.Cond.code ({ cls := "java/util/LinkedHashMap$LinkedKeySet", name := "iterator", desc := "()Ljava/util/Iterator;" } : Jvm.MethodName) jdk_112_method_4_code (1 : Nat) (Option.some (Jvm.ClassFile.FieldType.object "java/util/Iterator")), Jvm.Cond.code ({ cls := "java/util/LinkedHashMap$LinkedKeyIterator", name := "<init>", desc := "(Ljava/util/LinkedHashMap;Z)V" } : Jvm.MethodName) jdk_2617_method_1_code (3 : Nat) (Option.none : Option Jvm.ClassFile.FieldType), Jvm.Cond.code ({ cls := "java/util/LinkedHashMap$LinkedHashIterator", name := "<init>", desc := "(Ljava/util/LinkedHashMap;Z)V" } : Jvm.MethodName) jdk_2616_method_1_code (3 : Nat) (Option.none : Option Jvm.ClassFile.FieldType), Jvm.Cond.code ({ cls := "java/util/LinkedHashMap$LinkedHashIterator", name := "hasNext", desc := "()Z" } : Jvm.MethodName) jdk_2616_method_2_code (1 : Nat) (Option.some Jvm.ClassFile.FieldType.boolean), Jvm.Cond.code ({ cls := "com/example/weser/weser/core/Memberships", name := "<init>", desc := "([I[I)V" } : Jvm.MethodName) prog_20_method_1_code (3 : Nat) (Option.none : Option Jvm.ClassFile.FieldType), Jvm.Cond.code ({ cls := "java/lang/Record", name := "<init>", desc := "()V" } : Jvm.MethodName) jdk_30_method_1_code (1 : Nat) (Option.none : Option Jvm.ClassFile.FieldType), Jvm.Cond.code ({ cls := "com/example/weser/weser/core/RdfGraph", name := "node", desc := "(Ljava/lang/String;)I" } : Jvm.MethodName) prog_29_method_8_code (4 : Nat) (Option.some Jvm.ClassFile.FieldType.int), Jvm.Cond.code ({ cls := "com/example/weser/weser/core/RdfGraphNodePinLaw", name := "matches", desc := "(ICI)Z" } : Jvm.MethodName) method_4_code (3 : Nat) (Option.some Jvm.ClassFile.FieldType.boolean), Jvm.Cond.code ({ cls := "java/lang/String", name := "equals", desc := "(Ljava/lang/Object;)Z" } : Jvm.MethodName) jdk_42_method_66_code (3 : Nat) (Option.some Jvm.ClassFile.FieldType.boolean), Jvm.Cond.code ({ cls := "java/lang/String", name := "<init>", desc := "([C)V" } : Jvm.MethodName) jdk_42_method_3_code (2 : Nat) (Option.none : Option Jvm.ClassFile.FieldType), Jvm.Cond.code ({ cls := "java/lang/String", name := "<init>", desc := "([CIILjava/lang/Void;)V" } : Jvm.MethodName) jdk_42_method_149_code (6 : Nat) (Option.none : Option Jvm.ClassFile.FieldType), Jvm.Cond.code ({ cls := "java/lang/StringUTF16", name := "compress", desc := "([CII)[B" } : Jvm.MethodName) jdk_52_method_16_code (6 : Nat) (Option.some (Jvm.ClassFile.FieldType.array Jvm.ClassFile.FieldType.byte)), Jvm.Cond.code ({ cls := "java/lang/StringUTF16", name := "compress", desc := "([CI[BII)I" } : Jvm.MethodName) jdk_52_method_21_code (7 : Nat) (Option.some Jvm.ClassFile.FieldType.int), Jvm.Cond.code ({ cls := "java/lang/StringUTF16", name := "coderFromArrayLen", desc := "([BI)B" } : Jvm.MethodName) jdk_52_method_15_code (2 : Nat) (Option.some Jvm.ClassFile.FieldType.byte), Jvm.Cond.code ({ cls := "java/lang/StringLatin1", name := "equals", desc := "([B[B)Z" } : Jvm.MethodName) jdk_43_method_13_code (3 : Nat) (Option.some Jvm.ClassFile.FieldType.boolean)]
set_option maxRecDepth 65536 in
theorem codes_eq : words1.filter isCode = codes1 := rfl
theorem w_codes : ∀ c ∈ words1.filter isCode, c.before args0 about1 = true := by
  rw [codes_eq]
  intro c hc
  simp only [codes1, List.mem_cons, List.not_mem_nil, or_false] at hc
  rcases hc with rfl | rfl | rfl | rfl | rfl | rfl | rfl | rfl | rfl | rfl | rfl | rfl | rfl | rfl | rfl | rfl | rfl | rfl | rfl | rfl | rfl | rfl | rfl | rfl | rfl | rfl | rfl | rfl | rfl | rfl | rfl | rfl | rfl | rfl | rfl | rfl | rfl | rfl | rfl | rfl | rfl | rfl | rfl | rfl | rfl | rfl | rfl | rfl | rfl
  · exact w_c0
  · exact w_c1
  · exact w_c2
  · exact w_c3
  · exact w_c4
  · exact w_c5
  · exact w_c6
  · exact w_c7
  · exact w_c8
  · exact w_c9
  · exact w_c10
  · exact w_c11
  · exact w_c12
  · exact w_c13
  · exact w_c14
  · exact w_c15
  · exact w_c16
  · exact w_c17
  · exact w_c18
  · exact w_c19
  · exact w_c20
  · exact w_c21
  · exact w_c22
  · exact w_c23
  · exact w_c24
  · exact w_c25
  · exact w_c26
  · exact w_c27
  · exact w_c28
  · exact w_c29
  · exact w_c30
  · exact w_c31
  · exact w_c32
  · exact w_c33
  · exact w_c34
  · exact w_c35
  · exact w_c36
  · exact w_c37
  · exact w_c38
  · exact w_c39
  · exact w_c40
  · exact w_c41
  · exact w_c42
  · exact w_c43
  · exact w_c44
  · exact w_c45
  · exact w_c46
  · exact w_c47
  · exact w_c48
set_option maxRecDepth 65536 in
theorem w_t1 : (words1.take 24).all (fun c => isCode c || c.before args0 about1) = true := by decide +kernel
set_option maxRecDepth 65536 in
theorem w_t2 : ((words1.drop 24).take 24).all (fun c => isCode c || c.before args0 about1) = true := by decide +kernel
set_option maxRecDepth 65536 in
theorem w_t3 : (((words1.drop 24).drop 24).take 24).all (fun c => isCode c || c.before args0 about1) = true := by decide +kernel
set_option maxRecDepth 65536 in
theorem w_t4 : ((((words1.drop 24).drop 24).drop 24).take 24).all (fun c => isCode c || c.before args0 about1) = true := by decide +kernel
set_option maxRecDepth 65536 in
theorem w_t5 : (((((words1.drop 24).drop 24).drop 24).drop 24).take 24).all (fun c => isCode c || c.before args0 about1) = true := by decide +kernel
set_option maxRecDepth 65536 in
theorem w_t6 : ((((((words1.drop 24).drop 24).drop 24).drop 24).drop 24).take 24).all (fun c => isCode c || c.before args0 about1) = true := by decide +kernel
set_option maxRecDepth 65536 in
theorem w_t7 : (((((((words1.drop 24).drop 24).drop 24).drop 24).drop 24).drop 24).take 24).all (fun c => isCode c || c.before args0 about1) = true := by decide +kernel
set_option maxRecDepth 65536 in
theorem w_t8 : ((((((((words1.drop 24).drop 24).drop 24).drop 24).drop 24).drop 24).drop 24).take 24).all (fun c => isCode c || c.before args0 about1) = true := by decide +kernel
set_option maxRecDepth 65536 in
theorem w_t9 : (((((((((words1.drop 24).drop 24).drop 24).drop 24).drop 24).drop 24).drop 24).drop 24).take 24).all (fun c => isCode c || c.before args0 about1) = true := by decide +kernel
set_option maxRecDepth 65536 in
theorem w_t10 : ((((((((((words1.drop 24).drop 24).drop 24).drop 24).drop 24).drop 24).drop 24).drop 24).drop 24).take 24).all (fun c => isCode c || c.before args0 about1) = true := by decide +kernel
set_option maxRecDepth 65536 in
theorem w_t11 : (((((((((((words1.drop 24).drop 24).drop 24).drop 24).drop 24).drop 24).drop 24).drop 24).drop 24).drop 24).take 24).all (fun c => isCode c || c.before args0 about1) = true := by decide +kernel
set_option maxRecDepth 65536 in
theorem w_t12 : ((((((((((((words1.drop 24).drop 24).drop 24).drop 24).drop 24).drop 24).drop 24).drop 24).drop 24).drop 24).drop 24).take 24).all (fun c => isCode c || c.before args0 about1) = true := by decide +kernel
set_option maxRecDepth 65536 in
theorem w_t13 : (((((((((((((words1.drop 24).drop 24).drop 24).drop 24).drop 24).drop 24).drop 24).drop 24).drop 24).drop 24).drop 24).drop 24).take 24).all (fun c => isCode c || c.before args0 about1) = true := by decide +kernel
set_option maxRecDepth 65536 in
theorem w_t14 : ((((((((((((((words1.drop 24).drop 24).drop 24).drop 24).drop 24).drop 24).drop 24).drop 24).drop 24).drop 24).drop 24).drop 24).drop 24).take 24).all (fun c => isCode c || c.before args0 about1) = true := by decide +kernel
set_option maxRecDepth 65536 in
theorem w_t15 : ((((((((((((((words1.drop 24).drop 24).drop 24).drop 24).drop 24).drop 24).drop 24).drop 24).drop 24).drop 24).drop 24).drop 24).drop 24).drop 24).all (fun c => isCode c || c.before args0 about1) = true := by decide +kernel
theorem w_tables : (allAtoms (Jvm.Cond.code x code maxLocals ret :: tables_1)).before args0 about1 = true := by
  rw [allAtoms_all]
  show words1.all (fun c => c.before args0 about1) = true
  refine all_split ?_ w_codes
  rw [← List.take_append_drop 24 words1, List.all_append, w_t1, ← List.take_append_drop 24 (words1.drop 24), List.all_append, w_t2, ← List.take_append_drop 24 ((words1.drop 24).drop 24), List.all_append, w_t3, ← List.take_append_drop 24 (((words1.drop 24).drop 24).drop 24), List.all_append, w_t4, ← List.take_append_drop 24 ((((words1.drop 24).drop 24).drop 24).drop 24), List.all_append, w_t5, ← List.take_append_drop 24 (((((words1.drop 24).drop 24).drop 24).drop 24).drop 24), List.all_append, w_t6, ← List.take_append_drop 24 ((((((words1.drop 24).drop 24).drop 24).drop 24).drop 24).drop 24), List.all_append, w_t7, ← List.take_append_drop 24 (((((((words1.drop 24).drop 24).drop 24).drop 24).drop 24).drop 24).drop 24), List.all_append, w_t8, ← List.take_append_drop 24 ((((((((words1.drop 24).drop 24).drop 24).drop 24).drop 24).drop 24).drop 24).drop 24), List.all_append, w_t9, ← List.take_append_drop 24 (((((((((words1.drop 24).drop 24).drop 24).drop 24).drop 24).drop 24).drop 24).drop 24).drop 24), List.all_append, w_t10, ← List.take_append_drop 24 ((((((((((words1.drop 24).drop 24).drop 24).drop 24).drop 24).drop 24).drop 24).drop 24).drop 24).drop 24), List.all_append, w_t11, ← List.take_append_drop 24 (((((((((((words1.drop 24).drop 24).drop 24).drop 24).drop 24).drop 24).drop 24).drop 24).drop 24).drop 24).drop 24), List.all_append, w_t12, ← List.take_append_drop 24 ((((((((((((words1.drop 24).drop 24).drop 24).drop 24).drop 24).drop 24).drop 24).drop 24).drop 24).drop 24).drop 24).drop 24), List.all_append, w_t13, ← List.take_append_drop 24 (((((((((((((words1.drop 24).drop 24).drop 24).drop 24).drop 24).drop 24).drop 24).drop 24).drop 24).drop 24).drop 24).drop 24).drop 24), List.all_append, w_t14, w_t15]
  rfl
set_option maxRecDepth 65536 in
theorem w_rest : rest_1_c.before args0 about1 = true := by decide +kernel
set_option maxRecDepth 65536 in
theorem w_case : (Jvm.Cond.and given_1 narrow_1).before args0 about1 = true := by decide +kernel
theorem w_applies : (headSpec (Jvm.Cond.code x code maxLocals ret :: tables_1) room_1).applies x e0.platform about1 = true :=
  (Spec.applies_iff w_frames).mpr ⟨w_running, w_runnable, w_alone, w_named, w_hears, w_ripe, w_room, w_tables⟩
theorem atStart : AtStart classFile x code maxLocals ret World_1 tables_1 room_1 Calls_1 rest_1 Pre_1 launch0 p0 e0 about1 theMethod args0 below0 :=
  ⟨lists_1, trivial, launch0.admits_env _ _ _, launch0.least_env, fairChoices_fair.cas, fairChoices_fair.clock, w_frames, w_args, w_heap, w_applies, trivial, w_rest, w_case⟩
end start1
theorem witness_1 : WitnessClaimed_1 := ⟨start1.p0, start1.e0, start1.about1, start1.theMethod, start1.args0, start1.below0, start1.atStart⟩
end Jvm.Pilot.@@N@@
