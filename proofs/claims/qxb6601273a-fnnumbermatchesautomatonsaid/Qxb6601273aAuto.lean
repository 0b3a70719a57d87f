import Derived.Test.Qxb6601273aNumModel
namespace Go.Proofs.Qxb6601273a
set_option linter.unusedVariables false

theorem nxt_zero (s : Nat) : nxt s 0 = -1 := by
  unfold nxt
  have h : digB 0 = false := by decide
  simp [h]
theorem auto_no {bs : List UInt8} {f p s : Nat} {best : Int} (hn : nxt s (byteAt bs p) = -1) : auto bs (f + 1) p s best = best := by
  rcases Nat.lt_or_ge p bs.length with h | h
  · exact auto_stop h hn
  · exact auto_end h
theorem auto_yes {bs : List UInt8} {f p s s' : Nat} {best : Int} (hn : nxt s (byteAt bs p) = (s' : Int)) : auto bs (f + 1) p s best = auto bs f (p + 1) s' (if s' = 4 ∨ s' = 7 then (p : Int) + 1 else best) := by
  rcases Nat.lt_or_ge p bs.length with h | h
  · exact auto_go h hn
  · rw [byteAt_out h, nxt_zero] at hn; omega

theorem digEnd_stop {bs : List UInt8} {p : Nat} (h : digB (byteAt bs p) = false) (hp : p ≤ bs.length) : digEnd bs p = p := digEnd_eq (Nat.le_refl _) hp (fun j h1 h2 => by omega) h
theorem digEnd_step {bs : List UInt8} {p : Nat} (h : digB (byteAt bs p) = true) : digEnd bs p = digEnd bs (p + 1) := by
  have hlt := digB_lt h
  refine digEnd_eq (by have := digEnd_ge bs (p + 1); omega) (digEnd_le bs _ (by omega)) (fun j h1 h2 => ?_) (digEnd_not bs _)
  by_cases e : j = p
  · rw [e]; exact h
  · exact digEnd_dig bs (p + 1) j (by omega) h2

theorem run7 {bs : List UInt8} : ∀ (f p : Nat), bs.length < f + p → p ≤ bs.length → auto bs f p 7 (p : Int) = (digEnd bs p : Nat)
  | 0, p, hf, hp => by omega
  | f + 1, p, hf, hp => by
    cases hd : digB (byteAt bs p)
    · rw [auto_no (by unfold nxt; simp [hd]), digEnd_stop hd hp]
    · have hlt := digB_lt hd
      rw [auto_yes (s' := 7) (by unfold nxt; simp [hd])]
      have ih := run7 (bs := bs) f (p + 1) (by omega) (by omega)
      rw [digEnd_step hd]
      simpa using ih

theorem run6 {bs : List UInt8} (f p : Nat) (b : Int) (hf : bs.length < f + p) (hp : p ≤ bs.length) : auto bs f p 6 b = if digB (byteAt bs p) = true then ((digEnd bs p : Nat) : Int) else b := by
  obtain ⟨f, rfl⟩ : ∃ f', f = f' + 1 := ⟨f - 1, by omega⟩
  cases hd : digB (byteAt bs p)
  · rw [auto_no (by unfold nxt; simp [hd])]; rfl
  · have hlt := digB_lt hd
    rw [auto_yes (s' := 7) (by unfold nxt; simp [hd]), if_pos rfl, digEnd_step hd]
    have := run7 (bs := bs) f (p + 1) (by omega) (by omega)
    simpa using this

theorem run5 {bs : List UInt8} (f p : Nat) (b : Int) (hf : bs.length < f + p) (hp : p ≤ bs.length) : auto bs f p 5 b = if digB (byteAt bs (signEnd bs p)) = true then ((digEnd bs (signEnd bs p) : Nat) : Int) else b := by
  obtain ⟨f, rfl⟩ : ∃ f', f = f' + 1 := ⟨f - 1, by omega⟩
  cases hs : isSign (byteAt bs p)
  · have e : signEnd bs p = p := by unfold signEnd; rw [hs]; rfl
    rw [e]
    have hn : ¬ byteAt bs p = 43 ∧ ¬ byteAt bs p = 45 := by unfold isSign at hs; simpa using hs
    cases hd : digB (byteAt bs p)
    · rw [auto_no (by unfold nxt; simp [hd, hn.1, hn.2])]; rfl
    · have hlt := digB_lt hd
      rw [auto_yes (s' := 7) (by unfold nxt; simp [hd, hn.1, hn.2]), if_pos rfl, digEnd_step hd]
      have := run7 (bs := bs) f (p + 1) (by omega) (by omega)
      simpa using this
  · have e : signEnd bs p = p + 1 := by unfold signEnd; rw [hs]; rfl
    rw [e]
    have hlt := isSign_lt hs
    have hn : byteAt bs p = 43 ∨ byteAt bs p = 45 := by unfold isSign at hs; simpa using hs
    rw [auto_yes (s' := 6) (by rcases hn with h | h <;> (unfold nxt; rw [h]; decide))]
    have := run6 (bs := bs) f (p + 1) b (by omega) (by omega)
    simpa using this

theorem run4 {bs : List UInt8} : ∀ (f p : Nat), bs.length < f + p → p ≤ bs.length → auto bs f p 4 (p : Int) = (expEnd bs (digEnd bs p) : Nat)
  | 0, p, hf, hp => by omega
  | f + 1, p, hf, hp => by
    cases hd : digB (byteAt bs p)
    · rw [digEnd_stop hd hp]
      cases hE : isE (byteAt bs p)
      · have hn : ¬ byteAt bs p = 101 ∧ ¬ byteAt bs p = 69 := by unfold isE at hE; simpa using hE
        rw [auto_no (by unfold nxt; simp [hd, hn.1, hn.2])]
        unfold expEnd; rw [hE]; rfl
      · have hlt := isE_lt hE
        have hn : byteAt bs p = 101 ∨ byteAt bs p = 69 := by unfold isE at hE; simpa using hE
        rw [auto_yes (s' := 5) (by rcases hn with h | h <;> (unfold nxt; rw [h]; decide))]
        have := run5 (bs := bs) f (p + 1) (p : Int) (by omega) (by omega)
        simp only [show ¬ (5 = 4 ∨ 5 = 7) from by omega, if_false]
        rw [this]
        unfold expEnd
        rw [hE, if_pos rfl]
        split <;> rfl
    · have hlt := digB_lt hd
      rw [auto_yes (s' := 4) (by unfold nxt; simp [hd])]
      have ih := run4 (bs := bs) f (p + 1) (by omega) (by omega)
      rw [digEnd_step hd]
      simpa using ih

theorem run3 {bs : List UInt8} (f p : Nat) (b : Int) (hf : bs.length < f + p) (hp : p ≤ bs.length) : auto bs f p 3 b = if digB (byteAt bs p) = true then ((expEnd bs (digEnd bs p) : Nat) : Int) else b := by
  obtain ⟨f, rfl⟩ : ∃ f', f = f' + 1 := ⟨f - 1, by omega⟩
  cases hd : digB (byteAt bs p)
  · rw [auto_no (by unfold nxt; simp [hd])]; rfl
  · have hlt := digB_lt hd
    rw [auto_yes (s' := 4) (by unfold nxt; simp [hd]), if_pos rfl, digEnd_step hd]
    have := run4 (bs := bs) f (p + 1) (by omega) (by omega)
    simpa using this

theorem run1 {bs : List UInt8} : ∀ (f p : Nat) (b : Int), bs.length < f + p → p ≤ bs.length → auto bs f p 1 b = if byteAt bs (digEnd bs p) = 46 then ((expEnd bs (digEnd bs (digEnd bs p + 1)) : Nat) : Int) else b
  | 0, p, b, hf, hp => by omega
  | f + 1, p, b, hf, hp => by
    cases hd : digB (byteAt bs p)
    · rw [digEnd_stop hd hp]
      by_cases h46 : byteAt bs p = 46
      · have hlt : p < bs.length := byteAt_lt (by rw [h46]; decide)
        rw [auto_yes (s' := 4) (by unfold nxt; rw [h46]; decide), if_pos h46]
        have := run4 (bs := bs) f (p + 1) (by omega) (by omega)
        simpa using this
      · rw [auto_no (by unfold nxt; simp [hd, h46]), if_neg h46]
    · have hlt := digB_lt hd
      rw [auto_yes (s' := 1) (by unfold nxt; simp [hd])]
      have ih := run1 (bs := bs) f (p + 1) b (by omega) (by omega)
      rw [digEnd_step hd]
      simpa using ih

theorem digB_48 : digB 48 = true := by decide
theorem digB_46 : digB 46 = false := by decide

/-- The automaton's last accepting place is where 'number' ends a float; where there is no float it accepts nowhere. -/
theorem auto_is {bs : List UInt8} {off : Nat} (ho : off ≤ bs.length) : auto bs (bs.length - off + 1) off 0 (-1) = if floatB bs off (digEnd bs off) = true then ((numEnd bs off : Nat) : Int) else -1 := by
  have hnum : floatB bs off (digEnd bs off) = true → numEnd bs off = expEnd bs (digEnd bs (digEnd bs off + 1)) := fun h => by unfold numEnd; rw [if_pos h]
  by_cases h48 : byteAt bs off = 48
  · have hdig : digB (byteAt bs off) = true := by rw [h48]; decide
    have hlt := digB_lt hdig
    rw [auto_yes (s' := 2) (by unfold nxt; rw [h48]; decide)]
    simp only [show ¬ (2 = 4 ∨ 2 = 7) from by omega, if_false]
    obtain ⟨f, hf⟩ : ∃ f', bs.length - off = f' + 1 := ⟨bs.length - off - 1, by omega⟩
    rw [hf]
    have hd1 := digEnd_step hdig
    by_cases h46 : byteAt bs (off + 1) = 46
    · have hlt2 : off + 1 < bs.length := byteAt_lt (by rw [h46]; decide)
      have hd2 : digEnd bs off = off + 1 := by rw [hd1]; exact digEnd_stop (by rw [h46]; decide) (by omega)
      rw [auto_yes (s' := 3) (by unfold nxt; rw [h46]; decide)]
      simp only [show ¬ (3 = 4 ∨ 3 = 7) from by omega, if_false]
      rw [run3 _ _ _ (by omega) (by omega)]
      have hfl : floatB bs off (digEnd bs off) = digB (byteAt bs (off + 1 + 1)) := by rw [hd2]; unfold floatB; simp [h46, h48]
      rw [hfl]
      cases hq : digB (byteAt bs (off + 1 + 1))
      · rfl
      · rw [if_pos rfl, if_pos rfl, hnum (by rw [hfl]; exact hq), hd2]
    · rw [auto_no (by unfold nxt; simp [h46])]
      have hfl : floatB bs off (digEnd bs off) = false := by
        cases hq : digB (byteAt bs (off + 1))
        · have hd2 : digEnd bs off = off + 1 := by rw [hd1]; exact digEnd_stop hq (by omega)
          rw [hd2]; unfold floatB; simp [h46]
        · have hd2 := digEnd_step hq
          have hge := digEnd_ge bs (off + 1 + 1)
          have g1 : ¬ digEnd bs off = off := by omega
          have g2 : ¬ digEnd bs off = off + 1 := by omega
          unfold floatB; simp [h48, g1, g2]
      rw [hfl]; rfl
  · cases hdig : digB (byteAt bs off)
    · have hd := digEnd_stop hdig ho
      by_cases h46 : byteAt bs off = 46
      · have hlt : off < bs.length := byteAt_lt (by rw [h46]; decide)
        rw [auto_yes (s' := 3) (by unfold nxt; rw [h46]; decide)]
        simp only [show ¬ (3 = 4 ∨ 3 = 7) from by omega, if_false]
        rw [run3 _ _ _ (by omega) (by omega)]
        have hfl : floatB bs off (digEnd bs off) = digB (byteAt bs (off + 1)) := by rw [hd]; unfold floatB; simp [h46]
        rw [hfl]
        cases hq : digB (byteAt bs (off + 1))
        · rfl
        · rw [if_pos rfl, if_pos rfl, hnum (by rw [hfl]; exact hq), hd]
      · rw [auto_no (by unfold nxt; simp [h48, hdig, h46])]
        have hfl : floatB bs off (digEnd bs off) = false := by rw [hd]; unfold floatB; simp [h46]
        rw [hfl]; rfl
    · have hlt := digB_lt hdig
      rw [auto_yes (s' := 1) (by unfold nxt; simp [h48, hdig])]
      simp only [show ¬ (1 = 4 ∨ 1 = 7) from by omega, if_false]
      rw [run1 _ _ _ (by omega) (by omega)]
      have hd := digEnd_step hdig
      have hge := digEnd_ge bs (off + 1)
      have g1 : ¬ digEnd bs off = off := by omega
      have hfl : floatB bs off (digEnd bs off) = decide (byteAt bs (digEnd bs off) = 46) := by unfold floatB; simp [h48, g1]
      rw [← hd, hfl]
      by_cases h46 : byteAt bs (digEnd bs off) = 46
      · rw [if_pos h46, decide_eq_true h46, if_pos rfl, hnum (by rw [hfl]; exact decide_eq_true h46)]
      · rw [if_neg h46, decide_eq_false h46]; rfl
end Go.Proofs.Qxb6601273a
