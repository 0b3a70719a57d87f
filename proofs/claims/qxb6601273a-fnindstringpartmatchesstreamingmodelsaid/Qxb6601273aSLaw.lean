import Derived.Test.Qxb6601273aExpect
namespace Go.Proofs.Qxb6601273a
set_option linter.unusedVariables false

/-- What the model answers, from what 'stringPart' reads. -/
def mOf (bs : List UInt8) (R : Nat × Nat × List UInt8) (M : MAns) : Prop :=
  (R.1 = 0 ∧ M = ⟨0, (R.2.1 : Int), R.2.2, (R.2.1 : Int) + 1⟩) ∨ (R.1 = 1 ∧ M = ⟨1, (R.2.1 : Int), R.2.2, (R.2.1 : Int) + 2⟩) ∨ (R.1 = 3 ∧ R.2.1 = bs.length ∧ M.act = 3 ∧ M.at_ = 0 ∧ M.fin = (bs.length : Int) ∧ M.text.length ≤ 2 * bs.length)

theorem byteAt_eq_atU {bs : List UInt8} {p : Nat} {c : UInt8} (h : byteAt bs p = (c.toNat : Int)) : atU bs p = c := UInt8.toNat_inj.1 (by rw [← atU_nat] at h; omega)

theorem smod_end {bs : List UInt8} {f p s : Nat} {acc : List UInt8} (h : bs.length ≤ p) : smod bs f p s acc = ⟨3, 0, acc, bs.length⟩ := by
  cases f with
  | zero => rfl
  | succ f => unfold smod; rw [if_pos h]

theorem model_is (bs : List UInt8) : ∀ (f p : Nat) (acc : List UInt8) (g : Nat), bs.length < f + p → bs.length < g + p → p ≤ bs.length → acc.length ≤ 2 * p → mOf bs (strScan bs f p acc) (smod bs g p 0 acc) := by
  intro f
  induction f using Nat.strongRecOn with
  | _ f ih =>
    intro p acc g hf hg hp hac
    by_cases hend : bs.length ≤ p
    · obtain ⟨f, rfl⟩ : ∃ f', f = f' + 1 := ⟨f - 1, by omega⟩
      rw [scan_end hend, smod_end hend]
      exact .inr (.inr ⟨rfl, by show p = bs.length; omega, rfl, rfl, rfl, by show acc.length ≤ _; omega⟩)
    · have hlt : p < bs.length := by omega
      obtain ⟨f, rfl⟩ : ∃ f', f = f' + 1 := ⟨f - 1, by omega⟩
      obtain ⟨g, rfl⟩ : ∃ g', g = g' + 1 := ⟨g - 1, by omega⟩
      have hm : smod bs (g + 1) p 0 acc = if byteAt bs p = 34 then ⟨0, p, acc, (p : Int) + 1⟩ else if byteAt bs p = 92 then smod bs g (p + 1) 1 acc else if byteAt bs p = 36 then smod bs g (p + 1) 2 acc else smod bs g (p + 1) 0 (acc ++ [atU bs p]) := by
        conv => lhs; unfold smod
        rw [if_neg hend, if_neg (by decide), if_neg (by decide)]
      rw [hm]
      by_cases k1 : byteAt bs p = 34
      · have hst : stopB bs p = true := by unfold stopB; simp [k1]
        rw [scan_close hlt hst k1, if_pos k1]
        exact .inl ⟨rfl, rfl⟩
      · rw [if_neg k1]
        by_cases k2 : byteAt bs p = 92
        · rw [if_pos k2]
          have hst : stopB bs p = false := by unfold stopB; simp [k2]
          by_cases h1 : p + 1 < bs.length
          · have hes : escB bs p = true := by unfold escB; simp [k2, h1]
            rw [scan_esc hlt hst hes]
            obtain ⟨g, rfl⟩ : ∃ g', g = g' + 1 := ⟨g - 1, by omega⟩
            have hm2 : smod bs (g + 1) (p + 1) 1 acc = smod bs g (p + 1 + 1) 0 (acc ++ [unescU (atU bs (p + 1))]) := by
              conv => lhs; unfold smod
              rw [if_neg (by omega), if_pos rfl]
            rw [hm2]
            exact ih f (by omega) (p + 2) _ g (by omega) (by omega) (by omega) (by simp; omega)
          · have hes : escB bs p = false := by unfold escB; simp [k2]; omega
            have hdo : dolB bs p = false := by unfold dolB; simp [k2]
            rw [scan_oth hlt hst hes hdo, smod_end (by omega)]
            obtain ⟨f, rfl⟩ : ∃ f', f = f' + 1 := ⟨f - 1, by omega⟩
            rw [scan_end (by omega)]
            exact .inr (.inr ⟨rfl, by show p + 1 = bs.length; omega, rfl, rfl, rfl, by show acc.length ≤ _; omega⟩)
        · rw [if_neg k2]
          have hes : escB bs p = false := by unfold escB; simp [k2]
          by_cases k3 : byteAt bs p = 36
          · rw [if_pos k3]
            by_cases h1 : p + 1 < bs.length
            · obtain ⟨g, rfl⟩ : ∃ g', g = g' + 1 := ⟨g - 1, by omega⟩
              have hm2 : smod bs (g + 1) (p + 1) 2 acc = if byteAt bs (p + 1) = 123 then ⟨1, ((p + 1 : Nat) : Int) - 1, acc, ((p + 1 : Nat) : Int) + 1⟩ else if byteAt bs (p + 1) = 34 then ⟨0, ((p + 1 : Nat) : Int), acc ++ [36], ((p + 1 : Nat) : Int) + 1⟩ else if byteAt bs (p + 1) = 92 then smod bs g (p + 1 + 1) 1 (acc ++ [36]) else smod bs g (p + 1 + 1) 0 (acc ++ [36] ++ [atU bs (p + 1)]) := by
                conv => lhs; unfold smod
                rw [if_neg (by omega), if_neg (by decide), if_pos rfl]
              rw [hm2]
              by_cases k4 : byteAt bs (p + 1) = 123
              · have hst : stopB bs p = true := by unfold stopB; simp [k3, k4]
                rw [scan_interp hlt hst k1, if_pos k4]
                refine .inr (.inl ⟨rfl, ?_⟩)
                simp only [MAns.mk.injEq, true_and]
                refine ⟨by omega, by omega⟩
              · have hst : stopB bs p = false := by unfold stopB; simp [k3, k4]
                rw [if_neg k4]
                have ha : atU bs p = 36 := byteAt_eq_atU (c := 36) k3
                by_cases k5 : byteAt bs (p + 1) = 34
                · have hdo : dolB bs p = false := by unfold dolB; simp [k5]
                  rw [scan_oth hlt hst hes hdo, if_pos k5, ha]
                  obtain ⟨f, rfl⟩ : ∃ f', f = f' + 1 := ⟨f - 1, by omega⟩
                  have hst2 : stopB bs (p + 1) = true := by unfold stopB; simp [k5]
                  rw [scan_close h1 hst2 k5]
                  exact .inl ⟨rfl, rfl⟩
                · rw [if_neg k5]
                  by_cases k6 : byteAt bs (p + 1) = 92
                  · have hdo : dolB bs p = false := by unfold dolB; simp [k6]
                    rw [scan_oth hlt hst hes hdo, if_pos k6, ha]
                    have hm3 : smod bs (g + 1) (p + 1) 0 (acc ++ [36]) = smod bs g (p + 1 + 1) 1 (acc ++ [36]) := by
                      conv => lhs; unfold smod
                      rw [if_neg (by omega), if_neg (by decide), if_neg (by decide), if_neg k5, if_pos k6]
                    rw [← hm3]
                    exact ih f (by omega) (p + 1) _ (g + 1) (by omega) (by omega) (by omega) (by simp; omega)
                  · have hdo : dolB bs p = true := by unfold dolB; simp [k3, k5, k6, h1]
                    rw [scan_dol hlt hst hes hdo, if_neg k6, ha, List.append_assoc]
                    exact ih f (by omega) (p + 2) _ g (by omega) (by omega) (by omega) (by simp; omega)
            · have h0 : byteAt bs (p + 1) = 0 := byteAt_out (by omega)
              have hst : stopB bs p = false := by unfold stopB; simp [k1, h0]
              have hdo : dolB bs p = false := by unfold dolB; rw [decide_eq_false h1, Bool.and_false]
              rw [scan_oth hlt hst hes hdo, smod_end (by omega)]
              obtain ⟨f, rfl⟩ : ∃ f', f = f' + 1 := ⟨f - 1, by omega⟩
              rw [scan_end (by omega)]
              exact .inr (.inr ⟨rfl, by show p + 1 = bs.length; omega, rfl, rfl, rfl, by show acc.length ≤ _; omega⟩)
          · rw [if_neg k3]
            have hst : stopB bs p = false := by unfold stopB; simp [k1, k3]
            have hdo : dolB bs p = false := by unfold dolB; simp [k3]
            rw [scan_oth hlt hst hes hdo]
            exact ih f (by omega) (p + 1) _ g (by omega) (by omega) (by omega) (by simp; omega)
end Go.Proofs.Qxb6601273a
