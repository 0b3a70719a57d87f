import Derived.Test.Qxb6601273aIndD
namespace Go.Proofs.Qxb6601273a
set_option linter.unusedVariables false

/-- Where no quote and no backslash follows, the two readers read the same. -/
theorem same_scan (bs : List UInt8) : ∀ (f p : Nat) (acc : List UInt8), (∀ k, p ≤ k → k < bs.length → byteAt bs k ≠ 34 ∧ byteAt bs k ≠ 39 ∧ byteAt bs k ≠ 92) → strScan bs f p acc = indScan bs f p acc ∧ (strScan bs f p acc).1 ≠ 0 := by
  intro f
  induction f with
  | zero => intro p acc h; exact ⟨rfl, by show (3 : Nat) ≠ 0; decide⟩
  | succ f ih =>
    intro p acc h
    by_cases hend : bs.length ≤ p
    · rw [scan_end hend, ind_end hend]; exact ⟨rfl, by show (3 : Nat) ≠ 0; decide⟩
    · have hlt : p < bs.length := by omega
      obtain ⟨n1, n2, n3⟩ := h p (Nat.le_refl _) hlt
      have hi1 : indStop bs p = false := by unfold indStop; rw [decide_eq_false n2, Bool.false_and]
      have hes : escB bs p = false := by unfold escB; rw [decide_eq_false n3, Bool.false_and]
      have hsi : stopB bs p = indInt bs p := by unfold stopB indInt; rw [decide_eq_false n1, Bool.false_or]
      have hdd : dolB bs p = indDol bs p := by
        unfold dolB indDol
        by_cases h1 : p + 1 < bs.length
        · obtain ⟨m1, m2, m3⟩ := h (p + 1) (by omega) h1
          rw [decide_eq_true m1, decide_eq_true m2, decide_eq_true m3, Bool.and_true]
        · rw [decide_eq_false h1, Bool.and_false, Bool.and_false]
      cases hst : stopB bs p
      · have hin : indInt bs p = false := by rw [← hsi]; exact hst
        cases hdo : dolB bs p
        · rw [scan_oth hlt hst hes hdo, ind_oth hlt hi1 hin (by rw [← hdd]; exact hdo)]
          exact ih (p + 1) _ (fun k hk => h k (by omega))
        · rw [scan_dol hlt hst hes hdo, ind_dol hlt hi1 hin (by rw [← hdd]; exact hdo)]
          exact ih (p + 2) _ (fun k hk => h k (by omega))
      · rw [scan_interp hlt hst n1, ind_int hlt hi1 (by rw [← hsi]; exact hst)]
        exact ⟨rfl, by show (1 : Nat) ≠ 0; decide⟩

theorem same_ans (bs : List UInt8) (off : Nat) (os : List Op3) (o : Op3) (h : ∀ k, off ≤ k → k < bs.length → byteAt bs k ≠ 34 ∧ byteAt bs k ≠ 39 ∧ byteAt bs k ≠ 92) :
    strAns (strScan bs (bs.length - off + 1) off []) off os o = indAns bs (indScan bs (bs.length - off + 1) off []) off os o := by
  obtain ⟨h1, h2⟩ := same_scan bs (bs.length - off + 1) off [] h
  rw [← h1]
  unfold strAns indAns
  rw [if_neg h2, if_neg h2]
end Go.Proofs.Qxb6601273a
