import Derived.Test.Qxb6601273aCloneI
namespace Go.Proofs.Qxb6601273a
open Go.RowKit
set_option linter.unusedVariables false

set_option maxHeartbeats 4000000 in
/-- The ways out ahead of the work. -/
theorem f7_early (a0 : Option Addr) (len0 cap0 : Nat) (a1 : Int) (a2 : Option Addr) (len2 cap2 : Nat) (a3 : Option Addr) (len3 cap3 : Nat) (a4 : Option Addr) (len4 cap4 : Nat) (w : World) (m0 : len0 ≤ maxLen) (m2 : len2 ≤ maxLen) (m3 : len3 ≤ maxLen) (m4 : len4 ≤ maxLen)
    (h : le20s len0 len2 len3 len4 = false ∨ (le20s len0 len2 len3 len4 = true ∧ (524288 < len0 ∨ (len0 ≤ 524288 ∧ (16384 < len2 ∨ (len2 ≤ 16384 ∧ (16384 < len3 ∨ (len3 ≤ 16384 ∧ (16384 < len4 ∨ (len4 ≤ 16384 ∧ (a1 < 0 ∨ (0 ≤ a1 ∧ ((len0 : Int) < a1 ∨ (a1 ≤ (len0 : Int) ∧ (len2 = 0 ∨ (0 < len2 ∧ (len3 ≠ len2 ∨ (len3 = len2 ∧ len4 ≠ len2)))))))))))))))))) :
    Calls Try.prog 7 #[.slice a0 len0 cap0, .int .i64 a1, .slice a2 len2 cap2, .slice a3 len3 cap3, .slice a4 len4 cap4] w fun e w' => e = .returned (.bool true) ∧ Keep [] w w' := by
  have M0 := hidden m0
  have M2 := hidden m2
  have M3 := hidden m3
  have M4 := hidden m4
  unfold maxLen at m0 m2 m3 m4
  rcases h with HLE | ⟨HLE, h | ⟨h1, h | ⟨h2, h | ⟨h3, h | ⟨h4, h | ⟨h5, h | ⟨h6, h | ⟨h7, h | ⟨h8, h⟩⟩⟩⟩⟩⟩⟩⟩⟩
  all_goals replace HLE := hidden HLE
  · skip
    go_enter Try.func7, Try.ntmps7
    go_wp2_with fail
    refine (f23_any a0 a2 a3 a4 len0 cap0 len2 cap2 len3 cap3 len4 cap4 a1 _ M0.out M2.out M3.out M4.out).mono ?_
    rw [HLE.out]
    rintro e w' ⟨rfl, rfl⟩
    go_wp2_with fail
    go_ret
    exact ⟨rfl, Keep.refl _ _⟩
  · skip
    go_enter Try.func7, Try.ntmps7
    go_wp2_with fail
    refine (f23_any a0 a2 a3 a4 len0 cap0 len2 cap2 len3 cap3 len4 cap4 a1 _ M0.out M2.out M3.out M4.out).mono ?_
    rw [HLE.out]
    rintro e w' ⟨rfl, rfl⟩
    go_wp2_with fail
    go_ret
    exact ⟨rfl, Keep.refl _ _⟩
  · skip
    go_enter Try.func7, Try.ntmps7
    go_wp2_with fail
    refine (f23_any a0 a2 a3 a4 len0 cap0 len2 cap2 len3 cap3 len4 cap4 a1 _ M0.out M2.out M3.out M4.out).mono ?_
    rw [HLE.out]
    rintro e w' ⟨rfl, rfl⟩
    go_wp2_with fail
    go_ret
    exact ⟨rfl, Keep.refl _ _⟩
  · skip
    go_enter Try.func7, Try.ntmps7
    go_wp2_with fail
    refine (f23_any a0 a2 a3 a4 len0 cap0 len2 cap2 len3 cap3 len4 cap4 a1 _ M0.out M2.out M3.out M4.out).mono ?_
    rw [HLE.out]
    rintro e w' ⟨rfl, rfl⟩
    go_wp2_with fail
    go_ret
    exact ⟨rfl, Keep.refl _ _⟩
  · skip
    go_enter Try.func7, Try.ntmps7
    go_wp2_with fail
    refine (f23_any a0 a2 a3 a4 len0 cap0 len2 cap2 len3 cap3 len4 cap4 a1 _ M0.out M2.out M3.out M4.out).mono ?_
    rw [HLE.out]
    rintro e w' ⟨rfl, rfl⟩
    go_wp2_with fail
    go_ret
    exact ⟨rfl, Keep.refl _ _⟩
  · skip
    go_enter Try.func7, Try.ntmps7
    go_wp2_with fail
    refine (f23_any a0 a2 a3 a4 len0 cap0 len2 cap2 len3 cap3 len4 cap4 a1 _ M0.out M2.out M3.out M4.out).mono ?_
    rw [HLE.out]
    rintro e w' ⟨rfl, rfl⟩
    go_wp2_with fail
    go_ret
    exact ⟨rfl, Keep.refl _ _⟩
  · skip
    go_enter Try.func7, Try.ntmps7
    go_wp2_with fail
    refine (f23_any a0 a2 a3 a4 len0 cap0 len2 cap2 len3 cap3 len4 cap4 a1 _ M0.out M2.out M3.out M4.out).mono ?_
    rw [HLE.out]
    rintro e w' ⟨rfl, rfl⟩
    go_wp2_with fail
    go_ret
    exact ⟨rfl, Keep.refl _ _⟩
  · have b1 : ((len2 : Int) == 0) = true := by simp [h]
    clear h
    go_enter Try.func7, Try.ntmps7
    go_wp2_with fail
    refine (f23_any a0 a2 a3 a4 len0 cap0 len2 cap2 len3 cap3 len4 cap4 a1 _ M0.out M2.out M3.out M4.out).mono ?_
    rw [HLE.out]
    rintro e w' ⟨rfl, rfl⟩
    go_wp2_with fail
    go_ret
    exact ⟨rfl, Keep.refl _ _⟩
  · have b1 : ((len3 : Int) != (len2 : Int)) = true := by simp; omega
    go_enter Try.func7, Try.ntmps7
    go_wp2_with fail
    refine (f23_any a0 a2 a3 a4 len0 cap0 len2 cap2 len3 cap3 len4 cap4 a1 _ M0.out M2.out M3.out M4.out).mono ?_
    rw [HLE.out]
    rintro e w' ⟨rfl, rfl⟩
    go_wp2_with fail
    go_ret
    exact ⟨rfl, Keep.refl _ _⟩
  · have b0 : ((len3 : Int) != (len2 : Int)) = false := by simp [h8]
    have b1 : ((len4 : Int) != (len2 : Int)) = true := by simp; omega
    clear h8
    go_enter Try.func7, Try.ntmps7
    go_wp2_with fail
    refine (f23_any a0 a2 a3 a4 len0 cap0 len2 cap2 len3 cap3 len4 cap4 a1 _ M0.out M2.out M3.out M4.out).mono ?_
    rw [HLE.out]
    rintro e w' ⟨rfl, rfl⟩
    go_wp2_with fail
    go_ret
    exact ⟨rfl, Keep.refl _ _⟩

end Go.Proofs.Qxb6601273a
