import Derived.Test.Qxb6601273aStrA
namespace Go.Proofs.Qxb6601273a
open Go.RowKit
set_option linter.unusedVariables false

theorem Src.cellsT {w : World} {sa : Option Addr} {sl sc : Nat} {bs : List UInt8} (h : Src w (.slice sa sl sc) bs) {p : Nat} (hp : p < bs.length) : ∃ g, sa = some ⟨g, 0, none⟩ ∧ ∀ k, k < bs.length → w.cell? ⟨g, k, none⟩ = some (.int .u8 (byteAt bs k)) := by
  rcases h with ⟨_, rfl⟩ | ⟨g, cap, cs, hv, _, hb, hc⟩
  · simp at hp
  · simp at hv
    exact ⟨g, hv.1, fun k hk => by rw [hb.cell, hc k hk]⟩

/-- sameText: the string holds just these bytes. -/
def sameTB (s : ByteArray) (bs : List UInt8) : Bool := s.data.toList == bs

theorem sameT_ne {s : ByteArray} {bs : List UInt8} (h : s.size ≠ bs.length) : sameTB s bs = false := by
  unfold sameTB
  rw [beq_eq_false_iff_ne]
  intro e
  apply h
  rw [← e]; rfl
theorem sameT_at {s : ByteArray} {bs : List UInt8} {k : Nat} (hk : k < s.size) (h2 : (s[k].toNat : Int) ≠ byteAt bs k) : sameTB s bs = false := by
  unfold sameTB
  rw [beq_eq_false_iff_ne]
  intro e
  apply h2
  rw [← e, byteAt_in (by exact hk)]
  rfl
theorem sameT_all {s : ByteArray} {bs : List UInt8} (hl : s.size = bs.length) (h : ∀ j (hj : j < s.size), (s[j].toNat : Int) = byteAt bs j) : sameTB s bs = true := by
  unfold sameTB
  rw [beq_iff_eq]
  apply List.ext_getElem
  · exact hl
  · intro j h1 h2
    have := h j (by exact h1)
    rw [byteAt_in h2] at this
    exact UInt8.toNat_inj.1 (by exact Int.ofNat.inj this)

set_option maxHeartbeats 1000000 in
theorem f14_any (s : ByteArray) (v : Value) (bs : List UInt8) (w : World) (hs : Src w v bs) (h1 : s.size ≤ 10000000) (h2 : bs.length ≤ 10000000) :
    Calls Try.prog 14 #[.string s, v] w fun e w' => e = .returned (.bool (sameTB s bs)) ∧ ∃ m, w' = w.drewN m := by
  obtain ⟨sa, sc, rfl⟩ := hs.form
  by_cases hl : s.size = bs.length
  · have bl : ((s.size : Int) != (bs.length : Int)) = false := by simp [hl]
    go_enter Try.func14, Try.ntmps14
    go_wp2_with fail
    go_loopw [5] (fun i wr => ∃ k m : Nat, k ≤ bs.length ∧ i = .int .i64 k ∧ wr = w.drewN m ∧ ∀ j (hj : j < s.size), j < k → (s[j].toNat : Int) = byteAt bs j) (fun i _ => bs.length - (intOf i).toNat)
    case atStart => exact ⟨0, 0, Nat.zero_le _, rfl, rfl, fun j _ h => by omega⟩
    case round =>
      obtain ⟨k, m, hk, rfl, rfl, hj⟩ := hrel
      by_cases hlt : k < bs.length
      · obtain ⟨g, rfl, hcs⟩ := hs.cellsT hlt
        have ck := hcs k hlt
        have i1 : (k : Int) < (bs.length : Int) := by omega
        have i0 : (0 : Int) ≤ (k : Int) := by omega
        have hks : k < s.size := by omega
        have i2 : (k : Int) < (s.size : Int) := by omega
        have HJ : Hid _ := hj
        have hne := sameT_at (s := s) (bs := bs) hks
        have Hne : Hid _ := hne
        clear hne hj hcs hs
        by_cases he : (s[k].toNat : Int) = byteAt bs k
        · have be : ((s[k].toNat : Int) != byteAt bs k) = false := by simp [he]
          have He : Hid _ := he
          clear he
          go_wp2_with fail
          go_quiet (fail)
          go_wp2_with fail
          go_roundw
          case rel =>
            refine ⟨k + 1, _, by omega, by go_num, rfl, fun j hj hjk => ?_⟩
            by_cases e : j = k
            · subst e; exact He.out
            · exact HJ.out j hj (by omega)
          case measure => simp [intOf]; omega
        · have be : ((s[k].toNat : Int) != byteAt bs k) = true := by simp [he]
          have He : Hid _ := he
          clear he
          go_wp2_with fail
          go_quiet (fail)
          go_wp2_with fail
          go_ret
          exact ⟨ret_bool (by rw [Hne.out He.out]), drewN_two _ _ _⟩
      · have hall := sameT_all hl (fun j hh => hj j hh (by omega))
        have HA : Hid _ := hall
        clear hall hj
        go_wp2_with fail
        go_ret
        exact ⟨ret_bool (by rw [HA.out]), _, rfl⟩
  · have bl : ((s.size : Int) != (bs.length : Int)) = true := by simp; omega
    have hv := sameT_ne hl
    have HV : Hid _ := hv
    clear hv hl
    go_enter Try.func14, Try.ntmps14
    go_wp2_with fail
    go_ret
    exact ⟨ret_bool (by rw [HV.out]), 0, rfl⟩

set_option maxHeartbeats 400000 in
theorem f17_any (a : Option Addr) (len cap : Nat) (w : World) (h : len ≤ maxLen) :
    Calls Try.prog 17 #[.slice a len cap] w fun e w' => e = .returned (.bool (le20 len)) ∧ w' = w := by
  unfold maxLen at h
  go_enter Try.func17, Try.ntmps17
  go_wp2
  all_goals
    go_ret
    exact ⟨ret_bool (by unfold le20; simp; omega), rfl⟩
set_option maxHeartbeats 400000 in
theorem f19_any (a : Option Addr) (len cap : Nat) (w : World) (h : len ≤ maxLen) :
    Calls Try.prog 19 #[.slice a len cap] w fun e w' => e = .returned (.bool (le20 len)) ∧ w' = w := by
  unfold maxLen at h
  go_enter Try.func19, Try.ntmps19
  go_wp2
  all_goals
    go_ret
    exact ⟨ret_bool (by unfold le20; simp; omega), rfl⟩
end Go.Proofs.Qxb6601273a
