import Derived.Test.Qxb6601273aAuto
import Derived.Test.Qxb6601273aRelex
import Derived.Test.Qxb6601273aSame
namespace Go.Proofs.Qxb6601273a
open Go.RowKit
set_option linter.unusedVariables false

/-- A slice of the bytes bs, wherever in a block it begins. -/
def SrcOf (w : World) (sa : Option Addr) (bs : List UInt8) : Prop := ∀ k, k < bs.length → ∃ g o, sa = some ⟨g, o, none⟩ ∧ w.cell? ⟨g, o + k, none⟩ = some (.int .u8 (byteAt bs k))

set_option maxHeartbeats 1000000 in
theorem f14_at (s : ByteArray) (sa : Option Addr) (n sc : Nat) (bs : List UInt8) (w : World) (hs : SrcOf w sa bs) (hnb : bs.length = n) (h1 : s.size ≤ 10000000) (h2 : n ≤ 10000000) :
    Calls Try.prog 14 #[.string s, .slice sa n sc] w fun e w' => e = .returned (.bool (sameTB s bs)) ∧ ∃ m, w' = w.drewN m := by
  subst hnb
  by_cases hl : s.size = bs.length
  · have bl : ((s.size : Int) != (bs.length : Int)) = false := by simp [hl]
    go_enter Try.func14, Try.ntmps14
    go_wp2_with fail
    go_loopw [5] (fun i wr => ∃ k m : Nat, k ≤ bs.length ∧ i = .int .i64 k ∧ wr = w.drewN m ∧ ∀ j (hj : j < s.size), j < k → (s[j].toNat : Int) = byteAt bs j) (fun i _ => bs.length - (intOf i).toNat)
    case atStart => exact ⟨0, 0, Nat.zero_le _, rfl, rfl, fun j _ h => by omega⟩
    case round =>
      obtain ⟨k, m, hk, rfl, rfl, hj⟩ := hrel
      by_cases hlt : k < bs.length
      · obtain ⟨g, o, rfl, ck⟩ := hs k hlt
        have i1 : (k : Int) < (bs.length : Int) := by omega
        have i0 : (0 : Int) ≤ (k : Int) := by omega
        have hks : k < s.size := by omega
        have i2 : (k : Int) < (s.size : Int) := by omega
        have HJ : Hid _ := hj
        have hne := sameT_at (s := s) (bs := bs) hks
        have Hne : Hid _ := hne
        clear hne hj hs
        by_cases he : (s[k].toNat : Int) = byteAt bs k
        · have be : ((s[k].toNat : Int) != byteAt bs k) = false := by simp [he]
          have He : Hid _ := he
          clear he
          go_wp2_with fail
          go_quiet (fail)
          go_wp2_with fail
          go_roundw
          case rel =>
            refine ⟨k + 1, _, by omega, by go_num, rfl, fun j hj hjk => ?_⟩
            by_cases e : j = k
            · subst e; exact He.out
            · exact HJ.out j hj (by omega)
          case measure => simp [intOf]; omega
        · have be : ((s[k].toNat : Int) != byteAt bs k) = true := by simp [he]
          have He : Hid _ := he
          clear he
          go_wp2_with fail
          go_quiet (fail)
          go_wp2_with fail
          go_ret
          exact ⟨ret_bool (by rw [Hne.out He.out]), drewN_two _ _ _⟩
      · have hall := sameT_all hl (fun j hh => hj j hh (by omega))
        have HA : Hid _ := hall
        clear hall hj
        go_wp2_with fail
        go_ret
        exact ⟨ret_bool (by rw [HA.out]), _, rfl⟩
  · have bl : ((s.size : Int) != (bs.length : Int)) = true := by simp; omega
    have hv := sameT_ne hl
    have HV : Hid _ := hv
    clear hv hl
    go_enter Try.func14, Try.ntmps14
    go_wp2_with fail
    go_ret
    exact ⟨ret_bool (by rw [HV.out]), 0, rfl⟩

theorem model_is {bs : List UInt8} {off : Nat} (ho : off ≤ bs.length) : modelEnd (auto bs (bs.length - off + 1) off 0 (-1)) (digEnd bs off) = .returned (.tuple #[.int .i64 (numEnd bs off : Nat), .bool (floatB bs off (digEnd bs off))]) := by
  rw [auto_is ho]
  unfold modelEnd
  by_cases hf : floatB bs off (digEnd bs off) = true
  · rw [if_pos hf, if_pos (by omega), hf]
  · rw [if_neg hf, if_neg (by omega)]
    have e : numEnd bs off = digEnd bs off := by unfold numEnd; rw [if_neg hf]
    rw [e, Bool.eq_false_iff.2 hf]

set_option maxRecDepth 100000 in
set_option maxHeartbeats 2000000 in
theorem f3_main (a0 : Option Addr) (len0 cap0 : Nat) (z0 : List Int) (off : Nat) (w : World) (w0 : CameRow .u8 w a0 len0 cap0 z0) (hl : len0 ≤ 1048576) (ho : off ≤ len0) :
    Calls Try.prog 3 #[.slice a0 len0 cap0, .int .i64 off] w fun e w' => e = .returned (.bool true) ∧ Keep [] w w' := by
  have hle : le20 len0 = true := by unfold le20; simpa using hl
  have HLE : Hid _ := hle
  clear hle
  go_enter Try.func3, Try.ntmps3
  go_wp2_with fail
  refine (f10_any a0 len0 cap0 off _ (by unfold maxLen; omega)).mono ?_
  rw [HLE.out]
  rintro e w' ⟨rfl, rfl⟩
  go_wp2_with fail
  refine (f11_any a0 len0 cap0 z0 _ w0 (by omega)).mono ?_
  rintro e w1 ⟨v, bs, rfl, hbl, hown, hK1⟩
  subst hbl
  have hs1 : Src w1 v bs := Src.of_owns hown
  obtain ⟨sa, sc, rfl⟩ := hs1.form
  have hT : numTok bs off = ((⟨bs.toArray⟩ : ByteArray).extract off (numEnd bs off), (off : Int), numKind bs off) := rfl
  obtain ⟨hq1, hq2, _, _⟩ := relex (bs := bs) (off := off) (by omega)
  have hsame : sameTB ((⟨bs.toArray⟩ : ByteArray).extract off (numEnd bs off)) (cutOut bs off (numEnd bs off)) = true := by
    unfold sameTB; rw [ext_list]; exact beq_self_eq_true _
  have hmod := model_is (bs := bs) (off := off) (by omega)
  have hkd : numKind bs off = if floatB bs off (digEnd bs off) = true then 3 else 2 := rfl
  have hTz : ((⟨bs.toArray⟩ : ByteArray).extract off (numEnd bs off)).size ≤ 10000000 := by
    have : ((⟨bs.toArray⟩ : ByteArray).extract off (numEnd bs off)).data.toList.length ≤ 10000000 := by rw [ext_list]; simp; omega
    exact this
  have Hsame := hidden hsame
  have Hmod := hidden hmod
  clear hsame hmod hown w0
  go_wp2_with fail
  refine (f12_any _ bs off _ hs1 (by omega) (by omega)).mono ?_
  rw [hT, hkd]
  generalize (⟨bs.toArray⟩ : ByteArray).extract off (numEnd bs off) = T at *
  generalize floatB bs off (digEnd bs off) = fl at *
  clear hT hkd
  rintro e w2 ⟨r, rfl, hout, hK2⟩
  have hs2 := hK2.src hs1 (by simp)
  obtain ⟨ga, ca, gb, cb, gc, cc, d0, d2, e0, e2, f0, f2, rfl, ⟨ha, la⟩, ⟨hb, lb⟩, ⟨hc, lc⟩⟩ := hout.one
  clear hout
  have hkk : Keep [] w' w2 := hK1.trans' hK2
  clear hK1 hK2 hs1
  have h13 := fun (W : World) (h : Src W (.slice sa bs.length sc) bs) => f13_any _ bs off W h (by omega) (by omega)
  rw [Hmod.out] at h13
  have H13 := hidden h13
  clear h13 Hmod
  go_wp2_with fail
  have hs3 : Src (w2.alloc (.cells #[.int .i64 (numEnd bs off : Nat), .slice (some ⟨ga, 0, none⟩) 1 ca, .slice (some ⟨gb, 0, none⟩) 1 cb, .slice (some ⟨gc, 0, none⟩) 1 cc, .slice d0 0 d2, .slice e0 0 e2, .slice f0 0 f2, .bool false, .int .i64 0, .string ⟨#[]⟩] 29)) (.slice sa bs.length sc) bs := (Keep.alloc [] _ _).src hs2 (by simp)
  refine (H13.out _ hs3).mono ?_
  rintro e w' ⟨rfl, rfl⟩
  have hcl : (cutOut bs off (numEnd bs off)).length = numEnd bs off - off := cutOut_length hq2
  have h14 : ∀ (sa' : Option Addr) (c' : Nat) (W : World), SrcOf W sa' (cutOut bs off (numEnd bs off)) → Calls Try.prog 14 #[.string T, .slice sa' (numEnd bs off - off) c'] W fun e w' => e = .returned (.bool true) ∧ ∃ m, w' = W.drewN m := by
    intro sa' c' W h
    have := f14_at T sa' (numEnd bs off - off) c' (cutOut bs off (numEnd bs off)) W h hcl hTz (by omega)
    rw [Hsame.out] at this
    exact this
  have H14 := hidden h14
  have hcut : ∀ k, k < numEnd bs off - off → byteAt (cutOut bs off (numEnd bs off)) k = byteAt bs (off + k) := fun k hk => cutOut_at hq2 (by omega)
  have Hcut := hidden hcut
  have Hcl := hidden hcl
  clear h14 hcut hcl H13 Hsame
  generalize numEnd bs off = E at *
  have j1 : (0 : Int) ≤ (off : Int) := by omega
  have j2 : (off : Int) ≤ (E : Int) := by omega
  rcases hs3 with ⟨h1, hbe⟩ | ⟨g, cap, cs, h1, hle, hbk, hcs⟩
  · have hE0 : E = 0 ∧ off = 0 := by rw [hbe] at hq2 ho; simp at hq2 ho; omega
    obtain ⟨rfl, rfl⟩ := hE0
    subst hbe
    simp only [Value.slice.injEq] at h1
    obtain ⟨rfl, -, rfl⟩ := h1
    have hso : ∀ sa' (W : World), SrcOf W sa' (cutOut [] 0 0) := fun sa' W k hk => by simp [cutOut] at hk
    have Hso := hidden hso
    clear hso hs2
    cases fl
    · go_wp2_with fail
      go_quiet ((go_at_call 14; exact Calls.quiet_of (H14.out _ _ _ (by exact Hso.out _ _))))
      go_wp2
      go_ret
      exact ⟨rfl, (hkk.trans' (Keep.alloc _ _ _)).trans' (Keep.drewN _ _ _)⟩
    · go_wp2_with fail
      go_quiet ((go_at_call 14; exact Calls.quiet_of (H14.out _ _ _ (by exact Hso.out _ _))))
      go_wp2
      go_ret
      exact ⟨rfl, (hkk.trans' (Keep.alloc _ _ _)).trans' (Keep.drewN _ _ _)⟩
  · simp only [Value.slice.injEq] at h1
    obtain ⟨rfl, -, rfl⟩ := h1
    have j3 : (E : Int) ≤ (sc : Int) := by omega
    by_cases hcap : sc = off
    · have hso : ∀ sa' (W : World), SrcOf W sa' (cutOut bs off E) := fun sa' W k hk => by rw [Hcl.out] at hk; omega
      have Hso := hidden hso
      clear hso hbk hcs hs2
      cases fl
      · go_wp2_with fail
        go_quiet ((go_at_call 14; exact Calls.quiet_of (H14.out _ _ _ (by exact Hso.out _ _))))
        go_wp2
        go_ret
        exact ⟨rfl, (hkk.trans' (Keep.alloc _ _ _)).trans' (Keep.drewN _ _ _)⟩
      · go_wp2_with fail
        go_quiet ((go_at_call 14; exact Calls.quiet_of (H14.out _ _ _ (by exact Hso.out _ _))))
        go_wp2
        go_ret
        exact ⟨rfl, (hkk.trans' (Keep.alloc _ _ _)).trans' (Keep.drewN _ _ _)⟩
    · have hso : ∀ m, SrcOf ((w2.alloc (.cells #[.int .i64 (E : Int), .slice (some ⟨ga, 0, none⟩) 1 ca, .slice (some ⟨gb, 0, none⟩) 1 cb, .slice (some ⟨gc, 0, none⟩) 1 cc, .slice d0 0 d2, .slice e0 0 e2, .slice f0 0 f2, .bool false, .int .i64 0, .string ⟨#[]⟩] 29)).drewN m) (some ⟨g, off, none⟩) (cutOut bs off E) := by
        intro m k hk
        rw [Hcl.out] at hk
        refine ⟨g, off, rfl, ?_⟩
        rw [Hcut.out k hk]
        exact (hbk.cell (off + k)).trans (hcs (off + k) (by omega))
      have Hso := hidden hso
      clear hso hbk hcs hs2
      cases fl
      · go_wp2_with fail
        go_quiet ((go_at_call 14; exact Calls.quiet_of (H14.out _ _ _ (by exact Hso.out _))))
        go_wp2
        go_ret
        exact ⟨rfl, (hkk.trans' (Keep.alloc _ _ _)).trans' (Keep.drewN _ _ _)⟩
      · go_wp2_with fail
        go_quiet ((go_at_call 14; exact Calls.quiet_of (H14.out _ _ _ (by exact Hso.out _))))
        go_wp2
        go_ret
        exact ⟨rfl, (hkk.trans' (Keep.alloc _ _ _)).trans' (Keep.drewN _ _ _)⟩

set_option maxHeartbeats 1000000 in
theorem f3_big (a0 : Option Addr) (len0 cap0 : Nat) (a1 : Int) (w : World) (hm : len0 ≤ maxLen) (hl : 1048576 < len0) :
    Calls Try.prog 3 #[.slice a0 len0 cap0, .int .i64 a1] w fun e w' => e = .returned (.bool true) ∧ Keep [] w w' := by
  have hle : le20 len0 = false := by unfold le20; simpa using hl
  have HLE : Hid _ := hle
  clear hle
  go_enter Try.func3, Try.ntmps3
  go_wp2_with fail
  refine (f10_any a0 len0 cap0 a1 _ hm).mono ?_
  rw [HLE.out]
  rintro e w' ⟨rfl, rfl⟩
  go_wp2_with fail
  go_ret
  exact ⟨rfl, Keep.refl _ _⟩

set_option maxHeartbeats 1000000 in
theorem f3_neg (a0 : Option Addr) (len0 cap0 : Nat) (a1 : Int) (w : World) (hl : len0 ≤ 1048576) (h1 : a1 < 0) :
    Calls Try.prog 3 #[.slice a0 len0 cap0, .int .i64 a1] w fun e w' => e = .returned (.bool true) ∧ Keep [] w w' := by
  have hle : le20 len0 = true := by unfold le20; simpa using hl
  have HLE : Hid _ := hle
  clear hle
  go_enter Try.func3, Try.ntmps3
  go_wp2_with fail
  refine (f10_any a0 len0 cap0 a1 _ (by unfold maxLen; omega)).mono ?_
  rw [HLE.out]
  rintro e w' ⟨rfl, rfl⟩
  go_wp2_with fail
  go_ret
  exact ⟨rfl, Keep.refl _ _⟩

set_option maxHeartbeats 1000000 in
theorem f3_past (a0 : Option Addr) (len0 cap0 : Nat) (a1 : Int) (w : World) (hl : len0 ≤ 1048576) (h0 : 0 ≤ a1) (h1 : (len0 : Int) < a1) :
    Calls Try.prog 3 #[.slice a0 len0 cap0, .int .i64 a1] w fun e w' => e = .returned (.bool true) ∧ Keep [] w w' := by
  have hle : le20 len0 = true := by unfold le20; simpa using hl
  have HLE : Hid _ := hle
  clear hle
  go_enter Try.func3, Try.ntmps3
  go_wp2_with fail
  refine (f10_any a0 len0 cap0 a1 _ (by unfold maxLen; omega)).mono ?_
  rw [HLE.out]
  rintro e w' ⟨rfl, rfl⟩
  go_wp2_with fail
  go_ret
  exact ⟨rfl, Keep.refl _ _⟩

theorem f3_all (a0 : Option Addr) (len0 cap0 : Nat) (z0 : List Int) (a1 : Int) (w : World) (w0 : CameRow .u8 w a0 len0 cap0 z0) :
    Calls Try.prog 3 #[.slice a0 len0 cap0, .int .i64 a1] w fun e w' => e = .returned (.bool true) ∧ Keep [] w w' := by
  by_cases hl : len0 ≤ 1048576
  · by_cases h0 : 0 ≤ a1
    · by_cases h1 : a1 ≤ len0
      · obtain ⟨off, rfl⟩ := Int.eq_ofNat_of_zero_le h0
        exact f3_main a0 len0 cap0 z0 off w w0 hl (by omega)
      · exact f3_past a0 len0 cap0 a1 w hl h0 (by omega)
    · exact f3_neg a0 len0 cap0 a1 w hl (by omega)
  · exact f3_big a0 len0 cap0 a1 w w0.max (by omega)
end Go.Proofs.Qxb6601273a
