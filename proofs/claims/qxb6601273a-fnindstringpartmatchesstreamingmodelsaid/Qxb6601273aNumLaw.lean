import Derived.Test.Qxb6601273aNumber
namespace Go.Proofs.Qxb6601273a
set_option linter.unusedVariables false

theorem digEnd_dig (bs : List UInt8) (k j : Nat) (h1 : k ≤ j) (h2 : j < digEnd bs k) : digB (byteAt bs j) = true := by
  unfold digEnd at h2
  have hj : j - k < ((bs.drop k).takeWhile fun b => digB (b.toNat : Int)).length := by omega
  have hm := List.getElem_mem hj
  have hp := List.all_takeWhile (p := fun b : UInt8 => digB (b.toNat : Int)) (l := bs.drop k)
  rw [List.all_eq_true] at hp
  have h3 := hp _ hm
  have hsub : ((bs.drop k).takeWhile fun b => digB (b.toNat : Int)) <+: bs.drop k := List.takeWhile_prefix _
  have he : ((bs.drop k).takeWhile fun b => digB (b.toNat : Int))[j - k] = (bs.drop k)[j - k]'(Nat.lt_of_lt_of_le hj hsub.length_le) := hsub.getElem hj
  rw [he] at h3
  have hlt : j < bs.length := by
    have := Nat.lt_of_lt_of_le hj hsub.length_le
    simp at this; omega
  rw [byteAt_in hlt]
  simp only [List.getElem_drop] at h3
  have e : k + (j - k) = j := by omega
  simp only [e] at h3
  exact h3

theorem dropWhile_drop {α : Type} (p : α → Bool) : ∀ l : List α, l.dropWhile p = l.drop (l.takeWhile p).length
  | [] => rfl
  | a :: l => by
    rw [List.dropWhile_cons, List.takeWhile_cons]
    split
    · simpa using dropWhile_drop p l
    · rfl

theorem digEnd_not (bs : List UInt8) (k : Nat) : digB (byteAt bs (digEnd bs k)) = false := by
  unfold digEnd
  unfold byteAt
  have h := List.head?_dropWhile_not (p := fun b : UInt8 => digB (b.toNat : Int)) (bs.drop k)
  have e := dropWhile_drop (fun b : UInt8 => digB (b.toNat : Int)) (bs.drop k)
  rw [e, List.drop_drop] at h
  rw [List.getD_eq_getElem?_getD]
  rw [List.head?_drop] at h
  cases hh : bs[k + ((bs.drop k).takeWhile fun b => digB (b.toNat : Int)).length]? with
  | none => rfl
  | some b => rw [hh] at h; simpa using h

/-- The token's bytes, alone. -/
def cutOut (bs : List UInt8) (off e : Nat) : List UInt8 := (bs.take e).drop off
theorem cutOut_length {bs : List UInt8} {off e : Nat} (h : e ≤ bs.length) : (cutOut bs off e).length = e - off := by
  unfold cutOut; simp; omega
theorem cutOut_at {bs : List UInt8} {off e k : Nat} (h : e ≤ bs.length) (hk : off + k < e) : byteAt (cutOut bs off e) k = byteAt bs (off + k) := by
  unfold byteAt cutOut
  rw [List.getD_eq_getElem?_getD, List.getD_eq_getElem?_getD, List.getElem?_drop, List.getElem?_take, if_pos (by omega)]
theorem cutOut_end {bs : List UInt8} {off e k : Nat} (h : e ≤ bs.length) (hk : e ≤ off + k) : byteAt (cutOut bs off e) k = 0 :=
  byteAt_out (by rw [cutOut_length h]; omega)

theorem digEnd_cut {bs : List UInt8} {off e s : Nat} (h : e ≤ bs.length) (h1 : off ≤ s) (h2 : digEnd bs s ≤ e) : digEnd (cutOut bs off e) (s - off) = digEnd bs s - off := by
  have hge := digEnd_ge bs s
  refine digEnd_eq (by omega) (by rw [cutOut_length h]; omega) (fun j j1 j2 => ?_) ?_
  · rw [cutOut_at h (by omega)]
    exact digEnd_dig bs s _ (by omega) (by omega)
  · by_cases he : digEnd bs s = e
    · rw [cutOut_end h (by omega)]; rfl
    · rw [cutOut_at h (by omega), show off + (digEnd bs s - off) = digEnd bs s from by omega]
      exact digEnd_not bs s

theorem floatB_cut {bs : List UInt8} {off e d : Nat} (h : e ≤ bs.length) (h1 : off ≤ d) (h2 : d < e) (h3 : digB (byteAt bs (d + 1)) = true → d + 1 < e) (hf : floatB bs off d = true) : floatB (cutOut bs off e) 0 (d - off) = true := by
  unfold floatB at hf ⊢
  rw [cutOut_at h (by omega), cutOut_at h (by omega), show off + (d - off) = d from by omega, show off + 0 = off from by omega]
  simp only [Bool.and_eq_true, Bool.or_eq_true, decide_eq_true_eq] at hf ⊢
  refine ⟨hf.1, ?_⟩
  rcases hf.2 with ⟨g1, g2⟩ | ⟨g1, g2⟩
  · exact .inl ⟨by omega, g2⟩
  · refine .inr ⟨?_, ?_⟩
    · rcases g1 with g1 | ⟨g1, g3⟩
      · exact .inl (by omega)
      · exact .inr ⟨by omega, g3⟩
    · rw [cutOut_at h (by have := h3 g2; omega), show off + (d - off + 1) = d + 1 from by omega]
      exact g2

theorem expEnd_cut {bs : List UInt8} {off p : Nat} (h : p ≤ bs.length) (h1 : off ≤ p) : expEnd (cutOut bs off (expEnd bs p)) (p - off) = expEnd bs p - off := by
  have hle := expEnd_le bs p h
  by_cases hE : isE (byteAt bs p) = true
  · by_cases hD : digB (byteAt bs (signEnd bs (p + 1))) = true
    · have e1 : expEnd bs p = digEnd bs (signEnd bs (p + 1)) := by unfold expEnd; rw [if_pos hE, if_pos hD]
      have q1 := signEnd_ge bs (p + 1)
      have q2 : signEnd bs (p + 1) < digEnd bs (signEnd bs (p + 1)) := by
        rcases Nat.lt_or_ge (signEnd bs (p + 1)) (digEnd bs (signEnd bs (p + 1))) with q | q
        · exact q
        · have hn := digEnd_not bs (signEnd bs (p + 1))
          have hg := digEnd_ge bs (signEnd bs (p + 1))
          rw [show digEnd bs (signEnd bs (p + 1)) = signEnd bs (p + 1) from by omega] at hn
          rw [hn] at hD; cases hD
      rw [e1] at hle ⊢
      have a1 : isE (byteAt (cutOut bs off (digEnd bs (signEnd bs (p + 1)))) (p - off)) = true := by
        rw [cutOut_at hle (by omega), show off + (p - off) = p from by omega]; exact hE
      have a2 : signEnd (cutOut bs off (digEnd bs (signEnd bs (p + 1)))) (p - off + 1) = signEnd bs (p + 1) - off := by
        have hs : byteAt (cutOut bs off (digEnd bs (signEnd bs (p + 1)))) (p - off + 1) = byteAt bs (p + 1) := by
          rw [cutOut_at hle (by omega), show off + (p - off + 1) = p + 1 from by omega]
        generalize digEnd bs (signEnd bs (p + 1)) = z at *
        unfold signEnd
        rw [hs]
        split <;> omega
      unfold expEnd
      rw [if_pos a1, a2]
      have a3 : digB (byteAt (cutOut bs off (digEnd bs (signEnd bs (p + 1)))) (signEnd bs (p + 1) - off)) = true := by
        rw [cutOut_at hle (by omega), show off + (signEnd bs (p + 1) - off) = signEnd bs (p + 1) from by omega]; exact hD
      rw [if_pos a3]
      exact digEnd_cut hle (by omega) (Nat.le_refl _)
    · have e1 : expEnd bs p = p := by unfold expEnd; rw [if_pos hE, if_neg hD]
      rw [e1]
      unfold expEnd
      rw [cutOut_end h (by omega), if_neg (by decide)]
  · have e1 : expEnd bs p = p := by unfold expEnd; rw [if_neg hE]
    rw [e1]
    unfold expEnd
    rw [cutOut_end h (by omega), if_neg (by decide)]

/-- The token alone is read back whole, and of the same kind. -/
theorem relex {bs : List UInt8} {off : Nat} (ho : off ≤ bs.length) : off ≤ numEnd bs off ∧ numEnd bs off ≤ bs.length ∧ numEnd (cutOut bs off (numEnd bs off)) 0 = numEnd bs off - off ∧ numKind (cutOut bs off (numEnd bs off)) 0 = numKind bs off := by
  have d1 := digEnd_ge bs off
  have d2 := digEnd_le bs off ho
  by_cases hf : floatB bs off (digEnd bs off) = true
  · have hdl := floatB_lt hf
    have p1 := digEnd_ge bs (digEnd bs off + 1)
    have p2 := digEnd_le bs (digEnd bs off + 1) (by omega)
    have z1 := expEnd_ge bs (digEnd bs (digEnd bs off + 1))
    have z2 := expEnd_le bs (digEnd bs (digEnd bs off + 1)) p2
    have e1 : numEnd bs off = expEnd bs (digEnd bs (digEnd bs off + 1)) := by unfold numEnd; rw [if_pos hf]
    have k1 : numKind bs off = 3 := by unfold numKind; rw [if_pos hf]
    have c1 := expEnd_cut (bs := bs) (off := off) p2 (by omega)
    rw [e1, k1]
    have h3 : digB (byteAt bs (digEnd bs off + 1)) = true → digEnd bs off + 1 < expEnd bs (digEnd bs (digEnd bs off + 1)) := by
      intro hd
      rcases Nat.lt_or_ge (digEnd bs off + 1) (digEnd bs (digEnd bs off + 1)) with q | q
      · omega
      · have hn := digEnd_not bs (digEnd bs off + 1)
        rw [show digEnd bs (digEnd bs off + 1) = digEnd bs off + 1 from by omega] at hn
        rw [hn] at hd; cases hd
    have f1 := floatB_cut (e := expEnd bs (digEnd bs (digEnd bs off + 1))) z2 d1 (by omega) h3 hf
    have g1 : digEnd (cutOut bs off (expEnd bs (digEnd bs (digEnd bs off + 1)))) 0 = digEnd bs off - off := by
      have := digEnd_cut (bs := bs) (off := off) (e := expEnd bs (digEnd bs (digEnd bs off + 1))) (s := off) z2 (Nat.le_refl _) (by omega)
      rwa [Nat.sub_self] at this
    have g2 := digEnd_cut (bs := bs) (off := off) (e := expEnd bs (digEnd bs (digEnd bs off + 1))) (s := digEnd bs off + 1) z2 (by omega) (by omega)
    refine ⟨by omega, by omega, ?_, ?_⟩
    · unfold numEnd
      rw [g1, if_pos f1, show digEnd bs off - off + 1 = digEnd bs off + 1 - off from by omega, g2, c1]
    · unfold numKind
      rw [g1, if_pos f1]
  · have e1 : numEnd bs off = digEnd bs off := by unfold numEnd; rw [if_neg hf]
    have k1 : numKind bs off = 2 := by unfold numKind; rw [if_neg hf]
    rw [e1, k1]
    have g1 : digEnd (cutOut bs off (digEnd bs off)) 0 = digEnd bs off - off := by
      have := digEnd_cut (bs := bs) (off := off) (e := digEnd bs off) (s := off) d2 (Nat.le_refl _) (Nat.le_refl _)
      rwa [Nat.sub_self] at this
    have f1 : ¬ floatB (cutOut bs off (digEnd bs off)) 0 (digEnd bs off - off) = true := by
      unfold floatB
      rw [cutOut_end d2 (by omega)]
      simp
    refine ⟨by omega, by omega, ?_, ?_⟩
    · unfold numEnd; rw [g1, if_neg f1]
    · unfold numKind; rw [g1, if_neg f1]
end Go.Proofs.Qxb6601273a
