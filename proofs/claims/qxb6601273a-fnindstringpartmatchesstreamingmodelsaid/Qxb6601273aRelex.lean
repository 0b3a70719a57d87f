import Derived.Test.Qxb6601273aZNum
import Derived.Test.Qxb6601273aText
import Derived.Test.Qxb6601273aNumLaw
namespace Go.Proofs.Qxb6601273a
open Go.RowKit
set_option linter.unusedVariables false

theorem RowAt.one {w : World} {t : TypeId} {v x : Value} (h : RowAt w t v [x]) : ∃ g cap, v = .slice (some ⟨g, 0, none⟩) 1 cap ∧ w.cell? ⟨g, 0, none⟩ = some x ∧ g < w.heap.size := by
  rcases h with ⟨_, h⟩ | ⟨g, cap, cur, hv, _, hb, hc⟩
  · cases h
  · exact ⟨g, cap, hv, by rw [hb.cell, hc 0 (by simp)]; rfl, hb.lt⟩

/-- An answer of one token, written out. -/
theorem OutIs.one {w : World} {r : Value} {off : Int} {T : ByteArray} {o K : Int} {er : Bool} {eo : Int} {em : ByteArray} (h : OutIs w r off [(T, o, K)] [] er eo em) :
    ∃ ga ca gb cb gc cc d0 d2 e0 e2 f0 f2, r = .agg #[.int .i64 off, .slice (some ⟨ga, 0, none⟩) 1 ca, .slice (some ⟨gb, 0, none⟩) 1 cb, .slice (some ⟨gc, 0, none⟩) 1 cc, .slice d0 0 d2, .slice e0 0 e2, .slice f0 0 f2, .bool er, .int .i64 eo, .string em] ∧
      (w.cell? ⟨ga, 0, none⟩ = some (.int .u8 K) ∧ ga < w.heap.size) ∧ (w.cell? ⟨gb, 0, none⟩ = some (.int .i32 o) ∧ gb < w.heap.size) ∧ (w.cell? ⟨gc, 0, none⟩ = some (.string T) ∧ gc < w.heap.size) := by
  obtain ⟨a, b', c, d, e, f, hr, h1, h2, h3, h4, h5, h6⟩ := h
  obtain ⟨ga, ca, ea, ha⟩ := RowAt.one h1
  obtain ⟨gb, cb, eb, hb⟩ := RowAt.one h2
  obtain ⟨gc, cc, ec, hc⟩ := RowAt.one h3
  obtain ⟨d0, d2, ed⟩ := h4.slice
  obtain ⟨e0, e2, ee⟩ := h5.slice
  obtain ⟨f0, f2, ef⟩ := h6.slice
  simp only [o1Cells, o2Cells, o3Cells, List.map_nil, List.length_nil] at ed ee ef
  exact ⟨ga, ca, gb, cb, gc, cc, d0, d2, e0, e2, f0, f2, by rw [hr, ea, eb, ec, ed, ee, ef], ha, hb, hc⟩

theorem tok_self (bs : List UInt8) (off : Nat) (ho : off ≤ bs.length) : ∃ T : ByteArray, (numTok bs off = (T, (off : Int), numKind bs off)) ∧ T.size = numEnd bs off - off ∧ off ≤ numEnd bs off ∧ numEnd bs off ≤ bs.length ∧ numEnd T.data.toList 0 = T.size ∧ numTok T.data.toList 0 = (T, 0, numKind bs off) := by
  obtain ⟨h1, h2, h3, h4⟩ := relex ho
  have hl := ext_list bs off (numEnd bs off)
  have hz : ((⟨bs.toArray⟩ : ByteArray).extract off (numEnd bs off)).size = numEnd bs off - off := by
    have : ((⟨bs.toArray⟩ : ByteArray).extract off (numEnd bs off)).data.toList.length = numEnd bs off - off := by rw [hl]; exact cutOut_length h2
    exact this
  refine ⟨_, rfl, hz, h1, h2, ?_, ?_⟩
  · rw [hl, hz]; exact h3
  · unfold numTok
    have e1 : numEnd ((⟨bs.toArray⟩ : ByteArray).extract off (numEnd bs off)).data.toList 0 = numEnd bs off - off := by rw [hl]; exact h3
    have e2 : numKind ((⟨bs.toArray⟩ : ByteArray).extract off (numEnd bs off)).data.toList 0 = numKind bs off := by rw [hl]; exact h4
    rw [e1, e2]
    have e3 : (⟨((⟨bs.toArray⟩ : ByteArray).extract off (numEnd bs off)).data.toList.toArray⟩ : ByteArray) = (⟨bs.toArray⟩ : ByteArray).extract off (numEnd bs off) := by rfl
    rw [e3]
    generalize (⟨bs.toArray⟩ : ByteArray).extract off (numEnd bs off) = T at hz
    rw [← hz]
    have e4 : T.extract 0 T.size = T := by
      apply WideShapes.bytes_inj
      simp
    rw [e4]; rfl

set_option maxRecDepth 100000 in
set_option maxHeartbeats 1000000 in
theorem f4_main (a0 : Option Addr) (len0 cap0 : Nat) (z0 : List Int) (off : Nat) (w : World) (w0 : CameRow .u8 w a0 len0 cap0 z0) (hl : len0 ≤ 1048576) (ho : off ≤ len0) :
    Calls Try.prog 4 #[.slice a0 len0 cap0, .int .i64 off] w fun e w' => e = .returned (.bool true) ∧ Keep [] w w' := by
  have hle : le20 len0 = true := by unfold le20; simpa using hl
  have HLE : Hid _ := hle
  clear hle
  go_enter Try.func4, Try.ntmps4
  go_wp2_with fail
  refine (f15_any a0 len0 cap0 off _ (by unfold maxLen; omega)).mono ?_
  rw [HLE.out]
  rintro e w' ⟨rfl, rfl⟩
  go_wp2_with fail
  refine (f11_any a0 len0 cap0 z0 _ w0 (by omega)).mono ?_
  rintro e w1 ⟨v, bs, rfl, hbl, hown, hK1⟩
  have hs1 : Src w1 v bs := Src.of_owns (by rw [hbl]; exact hown)
  obtain ⟨T, ht1, ht2, ht3, ht4, ht5, ht6⟩ := tok_self bs off (by omega)
  go_wp2_with fail
  refine (f12_any v bs off _ hs1 (by omega) (by omega)).mono ?_
  rw [ht1]
  generalize numKind bs off = K at *
  generalize numEnd bs off = E at *
  rintro e w2 ⟨r, rfl, hout, hK2⟩
  obtain ⟨ga, ca, gb, cb, gc, cc, d0, d2, e0, e2, f0, f2, rfl, ⟨ha, la⟩, ⟨hb, lb⟩, ⟨hc, lc⟩⟩ := hout.one
  have hEs : ((E : Nat) : Int) = (off : Int) + (T.size : Int) := by omega
  have hEb : ((E : Int) != (off : Int) + (T.size : Int)) = false := by simp [hEs]
  have hTs : T.size ≤ 10000000 := by omega
  have Ht1 : Hid _ := ht1
  have Ht5 : Hid _ := ht5
  have Ht6 : Hid _ := ht6
  have HEs : Hid _ := hEs
  have Hht2 : Hid _ := ht2
  clear ht1 ht5 ht6 hEs ht2 hout
  go_wp2_with fail
  refine (f16_any T _ hTs).mono ?_
  rintro e w3 ⟨v2, rfl, hown2, hK3⟩
  have hs3 : Src w3 v2 T.data.toList := Src.of_owns hown2
  have hF : Blk w3 w2.heap.size 29 #[.int .i64 E, .slice (some ⟨ga, 0, none⟩) 1 ca, .slice (some ⟨gb, 0, none⟩) 1 cb, .slice (some ⟨gc, 0, none⟩) 1 cc, .slice d0 0 d2, .slice e0 0 e2, .slice f0 0 f2, .bool false, .int .i64 0, .string ⟨#[]⟩] := hK3.blk (Blk.new _ _ _) (by simp)
  have ha3 : w3.cell? ⟨ga, 0, none⟩ = some (.int .u8 K) := hK3.cell ((Keep.alloc [] _ _).cell ha (by simp)) (by simp)
  have hKa : Keep [] w' w3 := ((hK1.trans' hK2).trans' (Keep.alloc _ _ _)).trans' hK3
  clear hK1 hK2 hK3 hs1 hown hown2 ha hb hc w0
  have h12 := f12_any v2 T.data.toList 0 w3 hs3 (by omega) (by exact hTs)
  rw [show ((0 : Nat) : Int) = 0 from rfl, Ht5.out, Ht6.out] at h12
  have H12 : Hid _ := h12
  clear h12 hs3
  go_wp2_with fail
  refine Calls.mono H12.out ?_
  rintro e w4 ⟨r, rfl, hout, hK4⟩
  obtain ⟨ga', ca', gb', cb', gc', cc', d0', d2', e0', e2', f0', f2', rfl, ⟨ha', la'⟩, ⟨hb', lb'⟩, ⟨hc', lc'⟩⟩ := hout.one
  have hF4 := hK4.blk hF (by simp)
  have ha4 := hK4.cell ha3 (by simp)
  have hKb : Keep [] w' w4 := hKa.trans' hK4
  have hfl := hF4.lt
  obtain ⟨z0, z1, z2, z3, z4, z5, z6, z7, z8, z9⟩ := cells10 hF4
  clear z4 z5 z6 z7 z8 z9 hF hF4 ha3 hK4 hKa hout H12
  have hTb : ((T.size : Int) == (T.size : Int)) = true := by simp
  have hKb' : (K == K) = true := by simp
  go_wp2_with fail
  have la4 : ga < w4.heap.size := World.block_lt_of_cell? w4 ⟨ga, 0, none⟩ ha4
  go_quiet (fail)
  go_wp2
  go_ret
  exact ⟨ret_bool (by simp), (hKb.trans' (Keep.alloc _ _ _)).trans' (Keep.drewN _ _ _)⟩

set_option maxHeartbeats 1000000 in
theorem f4_big (a0 : Option Addr) (len0 cap0 : Nat) (a1 : Int) (w : World) (hm : len0 ≤ maxLen) (hl : 1048576 < len0) :
    Calls Try.prog 4 #[.slice a0 len0 cap0, .int .i64 a1] w fun e w' => e = .returned (.bool true) ∧ Keep [] w w' := by
  have hle : le20 len0 = false := by unfold le20; simpa using hl
  have HLE : Hid _ := hle
  clear hle
  go_enter Try.func4, Try.ntmps4
  go_wp2_with fail
  refine (f15_any a0 len0 cap0 a1 _ hm).mono ?_
  rw [HLE.out]
  rintro e w' ⟨rfl, rfl⟩
  go_wp2_with fail
  go_ret
  exact ⟨rfl, Keep.refl _ _⟩

set_option maxHeartbeats 1000000 in
theorem f4_neg (a0 : Option Addr) (len0 cap0 : Nat) (a1 : Int) (w : World) (hl : len0 ≤ 1048576) (h1 : a1 < 0) :
    Calls Try.prog 4 #[.slice a0 len0 cap0, .int .i64 a1] w fun e w' => e = .returned (.bool true) ∧ Keep [] w w' := by
  have hle : le20 len0 = true := by unfold le20; simpa using hl
  have HLE : Hid _ := hle
  clear hle
  go_enter Try.func4, Try.ntmps4
  go_wp2_with fail
  refine (f15_any a0 len0 cap0 a1 _ (by unfold maxLen; omega)).mono ?_
  rw [HLE.out]
  rintro e w' ⟨rfl, rfl⟩
  go_wp2_with fail
  go_ret
  exact ⟨rfl, Keep.refl _ _⟩

set_option maxHeartbeats 1000000 in
theorem f4_past (a0 : Option Addr) (len0 cap0 : Nat) (a1 : Int) (w : World) (hl : len0 ≤ 1048576) (h0 : 0 ≤ a1) (h1 : (len0 : Int) < a1) :
    Calls Try.prog 4 #[.slice a0 len0 cap0, .int .i64 a1] w fun e w' => e = .returned (.bool true) ∧ Keep [] w w' := by
  have hle : le20 len0 = true := by unfold le20; simpa using hl
  have HLE : Hid _ := hle
  clear hle
  go_enter Try.func4, Try.ntmps4
  go_wp2_with fail
  refine (f15_any a0 len0 cap0 a1 _ (by unfold maxLen; omega)).mono ?_
  rw [HLE.out]
  rintro e w' ⟨rfl, rfl⟩
  go_wp2_with fail
  go_ret
  exact ⟨rfl, Keep.refl _ _⟩

theorem CameRow.max {k : IntKind} {w : World} {a : Option Addr} {len cap : Nat} {zs : List Int} (h : CameRow k w a len cap zs) : len ≤ maxLen := by
  rcases h with ⟨_, h, _⟩ | ⟨x, _, h1, h2, _⟩
  · rw [h]; exact Nat.zero_le _
  · exact Nat.le_trans h1 h2

theorem f4_all (a0 : Option Addr) (len0 cap0 : Nat) (z0 : List Int) (a1 : Int) (w : World) (w0 : CameRow .u8 w a0 len0 cap0 z0) :
    Calls Try.prog 4 #[.slice a0 len0 cap0, .int .i64 a1] w fun e w' => e = .returned (.bool true) ∧ Keep [] w w' := by
  by_cases hl : len0 ≤ 1048576
  · by_cases h0 : 0 ≤ a1
    · by_cases h1 : a1 ≤ len0
      · obtain ⟨off, rfl⟩ := Int.eq_ofNat_of_zero_le h0
        exact f4_main a0 len0 cap0 z0 off w w0 hl (by omega)
      · exact f4_past a0 len0 cap0 a1 w hl h0 (by omega)
    · exact f4_neg a0 len0 cap0 a1 w hl (by omega)
  · exact f4_big a0 len0 cap0 a1 w w0.max (by omega)
end Go.Proofs.Qxb6601273a
