import Derived.Test.Qxb6601273aMain7
import Derived.Test.Qxb6601273aEarly9
import Derived.Test.Qxb6601273aSameOut
import Derived.Test.Qxb6601273aNoQuo
import Derived.Test.Qxb6601273aIndDecF
namespace Go.Proofs.Qxb6601273a
open Go.RowKit
set_option linter.unusedVariables false

/-- The copy of whatever slice of bytes came in: its very bytes. -/
theorem f11_vals (a : Option Addr) (len cap : Nat) (zs : List Int) (w : World) (h : CameRow .u8 w a len cap zs) (hlen : len ≤ 100000000) :
    Calls Try.prog 11 #[.slice a len cap] w fun e w' => ∃ v bs, e = .returned v ∧ bs.length = len ∧ (∀ j, j < len → byteAt bs j = zs.getD j 0) ∧ w'.ownsRow w.heap.size 5 1 v len (byteCells bs) ∧ Keep [] w w' := by
  rcases h with ⟨rfl, rfl, rfl, rfl⟩ | ⟨x, rfl, hle, hcm, hz, hc, hwf⟩
  · exact (f11_none w).mono fun e w' ⟨he, hw⟩ => ⟨_, [], he, rfl, fun j hj => by omega, by rw [hw]; exact World.ownsRow_nil _ _ _ _, by rw [hw]; exact Keep.refl _ _⟩
  · refine (f11_some x len cap zs w hle hz hlen hc).mono fun e w' ⟨he, cur, hB, hsz, hcur, hK⟩ => ?_
    obtain ⟨bs, hbl, hbz⟩ := bytes_of hwf
    have htk : ∀ j, j < len → byteAt (bs.take len) j = zs.getD j 0 := by
      intro j hj
      rw [← hbz j (by omega)]
      unfold byteAt
      simp [List.getD_eq_getElem?_getD, hj]
    refine ⟨_, bs.take len, he, by simp; omega, htk, ⟨by simp [byteCells_length]; omega, .inr ⟨w.heap.size, len, cur, rfl, Nat.le_refl _, hB, Nat.le_refl _, by unfold maxLen; omega, by omega, ?_⟩⟩, hK⟩
    apply List.ext_getElem?
    intro j
    rw [List.getElem?_take]
    by_cases hj : j < len
    · rw [if_pos (by omega), Array.getElem?_toList, hcur j hj, byteCells_get (by simp; omega), htk j hj]
    · rw [if_neg (by omega), List.getElem?_eq_none]
      simp [byteCells_length]; omega

set_option maxRecDepth 100000 in
set_option maxHeartbeats 4000000 in
theorem f9_main (H18 : S18) (H20 : S20N) (a0 : Option Addr) (len0 cap0 : Nat) (z0 : List Int) (off : Nat) (a2 : Option Addr) (n cap2 : Nat) (z2 : List Int) (a3 : Option Addr) (cap3 : Nat) (z3 : List Int) (a4 : Option Addr) (cap4 : Nat) (z4 : List Int) (w : World)
    (w0 : CameRow .u8 w a0 len0 cap0 z0) (w2 : CameRow .i64 w a2 n cap2 z2) (w3 : CameRow .i64 w a3 n cap3 z3) (w4 : CameRow .i64 w a4 n cap4 z4) (hle : le20s len0 n n n = true) (hl0 : len0 ≤ 524288) (hn : n ≤ 16384) (hn0 : 0 < n) (ho : off ≤ len0) :
    Calls Try.prog 9 #[.slice a0 len0 cap0, .int .i64 off, .slice a2 n cap2, .slice a3 n cap3, .slice a4 n cap4] w fun e w' => e = .returned (.bool true) ∧ Keep [] w w' := by
  have M0 := hidden w0.max
  have M2 := hidden w2.max
  have M3 := hidden w3.max
  have M4 := hidden w4.max
  have HLE := hidden hle
  have W0 := hidden w0
  have W2 := hidden w2
  have W3 := hidden w3
  have W4 := hidden w4
  have i1 : ¬ ((off : Int) < 0) := by omega
  have i2 : ¬ ((len0 : Int) < (off : Int)) := by omega
  clear hle w0 w2 w3 w4
  go_enter Try.func9, Try.ntmps9
  go_wp2_with fail
  refine (f30_any a0 a2 a3 a4 len0 cap0 n cap2 n cap3 n cap4 off _ M0.out M2.out M3.out M4.out).mono ?_
  rw [HLE.out]
  rintro e w' ⟨rfl, rfl⟩
  go_wp2_with fail
  go_loopw [12] (fun i wr => ∃ k : Nat, off ≤ k ∧ k ≤ len0 ∧ i = .int .i64 k ∧ w' = wr ∧ ∀ j, off ≤ j → j < k → z0.getD j 0 ≠ 34 ∧ z0.getD j 0 ≠ 39 ∧ z0.getD j 0 ≠ 92) (fun i _ => len0 - (intOf i).toNat)
  case atStart => exact ⟨off, Nat.le_refl _, ho, rfl, rfl, fun j h1 h2 => by omega⟩
  case round =>
  obtain ⟨k, hko, hkl, rfl, rfl, hno⟩ := hrel
  by_cases hlt : k < len0
  · rcases W0.out with ⟨_, h0, _⟩ | ⟨x, rfl, hle', hcm, hz, hc, hwf⟩
    · omega
    · obtain ⟨b, ob, rfl, hcb⟩ := ints_at hc (by omega)
      have hck := hcb k (by omega)
      have i3 : (k : Int) < (len0 : Int) := by omega
      have i4 : (0 : Int) ≤ (k : Int) := by omega
      have Hno := hidden hno
      clear hc hcb hno hwf
      generalize hzk : z0.getD k 0 = zk at *
      by_cases h1 : zk = 34
      · have b1 : (zk == 34) = true := beq_iff_eq.2 h1
        clear h1 hzk
        go_wp2_with fail
        go_ret
        exact ⟨rfl, Keep.refl _ _⟩
      · have b1 : (zk == 34) = false := beq_eq_false_iff_ne.2 h1
        by_cases h2 : zk = 39
        · have b2 : (zk == 39) = true := beq_iff_eq.2 h2
          clear h1 h2 hzk
          go_wp2_with fail
          go_ret
          exact ⟨rfl, Keep.refl _ _⟩
        · have b2 : (zk == 39) = false := beq_eq_false_iff_ne.2 h2
          by_cases h3 : zk = 92
          · have b3 : (zk == 92) = true := beq_iff_eq.2 h3
            clear h1 h2 h3 hzk
            go_wp2_with fail
            go_ret
            exact ⟨rfl, Keep.refl _ _⟩
          · have b3 : (zk == 92) = false := beq_eq_false_iff_ne.2 h3
            have hn' : ∀ j, off ≤ j → j < k + 1 → z0.getD j 0 ≠ 34 ∧ z0.getD j 0 ≠ 39 ∧ z0.getD j 0 ≠ 92 := by
              intro j h4 h5
              by_cases e : j = k
              · rw [e, hzk]; exact ⟨h1, h2, h3⟩
              · exact Hno.out j h4 (by omega)
            have Hn' := hidden hn'
            clear h1 h2 h3 hzk hn' Hno
            go_wp2_with fail
            go_roundw
            case rel => exact ⟨k + 1, by omega, by omega, by go_num, trivial, Hn'.out⟩
            case measure => simp [intOf]; omega
  have ek : k = len0 := by omega
  subst ek
  have Hno := hidden hno
  clear hno
  go_wp2_with fail
  refine (f11_vals a0 k cap0 z0 _ W0.out (by omega)).mono ?_
  rintro e u1 ⟨v, bs, rfl, hbl, hvals, hown, hK1⟩
  have hnq : ∀ j, off ≤ j → j < bs.length → byteAt bs j ≠ 34 ∧ byteAt bs j ≠ 39 ∧ byteAt bs j ≠ 92 := by
    intro j h1 h2
    rw [hvals j (by omega)]
    exact Hno.out j h1 (by omega)
  have Hnq := hidden hnq
  subst hbl
  have hs1 : Src u1 v bs := Src.of_owns hown
  clear hnq hvals Hno
  obtain ⟨sa, sc, rfl⟩ := hs1.form
  have Hs1 := hidden hs1
  have HK1 := hidden hK1
  clear hs1 hown hK1
  go_wp2_with fail
  refine (f24_any a2 n cap2 z2 _ (CameRow.keep W2.out HK1.out) (by omega)).mono ?_
  rintro e u2 ⟨v2, rfl, hl2, hr2, hK2⟩
  obtain ⟨x2, y2, hv2⟩ := hr2.slice
  rw [List.length_map, hl2] at hv2
  subst hv2
  have Hl2 := hidden hl2
  have Hr2 := hidden hr2
  have HK2 := hidden hK2
  clear hl2 hr2 hK2
  go_wp2_with fail
  refine (f24_any a3 n cap3 z3 _ (CameRow.keep (CameRow.keep W3.out HK1.out) HK2.out) (by omega)).mono ?_
  rintro e u3 ⟨v3, rfl, hl3, hr3, hK3⟩
  obtain ⟨x3, y3, hv3⟩ := hr3.slice
  rw [List.length_map, hl3] at hv3
  subst hv3
  have Hl3 := hidden hl3
  have Hr3 := hidden hr3
  have HK3 := hidden hK3
  clear hl3 hr3 hK3
  go_wp2_with fail
  refine (f24_any a4 n cap4 z4 _ (CameRow.keep (CameRow.keep (CameRow.keep W4.out HK1.out) HK2.out) HK3.out) (by omega)).mono ?_
  rintro e u4 ⟨v4, rfl, hl4, hr4, hK4⟩
  obtain ⟨x4, y4, hv4⟩ := hr4.slice
  rw [List.length_map, hl4] at hv4
  subst hv4
  obtain ⟨os, o, hos, e1, e2, e3⟩ := opens_of (z2.take n) (z3.take n) (z4.take n) n Hl2.out Hl3.out hl4 hn0
  have h2 := hK4.row (HK3.out.row Hr2.out (by simp)) (by simp)
  have h3 := hK4.row Hr3.out (by simp)
  have h4 := hr4
  rw [e1] at h2
  rw [e2] at h3
  rw [e3] at h4
  have hs4 := hK4.src (HK3.out.src (HK2.out.src Hs1.out (by simp)) (by simp)) (by simp)
  have hKa : Keep [] w' u4 := ((HK1.out.trans' HK2.out).trans' HK3.out).trans' hK4
  have h18 := H18 _ _ _ _ bs off os o u4 hs4 h2 h3 h4 (by omega) ho (by omega)
  have h20 := fun (x : World) (hk : Keep [] u4 x) => H20 _ _ _ _ bs off os o x (hk.src hs4 (by simp)) (hk.row h2 (by simp)) (hk.row h3 (by simp)) (hk.row h4 (by simp)) (by omega) ho (by omega)
  rw [← same_ans bs off os o Hnq.out] at h20
  have hsm := strAns_small (strScan bs (bs.length - off + 1) off []) off os o (by omega)
  generalize strAns (strScan bs (bs.length - off + 1) off []) off os o = A at *
  have H18' := hidden h18
  have H20' := hidden h20
  have Hsm := hidden hsm
  have HKa := hidden hKa
  clear h18 h20 hsm h2 h3 h4 hs4 hKa hos hr4 hK4 hl4 Hl2 Hl3 Hr2 Hr3 HK1 HK2 HK3 Hs1 W0 W2 W3 W4 e1 e2 e3 HLE M0 M2 M3 M4 Hnq
  go_wp2_with fail
  refine Calls.mono H18'.out ?_
  rintro e u5 ⟨r, rfl, hout, hK5⟩
  obtain ⟨nn, hnn⟩ : ∃ nn, A.ts.length = nn := ⟨_, rfl⟩
  obtain ⟨mm, hmm⟩ : ∃ mm, A.os.length = mm := ⟨_, rfl⟩
  have Hnn := hidden hnn
  have Hmm := hidden hmm
  obtain ⟨p0, p2, q0, q2, r0, r2, s0, s2, t0, t2, v0, v2', rfl⟩ := hout.form hnn hmm
  have Hout := hidden hout
  have HK5 := hidden hK5
  have kO := Keep.alloc [] u5 (.cells #[.int .i64 (A.off : Int), .slice p0 nn p2, .slice q0 nn q2, .slice r0 nn r2, .slice s0 mm s2, .slice t0 mm t2, .slice v0 mm v2', .bool A.er, .int .i64 A.eo, .string A.em] 29)
  have bO := Blk.new u5 29 #[.int .i64 (A.off : Int), .slice p0 nn p2, .slice q0 nn q2, .slice r0 nn r2, .slice s0 mm s2, .slice t0 mm t2, .slice v0 mm v2', .bool A.er, .int .i64 A.eo, .string A.em]
  have HkO := hidden kO
  have HbO := hidden bO
  clear hout hK5 hnn hmm kO bO H18'
  go_wp2_with fail
  have kO := HkO.out
  have bO := HbO.out
  clear HkO HbO
  generalize u5.alloc (.cells #[.int .i64 (A.off : Int), .slice p0 nn p2, .slice q0 nn q2, .slice r0 nn r2, .slice s0 mm s2, .slice t0 mm t2, .slice v0 mm v2', .bool A.er, .int .i64 A.eo, .string A.em] 29) = u6 at *
  generalize u5.heap.size = bo at *
  refine Calls.mono (H20'.out u6 (HK5.out.trans' kO)) ?_
  rintro e u7 ⟨r', rfl, hout', hK7, _⟩
  obtain ⟨a5, a6, b5, b6, c5, c6, d5, d6, e5, e6, f5, f6, rfl⟩ := hout'.form Hnn.out Hmm.out
  have bO7 := hK7.blk bO (by simp)
  have kP := Keep.alloc [] u7 (.cells #[.int .i64 (A.off : Int), .slice a5 nn a6, .slice b5 nn b6, .slice c5 nn c6, .slice d5 mm d6, .slice e5 mm e6, .slice f5 mm f6, .bool A.er, .int .i64 A.eo, .string A.em] 29)
  have bO9 := kP.blk bO7 (by simp)
  have bP := Blk.new u7 29 #[.int .i64 (A.off : Int), .slice a5 nn a6, .slice b5 nn b6, .slice c5 nn c6, .slice d5 mm d6, .slice e5 mm e6, .slice f5 mm f6, .bool A.er, .int .i64 A.eo, .string A.em]
  have Hout' := hidden hout'
  have HkO := hidden kO
  have HK7 := hidden hK7
  have HkP := hidden kP
  have HbP := hidden bP
  have HbO9 := hidden bO9
  clear bO bO7 kO hK7 hout' kP bO9 bP H20'
  go_upto_region 28 with fail
  have kP := HkP.out
  have bP := HbP.out
  have bO := HbO9.out
  clear HkP HbP HbO9
  generalize u7.alloc (.cells #[.int .i64 (A.off : Int), .slice a5 nn a6, .slice b5 nn b6, .slice c5 nn c6, .slice d5 mm d6, .slice e5 mm e6, .slice f5 mm f6, .bool A.er, .int .i64 A.eo, .string A.em] 29) = u9 at *
  generalize u7.heap.size = bp at *
  obtain ⟨g0, g1, g2, g3, g4, g5, g6, g7, g8, g9⟩ := cells10 bO
  obtain ⟨h0, h1, h2, h3, h4, h5, h6, h7, h8, h9⟩ := cells10 bP
  have HkP := hidden kP
  clear kP bP bO
  go_wp2_with fail
  have kP := HkP.out
  clear HkP g0 g1 g2 g3 g4 g5 g6 g7 g8 g9 h0 h1 h2 h3 h4 h5 h6 h7 h8 h9
  have k59 : Keep [] u5 u9 := (HkO.out.trans' HK7.out).trans' kP
  refine (f31_ans u9 _ _ A (Hout.out.keep' k59) (Hout'.out.keep' kP) Hsm.out.1 Hsm.out.2).mono ?_
  rintro e u10 ⟨rfl, hK10⟩
  have hfin : Keep [] w' u10 := ((HKa.out.trans' HK5.out).trans' k59).trans' hK10
  have Hfin := hidden hfin
  clear hfin hK10 k59 kP Hout Hout'
  go_wp2_with fail
  go_ret
  exact ⟨rfl, Hfin.out⟩

theorem f9_all (H18 : S18) (H20 : S20N) (a0 : Option Addr) (len0 cap0 : Nat) (z0 : List Int) (a1 : Int) (a2 : Option Addr) (len2 cap2 : Nat) (z2 : List Int) (a3 : Option Addr) (len3 cap3 : Nat) (z3 : List Int) (a4 : Option Addr) (len4 cap4 : Nat) (z4 : List Int) (w : World)
    (w0 : CameRow .u8 w a0 len0 cap0 z0) (w2 : CameRow .i64 w a2 len2 cap2 z2) (w3 : CameRow .i64 w a3 len3 cap3 z3) (w4 : CameRow .i64 w a4 len4 cap4 z4) :
    Calls Try.prog 9 #[.slice a0 len0 cap0, .int .i64 a1, .slice a2 len2 cap2, .slice a3 len3 cap3, .slice a4 len4 cap4] w fun e w' => e = .returned (.bool true) ∧ Keep [] w w' := by
  have E := f9_early a0 len0 cap0 a1 a2 len2 cap2 a3 len3 cap3 a4 len4 cap4 w w0.max w2.max w3.max w4.max
  cases hle : le20s len0 len2 len3 len4
  · exact E (.inl hle)
  · by_cases h1 : 524288 < len0
    · exact E (.inr ⟨hle, .inl h1⟩)
    · by_cases h2 : 16384 < len2
      · exact E (.inr ⟨hle, .inr ⟨by omega, .inl h2⟩⟩)
      · by_cases h3 : 16384 < len3
        · exact E (.inr ⟨hle, .inr ⟨by omega, .inr ⟨by omega, .inl h3⟩⟩⟩)
        · by_cases h4 : 16384 < len4
          · exact E (.inr ⟨hle, .inr ⟨by omega, .inr ⟨by omega, .inr ⟨by omega, .inl h4⟩⟩⟩⟩)
          · by_cases h5 : a1 < 0
            · exact E (.inr ⟨hle, .inr ⟨by omega, .inr ⟨by omega, .inr ⟨by omega, .inr ⟨by omega, .inl h5⟩⟩⟩⟩⟩)
            · by_cases h6 : (len0 : Int) < a1
              · exact E (.inr ⟨hle, .inr ⟨by omega, .inr ⟨by omega, .inr ⟨by omega, .inr ⟨by omega, .inr ⟨by omega, .inl h6⟩⟩⟩⟩⟩⟩)
              · by_cases h7 : len2 = 0
                · exact E (.inr ⟨hle, .inr ⟨by omega, .inr ⟨by omega, .inr ⟨by omega, .inr ⟨by omega, .inr ⟨by omega, .inr ⟨by omega, .inl h7⟩⟩⟩⟩⟩⟩⟩)
                · by_cases h8 : len3 = len2
                  · by_cases h9 : len4 = len2
                    · clear E
                      subst h8 h9
                      obtain ⟨off, rfl⟩ : ∃ off : Nat, a1 = (off : Int) := ⟨a1.toNat, by omega⟩
                      exact f9_main H18 H20 a0 len0 cap0 z0 off a2 _ cap2 z2 a3 cap3 z3 a4 cap4 z4 w w0 w2 w3 w4 hle (by omega) (by omega) (by omega) (by omega)
                    · exact E (.inr ⟨hle, .inr ⟨by omega, .inr ⟨by omega, .inr ⟨by omega, .inr ⟨by omega, .inr ⟨by omega, .inr ⟨by omega, .inr ⟨by omega, .inr ⟨h8, h9⟩⟩⟩⟩⟩⟩⟩⟩⟩)
                  · exact E (.inr ⟨hle, .inr ⟨by omega, .inr ⟨by omega, .inr ⟨by omega, .inr ⟨by omega, .inr ⟨by omega, .inr ⟨by omega, .inr ⟨by omega, .inl h8⟩⟩⟩⟩⟩⟩⟩⟩)
end Go.Proofs.Qxb6601273a
