import Derived.Test.Qxb6601273aMain7
import Derived.Test.Qxb6601273aEarly8
import Derived.Test.Qxb6601273aILaw
import Derived.Test.Qxb6601273aIndDecF
namespace Go.Proofs.Qxb6601273a
open Go.RowKit
set_option linter.unusedVariables false

set_option maxRecDepth 100000 in
set_option maxHeartbeats 4000000 in
theorem f8_main (H20 : S20N) (a0 : Option Addr) (len0 cap0 : Nat) (z0 : List Int) (off : Nat) (a2 : Option Addr) (n cap2 : Nat) (z2 : List Int) (a3 : Option Addr) (cap3 : Nat) (z3 : List Int) (a4 : Option Addr) (cap4 : Nat) (z4 : List Int) (w : World)
    (w0 : CameRow .u8 w a0 len0 cap0 z0) (w2 : CameRow .i64 w a2 n cap2 z2) (w3 : CameRow .i64 w a3 n cap3 z3) (w4 : CameRow .i64 w a4 n cap4 z4) (hle : le20s len0 n n n = true) (hl0 : len0 ≤ 524288) (hn : n ≤ 16384) (hn0 : 0 < n) (ho : off ≤ len0) :
    Calls Try.prog 8 #[.slice a0 len0 cap0, .int .i64 off, .slice a2 n cap2, .slice a3 n cap3, .slice a4 n cap4] w fun e w' => e = .returned (.bool true) ∧ Keep [] w w' := by
  have M0 := hidden w0.max
  have M2 := hidden w2.max
  have M3 := hidden w3.max
  have M4 := hidden w4.max
  have HLE := hidden hle
  have W0 := hidden w0
  have W2 := hidden w2
  have W3 := hidden w3
  have W4 := hidden w4
  have i1 : ¬ ((off : Int) < 0) := by omega
  have i2 : ¬ ((len0 : Int) < (off : Int)) := by omega
  clear hle w0 w2 w3 w4
  go_enter Try.func8, Try.ntmps8
  go_wp2_with fail
  refine (f28_any a0 a2 a3 a4 len0 cap0 n cap2 n cap3 n cap4 off _ M0.out M2.out M3.out M4.out).mono ?_
  rw [HLE.out]
  rintro e w' ⟨rfl, rfl⟩
  go_wp2_with fail
  refine (f11_any a0 len0 cap0 z0 _ W0.out (by omega)).mono ?_
  rintro e u1 ⟨v, bs, rfl, hbl, hown, hK1⟩
  subst hbl
  have hs1 : Src u1 v bs := Src.of_owns hown
  obtain ⟨sa, sc, rfl⟩ := hs1.form
  have Hs1 := hidden hs1
  have HK1 := hidden hK1
  clear hs1 hown hK1
  go_wp2_with fail
  refine (f24_any a2 n cap2 z2 _ (CameRow.keep W2.out HK1.out) (by omega)).mono ?_
  rintro e u2 ⟨v2, rfl, hl2, hr2, hK2⟩
  obtain ⟨x2, y2, hv2⟩ := hr2.slice
  rw [List.length_map, hl2] at hv2
  subst hv2
  have Hl2 := hidden hl2
  have Hr2 := hidden hr2
  have HK2 := hidden hK2
  clear hl2 hr2 hK2
  go_wp2_with fail
  refine (f24_any a3 n cap3 z3 _ (CameRow.keep (CameRow.keep W3.out HK1.out) HK2.out) (by omega)).mono ?_
  rintro e u3 ⟨v3, rfl, hl3, hr3, hK3⟩
  obtain ⟨x3, y3, hv3⟩ := hr3.slice
  rw [List.length_map, hl3] at hv3
  subst hv3
  have Hl3 := hidden hl3
  have Hr3 := hidden hr3
  have HK3 := hidden hK3
  clear hl3 hr3 hK3
  go_wp2_with fail
  refine (f24_any a4 n cap4 z4 _ (CameRow.keep (CameRow.keep (CameRow.keep W4.out HK1.out) HK2.out) HK3.out) (by omega)).mono ?_
  rintro e u4 ⟨v4, rfl, hl4, hr4, hK4⟩
  obtain ⟨x4, y4, hv4⟩ := hr4.slice
  rw [List.length_map, hl4] at hv4
  subst hv4
  obtain ⟨os, o, hos, e1, e2, e3⟩ := opens_of (z2.take n) (z3.take n) (z4.take n) n Hl2.out Hl3.out hl4 hn0
  have h2 := hK4.row (HK3.out.row Hr2.out (by simp)) (by simp)
  have h3 := hK4.row Hr3.out (by simp)
  have h4 := hr4
  rw [e1] at h2
  rw [e2] at h3
  rw [e3] at h4
  have hs4 := hK4.src (HK3.out.src (HK2.out.src Hs1.out (by simp)) (by simp)) (by simp)
  have hKa : Keep [] w' u4 := ((HK1.out.trans' HK2.out).trans' HK3.out).trans' hK4
  have h18 := H20 _ _ _ _ bs off os o u4 hs4 h2 h3 h4 (by omega) ho (by omega)
  have hfit := ind_fits bs off os o ho
  have hsm := indAns_small bs (indScan bs (bs.length - off + 1) off []) off os o (by omega)
  obtain ⟨hact, hat, htx⟩ := imod_small bs off ho
  have h25 := fun (x : World) (hx : Src x (.slice sa bs.length sc) bs) => f29_any (.slice sa bs.length sc) bs off x hx ho (by omega)
  generalize indAns bs (indScan bs (bs.length - off + 1) off []) off os o = A at *
  generalize imod bs (bs.length - off + 1) off 0 0 [] = M at *
  have H18' := hidden h18
  have Hfit := hidden hfit
  have Hsm := hidden hsm
  have Hact := hidden hact
  have Hat := hidden hat
  have Htx := hidden htx
  have H25 := hidden h25
  clear hfit hsm hact hat htx h25
  have Ho := hidden h2
  have Hk := hidden h3
  have Hb := hidden h4
  have Hs4 := hidden hs4
  have HKa := hidden hKa
  have Hos := hidden hos
  clear h18 h2 h3 h4 hs4 hKa hos hr4 hK4 hl4 Hl2 Hl3 Hr2 Hr3 HK1 HK2 HK3 Hs1 W0 W2 W3 W4 e1 e2 e3 HLE M0 M2 M3 M4
  go_wp2_with fail
  refine Calls.mono H18'.out ?_
  rintro e u5 ⟨r, rfl, hout, hK5, _⟩
  obtain ⟨nn, hnn⟩ : ∃ nn, A.ts.length = nn := ⟨_, rfl⟩
  obtain ⟨mm, hmm⟩ : ∃ mm, A.os.length = mm := ⟨_, rfl⟩
  obtain ⟨p0, p2, q0, q2, r0, r2, s0, s2, t0, t2, v0, v2', rfl⟩ := hout.form hnn hmm
  have Hout := hidden hout
  have HK5 := hidden hK5
  have kO := Keep.alloc [] u5 (.cells #[.int .i64 (A.off : Int), .slice p0 nn p2, .slice q0 nn q2, .slice r0 nn r2, .slice s0 mm s2, .slice t0 mm t2, .slice v0 mm v2', .bool A.er, .int .i64 A.eo, .string A.em] 29)
  have bO := Blk.new u5 29 #[.int .i64 (A.off : Int), .slice p0 nn p2, .slice q0 nn q2, .slice r0 nn r2, .slice s0 mm s2, .slice t0 mm t2, .slice v0 mm v2', .bool A.er, .int .i64 A.eo, .string A.em]
  have HkO := hidden kO
  have HbO := hidden bO
  clear hout hK5 hnn hmm kO bO H18'
  go_wp2_with fail
  have kO := HkO.out
  have bO := HbO.out
  clear HkO HbO
  generalize u5.alloc (.cells #[.int .i64 (A.off : Int), .slice p0 nn p2, .slice q0 nn q2, .slice r0 nn r2, .slice s0 mm s2, .slice t0 mm t2, .slice v0 mm v2', .bool A.er, .int .i64 A.eo, .string A.em] 29) = u6 at *
  generalize u5.heap.size = bo at *
  have hs6 := kO.src (HK5.out.src Hs4.out (by simp)) (by simp)
  refine Calls.mono (H25.out u6 hs6) ?_
  rintro e u7 ⟨tv, rfl, htv, hK7⟩
  obtain ⟨c0, c1, c2, rfl⟩ := owns_slice htv
  have bO7 := hK7.blk bO (by simp)
  have HbO := hidden bO7
  have HkO := hidden kO
  have HK7 := hidden hK7
  have Htv := hidden htv
  clear bO bO7 kO hK7 htv hs6 H25
  go_wp2_with fail
  refine (f26_any M.m M.esc off 10 _ _ (Src.of_owns Htv.out) Hact.out (fun h => ⟨(Hat.out h).1, Int.le_trans (Hat.out h).2 (by omega)⟩) (by omega) (by omega) (by omega) (Nat.le_trans Htx.out (by omega))).mono ?_
  rintro e u8 ⟨rW, rfl, hW, hK8⟩
  have HW := hidden hW
  obtain ⟨wa, wb, wc, rfl, ra, rb, rc⟩ := hW
  obtain ⟨i0, i1', i2', rfl⟩ := owns_slice ra
  obtain ⟨j0, j1, j2, rfl⟩ := owns_slice rb
  obtain ⟨l0, l1, l2, rfl⟩ := owns_slice rc
  have bO8 := hK8.blk HbO.out (by simp)
  have kP := Keep.alloc [] u8 (.cells (wantC (expectW M.m M.esc off 10).off (.slice i0 i1' i2') (.slice j0 j1 j2) (.slice l0 l1 l2) (expectW M.m M.esc off 10).op (expectW M.m M.esc off 10).push (expectW M.m M.esc off 10).er) 44)
  have bO9 := kP.blk bO8 (by simp)
  have bP := Blk.new u8 44 (wantC (expectW M.m M.esc off 10).off (.slice i0 i1' i2') (.slice j0 j1 j2) (.slice l0 l1 l2) (expectW M.m M.esc off 10).op (expectW M.m M.esc off 10).push (expectW M.m M.esc off 10).er)
  have HkP := hidden kP
  have HK8 := hidden hK8
  have HbP := hidden bP
  have HbO9 := hidden bO9
  clear ra rb rc bO8 bO9 kP hK8 HbO bP
  go_upto_region 23 with fail
  have kP := HkP.out
  have bP := HbP.out
  have bO := HbO9.out
  clear HkP HbP HbO9
  generalize u8.alloc (.cells (wantC (expectW M.m M.esc off 10).off (.slice i0 i1' i2') (.slice j0 j1 j2) (.slice l0 l1 l2) (expectW M.m M.esc off 10).op (expectW M.m M.esc off 10).push (expectW M.m M.esc off 10).er) 44) = u9 at *
  generalize u8.heap.size = bp at *
  obtain ⟨g0, g1, g2, g3, g4, g5, g6, g7, g8, g9⟩ := cells10 bO
  obtain ⟨h0, h1, h2, h3, h4, h5, h6⟩ := cells7 bP
  have HkP := hidden kP
  clear kP bP bO
  go_wp2_with fail
  have kP := HkP.out
  clear HkP g0 g1 g2 g3 g4 g5 g6 g7 g8 g9 h0 h1 h2 h3 h4 h5 h6
  have k49 : Keep [] u4 u9 := (((HK5.out.trans' HkO.out).trans' HK7.out).trans' HK8.out).trans' kP
  have k59 : Keep [] u5 u9 := ((HkO.out.trans' HK7.out).trans' HK8.out).trans' kP
  refine (f27_fits u9 _ _ _ _ _ A _ os o _ Hfit.out (Hout.out.keep' k59) (HW.out.keep' kP) (k49.row Ho.out (by simp)) (k49.row Hk.out (by simp)) (k49.row Hb.out (by simp)) (by have := Hos.out; omega) Hsm.out.1).mono ?_
  rintro e u10 ⟨rfl, hK10⟩
  have hfin : Keep [] w' u10 := (HKa.out.trans' k49).trans' hK10
  have Hfin := hidden hfin
  clear hfin hK10 k49 k59 kP HW Hout
  go_wp2_with fail
  go_ret
  exact ⟨rfl, Hfin.out⟩

theorem f8_all (H20 : S20N) (a0 : Option Addr) (len0 cap0 : Nat) (z0 : List Int) (a1 : Int) (a2 : Option Addr) (len2 cap2 : Nat) (z2 : List Int) (a3 : Option Addr) (len3 cap3 : Nat) (z3 : List Int) (a4 : Option Addr) (len4 cap4 : Nat) (z4 : List Int) (w : World)
    (w0 : CameRow .u8 w a0 len0 cap0 z0) (w2 : CameRow .i64 w a2 len2 cap2 z2) (w3 : CameRow .i64 w a3 len3 cap3 z3) (w4 : CameRow .i64 w a4 len4 cap4 z4) :
    Calls Try.prog 8 #[.slice a0 len0 cap0, .int .i64 a1, .slice a2 len2 cap2, .slice a3 len3 cap3, .slice a4 len4 cap4] w fun e w' => e = .returned (.bool true) ∧ Keep [] w w' := by
  have E := f8_early a0 len0 cap0 a1 a2 len2 cap2 a3 len3 cap3 a4 len4 cap4 w w0.max w2.max w3.max w4.max
  cases hle : le20s len0 len2 len3 len4
  · exact E (.inl hle)
  · by_cases h1 : 524288 < len0
    · exact E (.inr ⟨hle, .inl h1⟩)
    · by_cases h2 : 16384 < len2
      · exact E (.inr ⟨hle, .inr ⟨by omega, .inl h2⟩⟩)
      · by_cases h3 : 16384 < len3
        · exact E (.inr ⟨hle, .inr ⟨by omega, .inr ⟨by omega, .inl h3⟩⟩⟩)
        · by_cases h4 : 16384 < len4
          · exact E (.inr ⟨hle, .inr ⟨by omega, .inr ⟨by omega, .inr ⟨by omega, .inl h4⟩⟩⟩⟩)
          · by_cases h5 : a1 < 0
            · exact E (.inr ⟨hle, .inr ⟨by omega, .inr ⟨by omega, .inr ⟨by omega, .inr ⟨by omega, .inl h5⟩⟩⟩⟩⟩)
            · by_cases h6 : (len0 : Int) < a1
              · exact E (.inr ⟨hle, .inr ⟨by omega, .inr ⟨by omega, .inr ⟨by omega, .inr ⟨by omega, .inr ⟨by omega, .inl h6⟩⟩⟩⟩⟩⟩)
              · by_cases h7 : len2 = 0
                · exact E (.inr ⟨hle, .inr ⟨by omega, .inr ⟨by omega, .inr ⟨by omega, .inr ⟨by omega, .inr ⟨by omega, .inr ⟨by omega, .inl h7⟩⟩⟩⟩⟩⟩⟩)
                · by_cases h8 : len3 = len2
                  · by_cases h9 : len4 = len2
                    · clear E
                      subst h8 h9
                      obtain ⟨off, rfl⟩ : ∃ off : Nat, a1 = (off : Int) := ⟨a1.toNat, by omega⟩
                      exact f8_main H20 a0 len0 cap0 z0 off a2 _ cap2 z2 a3 cap3 z3 a4 cap4 z4 w w0 w2 w3 w4 hle (by omega) (by omega) (by omega) (by omega)
                    · exact E (.inr ⟨hle, .inr ⟨by omega, .inr ⟨by omega, .inr ⟨by omega, .inr ⟨by omega, .inr ⟨by omega, .inr ⟨by omega, .inr ⟨by omega, .inr ⟨h8, h9⟩⟩⟩⟩⟩⟩⟩⟩⟩)
                  · exact E (.inr ⟨hle, .inr ⟨by omega, .inr ⟨by omega, .inr ⟨by omega, .inr ⟨by omega, .inr ⟨by omega, .inr ⟨by omega, .inr ⟨by omega, .inl h8⟩⟩⟩⟩⟩⟩⟩⟩)
end Go.Proofs.Qxb6601273a
