import Derived.Test.Qxb6601273aOut
namespace Go.Proofs.Qxb6601273a
open Go.RowKit
set_option linter.unusedVariables false

/-- All slices of the answer lie in blocks from b on. -/
def NewIn (b : Nat) (r : Value) : Prop := ∃ cs : Array Value, r = .agg cs ∧ ∀ (i : Nat) (x : Value), cs[i]? = some x → ∀ g, x.ownBlock = some g → b ≤ g
theorem NewIn.mono {b b' : Nat} {r : Value} (h : NewIn b r) (hb : b' ≤ b) : NewIn b' r := by
  obtain ⟨cs, h1, h2⟩ := h
  exact ⟨cs, h1, fun i x hx g hg => Nat.le_trans hb (h2 i x hx g hg)⟩
theorem owns_base {w : World} {base : Nat} {e : TypeId} {size : Nat} {v : Value} {n : Nat} {xs : List Value} (h : w.ownsRow base e size v n xs) : ∀ g, v.ownBlock = some g → base ≤ g := fun x hx => (h.lt x hx).1
theorem newIn_out {B : Nat} {off eo : Int} {a b c d e f : Value} {er : Bool} {em : ByteArray} (ha : ∀ g, a.ownBlock = some g → B ≤ g) (hb : ∀ g, b.ownBlock = some g → B ≤ g) (hc : ∀ g, c.ownBlock = some g → B ≤ g) (hd : ∀ g, d.ownBlock = some g → B ≤ g) (he : ∀ g, e.ownBlock = some g → B ≤ g) (hf : ∀ g, f.ownBlock = some g → B ≤ g) : NewIn B (.agg (outC off a b c d e f er eo em)) := by
  refine ⟨_, rfl, fun i x hx g hg => ?_⟩
  rcases i with _ | _ | _ | _ | _ | _ | _ | _ | _ | _ | i
  all_goals simp at hx
  all_goals subst hx
  all_goals first | (cases hg; done) | exact ha g hg | exact hb g hg | exact hc g hg | exact hd g hg | exact he g hg | exact hf g hg

set_option maxRecDepth 100000 in
set_option maxHeartbeats 4000000 in
theorem f34_new (L : Nat) (v tv ov ep : Value) (text : ByteArray) (off : Int) (ts : List Tok) (os : List Op3) (er : Bool) (eo : Int) (em : ByteArray) (b1 b2 : Nat) (w : World) (hL : Blk w L 66 (lexC v text off tv ov))
    (ht : w.ownsRow b1 71 3 tv ts.length (tokCells ts)) (ho : w.ownsRow b2 63 3 ov os.length (openCells os)) (hn : ts.length ≤ 1000000) (hm : os.length ≤ 1000000)
    (hep : Hid ((ep = .pointer none ∧ er = false ∧ eo = 0 ∧ em = ⟨#[]⟩) ∨ (er = true ∧ ∃ E, ep = .pointer (some ⟨E, 0, none⟩) ∧ Blk w E 73 #[.int .i64 eo, .string em]))) :
    Calls Try.prog 34 #[.pointer (some ⟨L, 0, none⟩), ep] w fun e w' => ∃ r, e = .returned r ∧ OutIs w' r off ts os er eo em ∧ Keep [] w w' ∧ NewIn w.heap.size r := by
  have cL2 := hL.cell 2
  simp only [List.getElem?_toArray, List.getElem?_cons_zero, List.getElem?_cons_succ] at cL2
  have hlL := hL.lt
  go_enter Try.func34, Try.ntmps34
  go_wp2_with fail
  go_loopg [6] ts.length (fun gk i wr => ∃ k : Nat, gk + k = ts.length ∧ i = .int .i64 k ∧ OutA w wr w.heap.size (w.heap.size + 1) off ts k k k)
  case atStart =>
    exact ⟨0, rfl, rfl, _, _, _, Blk.newAt (by simp), World.ownsRow_nil _ _ _ _, World.ownsRow_nil _ _ _ _, World.ownsRow_nil _ _ _ _, (Blk.new _ _ _).alloc _, (Keep.alloc _ _ _).trans' (Keep.alloc _ _ _)⟩
  case round =>
    obtain ⟨k, hk, rfl, hA⟩ := hrel
    by_cases hlt : k < ts.length
    · obtain ⟨tg, tc, rfl, _, _⟩ := ht.form (by omega)
      obtain ⟨tcur, hT, hTs, hTt, _⟩ := owns_blk ht
      have hget := tokCells_get ts k hlt
      have hk0 : (0 : Int) ≤ (k : Int) := by omega
      have hk1 : (k : Int) < (ts.length : Int) := by omega
      have cT : w.cell? ⟨tg, k * 3, none⟩ = some (.string ts[k].1) ∧ w.cell? ⟨tg, k * 3 + 1, none⟩ = some (.int .i32 ts[k].2.1) ∧ w.cell? ⟨tg, k * 3 + 2, none⟩ = some (.int .u8 ts[k].2.2) := by
        rw [hT.cell, hT.cell, hT.cell]
        rw [← hTt] at hget
        simp only [List.getElem?_take] at hget
        rw [if_pos (by omega), if_pos (by omega), if_pos (by omega)] at hget
        simpa using hget
      have cL3 := hL.cell 3
      simp only [List.getElem?_toArray, List.getElem?_cons_zero, List.getElem?_cons_succ] at cL3
      have hTl := hT.lt
      clear hget hTs hTt cL2 hT
      have HT : Hid _ := cT
      have HL3 : Hid _ := cL3
      clear cT cL3
      obtain ⟨a, b, c, hO, ha, hb, hc, hZ, hK⟩ := hA
      have hpL : wr.cell? ⟨L, 3, none⟩ = some (.slice (some ⟨tg, 0, none⟩) ts.length tc) := hK.cell HL3.out (by simp)
      obtain ⟨x0, l0, c0, rfl⟩ := owns_slice ha
      have hpa : wr.cell? ⟨w.heap.size + 1, 1, none⟩ = some (.slice x0 l0 c0) := hO.cell 1
      have hfa : wr.frozen? ⟨w.heap.size + 1, 1, none⟩ = false := hO.free 1
      have hpt : wr.cell? ⟨tg, k * 3 + 2, none⟩ = some (.int .u8 ts[k].2.2) := hK.cell HT.out.2.2 (by simp)
      obtain ⟨i0, hi, hz0, hz1, hz2⟩ := info_parts info5'
      generalize hz : ts[k].2.2 = z at hpt
      have Hz : Hid (ts[k].2.2 = z) := hz
      clear hz
      have hwl := hK.size
      have l1 := hO.lt
      have l2 : L < wr.heap.size := by omega
      have l3 : tg < wr.heap.size := by omega
      have n1 := owns_far ha hO (by decide)
      have n2 := owns_low ha hlL
      have n3 := owns_low ha hTl
      go_upto_region 6 with fail
      go_cut [] (fun wx => OutA w wx w.heap.size (w.heap.size + 1) off ts (k + 1) k k)
      case first =>
        go_region_law ((refine step_append_lies _ (by rfl) (.tmp 23) (.tmp 32) 22 (by rfl) w.heap.size 5 i0 (.int .u8 0) 1 1 Try.underlying22 hi hz0 hz1 hz2 (by rfl) (by decide) (.slice x0 l0 c0) k (kindCells (ts.take k)) (by rfl) (by exact (Keep.alloc [] _ _).owns ha (by simp)) ⟨wr.heap.size, 0, none⟩ 1 1 [.int .u8 z] (by rfl) (by rfl) (by exact World.news_of_block (heap_alloc_new wr _)) (by intro u hu; simp at hu; subst hu; rfl) (by decide) (by unfold maxLen; omega) (by omega) (by simp; omega) (wr.heap.size + 1) (by simp) ?_; intro g cap w1 hown hgrow hat hlt2; have kk := keep_app (by first | exact Keep.alloc _ _ _ | exact (Keep.alloc _ _ _).trans' (Keep.drew _ _)) hgrow; have k1 := kk.cell hpa n1; have k2 := kk.cell hpL n2; have k3 := kk.cell hpt n3; have k4 := (kk.blk hO n1).free 1))
        all_goals
          go_wp2_with fail
          go_meet
          case rel =>
            obtain ⟨s1, s2, s3, s4⟩ := app_step (j := 1) hO ha (by decide) (by first | exact Keep.alloc _ _ _ | exact (Keep.alloc _ _ _).trans' (Keep.drew _ _)) hgrow hown
            exact outA_1 hlt (Nat.le_refl _) hK hZ hO ha hb hc s1 (by rw [Hz.out]; exact s2) s3
      case rest =>
      have hA := hcut
      clear hcut hpL hpa hfa hpt hwl l1 l2 l3 n1 n2 n3 hi hz0 hz1 hz2 Hz hO hK hZ ha hb hc
      obtain ⟨a, b, c, hO, ha, hb, hc, hZ, hK⟩ := hA
      have hpL : wc.cell? ⟨L, 3, none⟩ = some (.slice (some ⟨tg, 0, none⟩) ts.length tc) := hK.cell HL3.out (by simp)
      obtain ⟨x0, l0, c0, rfl⟩ := owns_slice hb
      have hpa : wc.cell? ⟨w.heap.size + 1, 2, none⟩ = some (.slice x0 l0 c0) := hO.cell 2
      have hfa : wc.frozen? ⟨w.heap.size + 1, 2, none⟩ = false := hO.free 2
      have hpt : wc.cell? ⟨tg, k * 3 + 1, none⟩ = some (.int .i32 ts[k].2.1) := hK.cell HT.out.2.1 (by simp)
      obtain ⟨i0, hi, hz0, hz1, hz2⟩ := info_parts info21
      generalize hz : ts[k].2.1 = z at hpt
      have Hz : Hid (ts[k].2.1 = z) := hz
      clear hz
      have hwl := hK.size
      have l1 := hO.lt
      have l2 : L < wc.heap.size := by omega
      have l3 : tg < wc.heap.size := by omega
      have n1 := owns_far hb hO (by decide)
      have n2 := owns_low hb hlL
      have n3 := owns_low hb hTl
      go_upto_region 7 with fail
      go_cut [] (fun wx => OutA w wx w.heap.size (w.heap.size + 1) off ts (k + 1) (k + 1) k)
      case first =>
        go_region_law ((refine step_append_lies _ (by rfl) (.tmp 36) (.tmp 45) 25 (by rfl) w.heap.size 21 i0 (.int .i32 0) 1 4 Try.underlying25 hi hz0 hz1 hz2 (by rfl) (by decide) (.slice x0 l0 c0) k (offCells (ts.take k)) (by rfl) (by exact (Keep.alloc [] _ _).owns hb (by simp)) ⟨wc.heap.size, 0, none⟩ 1 1 [.int .i32 z] (by rfl) (by rfl) (by exact World.news_of_block (heap_alloc_new wc _)) (by intro u hu; simp at hu; subst hu; rfl) (by decide) (by unfold maxLen; omega) (by omega) (by simp; omega) (wc.heap.size + 1) (by simp) ?_; intro g cap w1 hown hgrow hat hlt2; have kk := keep_app (by first | exact Keep.alloc _ _ _ | exact (Keep.alloc _ _ _).trans' (Keep.drew _ _)) hgrow; have k1 := kk.cell hpa n1; have k2 := kk.cell hpL n2; have k3 := kk.cell hpt n3; have k4 := (kk.blk hO n1).free 2))
        all_goals
          go_wp2_with fail
          go_meet
          case rel =>
            obtain ⟨s1, s2, s3, s4⟩ := app_step (j := 2) hO hb (by decide) (by first | exact Keep.alloc _ _ _ | exact (Keep.alloc _ _ _).trans' (Keep.drew _ _)) hgrow hown
            exact outA_2 hlt (Nat.le_refl _) hK hZ hO ha hb hc s1 (by rw [Hz.out]; exact s2) s3
      case rest =>
      have hA := hcut
      clear hcut hpL hpa hfa hpt hwl l1 l2 l3 n1 n2 n3 hi hz0 hz1 hz2 Hz hO hK hZ ha hb hc
      obtain ⟨a, b, c, hO, ha, hb, hc, hZ, hK⟩ := hA
      have hpL : wc.cell? ⟨L, 3, none⟩ = some (.slice (some ⟨tg, 0, none⟩) ts.length tc) := hK.cell HL3.out (by simp)
      obtain ⟨x0, l0, c0, rfl⟩ := owns_slice hc
      have hpa : wc.cell? ⟨w.heap.size + 1, 3, none⟩ = some (.slice x0 l0 c0) := hO.cell 3
      have hfa : wc.frozen? ⟨w.heap.size + 1, 3, none⟩ = false := hO.free 3
      have hpt : wc.cell? ⟨tg, k * 3, none⟩ = some (.string ts[k].1) := hK.cell HT.out.1 (by simp)
      obtain ⟨i0, hi, hz0, hz1, hz2⟩ := info_parts info9
      generalize hz : ts[k].1 = z at hpt
      have Hz : Hid (ts[k].1 = z) := hz
      clear hz
      have hwl := hK.size
      have l1 := hO.lt
      have l2 : L < wc.heap.size := by omega
      have l3 : tg < wc.heap.size := by omega
      have n1 := owns_far hc hO (by decide)
      have n2 := owns_low hc hlL
      have n3 := owns_low hc hTl
      go_upto_region 8 with fail
      go_region_law ((refine step_append_lies _ (by rfl) (.tmp 49) (.tmp 58) 26 (by rfl) w.heap.size 9 i0 (.string ⟨#[]⟩) 1 16 Try.underlying26 hi hz0 hz1 hz2 (by rfl) (by decide) (.slice x0 l0 c0) k (textCells (ts.take k)) (by rfl) (by exact (Keep.alloc [] _ _).owns hc (by simp)) ⟨wc.heap.size, 0, none⟩ 1 1 [.string z] (by rfl) (by rfl) (by exact World.news_of_block (heap_alloc_new wc _)) (by intro u hu; simp at hu; subst hu; rfl) (by decide) (by unfold maxLen; omega) (by omega) (by simp; omega) (wc.heap.size + 1) (by simp) ?_; intro g cap w1 hown hgrow hat hlt2; have kk := keep_app (by first | exact Keep.alloc _ _ _ | exact (Keep.alloc _ _ _).trans' (Keep.drew _ _)) hgrow; have k1 := kk.cell hpa n1; have k2 := kk.cell hpL n2; have k3 := kk.cell hpt n3; have k4 := (kk.blk hO n1).free 3))
      all_goals
        go_wp2_with fail
        go_roundg (gk - 1)
        case measure => omega
        case rel =>
            obtain ⟨s1, s2, s3, s4⟩ := app_step (j := 3) hO hc (by decide) (by first | exact Keep.alloc _ _ _ | exact (Keep.alloc _ _ _).trans' (Keep.drew _ _)) hgrow hown
            exact ⟨k + 1, by omega, by go_num, outA_3 hlt (Nat.le_refl _) hK hZ hO ha hb hc s1 (by rw [Hz.out]; exact s2) s3⟩
    · have ek : k = ts.length := by omega
      subst ek
      obtain ⟨a, b, c, hO, ha, hb, hc, hZ, hK⟩ := hA
      simp only [List.take_length] at ha hb hc
      have cL3 : wr.cell? ⟨L, 3, none⟩ = some tv := hK.cell (hL.cell 3) (by simp)
      have hB0 : OutB w wr w.heap.size (w.heap.size + 1) off ts os 0 0 0 := ⟨a, b, c, nilS, nilS, nilS, hO, ha, hb, hc, World.ownsRow_nil _ _ _ _, World.ownsRow_nil _ _ _ _, World.ownsRow_nil _ _ _ _, Dj.nil _, Dj.nil _, Dj.nil _, hZ, hK⟩
      clear hO ha hb hc hZ hK cL2
      obtain ⟨tx, tl, tcc, rfl⟩ := owns_slice ht
      have htl : (tl : Int) = (ts.length : Int) := by
        rcases ht.2 with ⟨h, h0⟩ | ⟨g, cap, cur, h, _⟩
        · simp at h; omega
        · simp at h; omega
      have htb : decide ((ts.length : Int) < (tl : Int)) = false := by simp; omega
      have htn : ¬ ((ts.length : Int) < (tl : Int)) := by omega
      have Htl : Hid _ := htl
      clear htl
      go_wp2_with fail
      clear cL3 htb htn
      go_loopg [7] os.length (fun gk i wr => ∃ k : Nat, gk + k = os.length ∧ i = .int .i64 k ∧ OutB w wr w.heap.size (w.heap.size + 1) off ts os k k k)
      case atStart => exact ⟨0, rfl, rfl, hB0⟩
      case round =>
      clear hB0
      obtain ⟨k, hk, rfl, hA⟩ := hrel
      by_cases hlt : k < os.length
      · obtain ⟨og, oc, rfl, _, _⟩ := ho.form (by omega)
        obtain ⟨tcur, hT, hTs, hTt, _⟩ := owns_blk ho
        have hget := openCells_get os k hlt
        have hk0 : (0 : Int) ≤ (k : Int) := by omega
        have hk1 : (k : Int) < (os.length : Int) := by omega
        have cT : w.cell? ⟨og, k * 3, none⟩ = some (.int .i64 os[k].1) ∧ w.cell? ⟨og, k * 3 + 1, none⟩ = some (.int .i64 os[k].2.1) ∧ w.cell? ⟨og, k * 3 + 2, none⟩ = some (.int .i64 os[k].2.2) := by
          rw [hT.cell, hT.cell, hT.cell]
          rw [← hTt] at hget
          simp only [List.getElem?_take] at hget
          rw [if_pos (by omega), if_pos (by omega), if_pos (by omega)] at hget
          simpa using hget
        have cL4 := hL.cell 4
        simp only [List.getElem?_toArray, List.getElem?_cons_zero, List.getElem?_cons_succ] at cL4
        have hTl := hT.lt
        clear hget hTs hTt hT
        have HT : Hid _ := cT
        have HL4 : Hid _ := cL4
        clear cT cL4
        obtain ⟨a, b, c, d, e, f, hO, ha, hb, hc, hd, he, hf, j1, j2, j3, hZ, hK⟩ := hA
        have hpL : wr.cell? ⟨L, 4, none⟩ = some (.slice (some ⟨og, 0, none⟩) os.length oc) := hK.cell HL4.out (by simp)
        obtain ⟨x0, l0, c0, rfl⟩ := owns_slice hd
        have hpa : wr.cell? ⟨w.heap.size + 1, 4, none⟩ = some (.slice x0 l0 c0) := hO.cell 4
        have hfa : wr.frozen? ⟨w.heap.size + 1, 4, none⟩ = false := hO.free 4
        have hpt : wr.cell? ⟨og, k * 3, none⟩ = some (.int .i64 os[k].1) := hK.cell HT.out.1 (by simp)
        obtain ⟨i0, hi, hz0, hz1, hz2⟩ := info_parts info3
        generalize hz : os[k].1 = z at hpt
        have Hz : Hid (os[k].1 = z) := hz
        clear hz
        have hwl := hK.size
        have l1 := hO.lt
        have l2 : L < wr.heap.size := by omega
        have l3 : og < wr.heap.size := by omega
        have n1 := owns_far hd hO (by decide)
        have n2 := owns_low hd hlL
        have n3 := owns_low hd hTl
        go_upto_region 12 with fail
        go_cut [] (fun wx => OutB w wx w.heap.size (w.heap.size + 1) off ts os (k + 1) k k)
        case first =>
          go_region_law ((refine step_append_lies _ (by rfl) (.tmp 71) (.tmp 80) 27 (by rfl) w.heap.size 3 i0 (.int .i64 0) 1 8 Try.underlying27 hi hz0 hz1 hz2 (by rfl) (by decide) (.slice x0 l0 c0) k (o1Cells (os.take k)) (by rfl) (by exact (Keep.alloc [] _ _).owns hd (by simp)) ⟨wr.heap.size, 0, none⟩ 1 1 [.int .i64 z] (by rfl) (by rfl) (by exact World.news_of_block (heap_alloc_new wr _)) (by intro u hu; simp at hu; subst hu; rfl) (by decide) (by unfold maxLen; omega) (by omega) (by simp; omega) (wr.heap.size + 1) (by simp) ?_; intro g cap w1 hown hgrow hat hlt2; have kk := keep_app (by first | exact Keep.alloc _ _ _ | exact (Keep.alloc _ _ _).trans' (Keep.drew _ _)) hgrow; have k1 := kk.cell hpa n1; have k2 := kk.cell hpL n2; have k3 := kk.cell hpt n3; have k4 := (kk.blk hO n1).free 4))
          all_goals
            go_wp2_with fail
            go_meet
            case rel =>
              obtain ⟨s1, s2, s3, s4⟩ := app_step (j := 4) hO hd (by decide) (by first | exact Keep.alloc _ _ _ | exact (Keep.alloc _ _ _).trans' (Keep.drew _ _)) hgrow hown
              exact outB_1 hlt (Nat.le_refl _) hK hZ hO ha hb hc j1 j2 j3 hd he hf s1 (by rw [Hz.out]; exact s2) s3 (hat.imp id (by omega))
        case rest =>
        have hA := hcut
        clear hcut hpL hpa hfa hpt hwl l1 l2 l3 n1 n2 n3 hi hz0 hz1 hz2 Hz hO hK hZ ha hb hc hd he hf j1 j2 j3
        obtain ⟨a, b, c, d, e, f, hO, ha, hb, hc, hd, he, hf, j1, j2, j3, hZ, hK⟩ := hA
        have hpL : wc.cell? ⟨L, 4, none⟩ = some (.slice (some ⟨og, 0, none⟩) os.length oc) := hK.cell HL4.out (by simp)
        obtain ⟨x0, l0, c0, rfl⟩ := owns_slice he
        have hpa : wc.cell? ⟨w.heap.size + 1, 5, none⟩ = some (.slice x0 l0 c0) := hO.cell 5
        have hfa : wc.frozen? ⟨w.heap.size + 1, 5, none⟩ = false := hO.free 5
        have hpt : wc.cell? ⟨og, k * 3 + 1, none⟩ = some (.int .i64 os[k].2.1) := hK.cell HT.out.2.1 (by simp)
        obtain ⟨i0, hi, hz0, hz1, hz2⟩ := info_parts info3
        generalize hz : os[k].2.1 = z at hpt
        have Hz : Hid (os[k].2.1 = z) := hz
        clear hz
        have hwl := hK.size
        have l1 := hO.lt
        have l2 : L < wc.heap.size := by omega
        have l3 : og < wc.heap.size := by omega
        have n1 := owns_far he hO (by decide)
        have n2 := owns_low he hlL
        have n3 := owns_low he hTl
        go_upto_region 13 with fail
        go_cut [] (fun wx => OutB w wx w.heap.size (w.heap.size + 1) off ts os (k + 1) (k + 1) k)
        case first =>
          go_region_law ((refine step_append_lies _ (by rfl) (.tmp 84) (.tmp 93) 27 (by rfl) w.heap.size 3 i0 (.int .i64 0) 1 8 Try.underlying27 hi hz0 hz1 hz2 (by rfl) (by decide) (.slice x0 l0 c0) k (o2Cells (os.take k)) (by rfl) (by exact (Keep.alloc [] _ _).owns he (by simp)) ⟨wc.heap.size, 0, none⟩ 1 1 [.int .i64 z] (by rfl) (by rfl) (by exact World.news_of_block (heap_alloc_new wc _)) (by intro u hu; simp at hu; subst hu; rfl) (by decide) (by unfold maxLen; omega) (by omega) (by simp; omega) (wc.heap.size + 1) (by simp) ?_; intro g cap w1 hown hgrow hat hlt2; have kk := keep_app (by first | exact Keep.alloc _ _ _ | exact (Keep.alloc _ _ _).trans' (Keep.drew _ _)) hgrow; have k1 := kk.cell hpa n1; have k2 := kk.cell hpL n2; have k3 := kk.cell hpt n3; have k4 := (kk.blk hO n1).free 5))
          all_goals
            go_wp2_with fail
            go_meet
            case rel =>
              obtain ⟨s1, s2, s3, s4⟩ := app_step (j := 5) hO he (by decide) (by first | exact Keep.alloc _ _ _ | exact (Keep.alloc _ _ _).trans' (Keep.drew _ _)) hgrow hown
              exact outB_2 hlt (Nat.le_refl _) hK hZ hO ha hb hc j1 j2 j3 hd he hf s1 (by rw [Hz.out]; exact s2) s3 (hat.imp id (by omega))
        case rest =>
        have hA := hcut
        clear hcut hpL hpa hfa hpt hwl l1 l2 l3 n1 n2 n3 hi hz0 hz1 hz2 Hz hO hK hZ ha hb hc hd he hf j1 j2 j3
        obtain ⟨a, b, c, d, e, f, hO, ha, hb, hc, hd, he, hf, j1, j2, j3, hZ, hK⟩ := hA
        have hpL : wc.cell? ⟨L, 4, none⟩ = some (.slice (some ⟨og, 0, none⟩) os.length oc) := hK.cell HL4.out (by simp)
        obtain ⟨x0, l0, c0, rfl⟩ := owns_slice hf
        have hpa : wc.cell? ⟨w.heap.size + 1, 6, none⟩ = some (.slice x0 l0 c0) := hO.cell 6
        have hfa : wc.frozen? ⟨w.heap.size + 1, 6, none⟩ = false := hO.free 6
        have hpt : wc.cell? ⟨og, k * 3 + 2, none⟩ = some (.int .i64 os[k].2.2) := hK.cell HT.out.2.2 (by simp)
        obtain ⟨i0, hi, hz0, hz1, hz2⟩ := info_parts info3
        generalize hz : os[k].2.2 = z at hpt
        have Hz : Hid (os[k].2.2 = z) := hz
        clear hz
        have hwl := hK.size
        have l1 := hO.lt
        have l2 : L < wc.heap.size := by omega
        have l3 : og < wc.heap.size := by omega
        have n1 := owns_far hf hO (by decide)
        have n2 := owns_low hf hlL
        have n3 := owns_low hf hTl
        go_upto_region 14 with fail
        go_region_law ((refine step_append_lies _ (by rfl) (.tmp 97) (.tmp 106) 27 (by rfl) w.heap.size 3 i0 (.int .i64 0) 1 8 Try.underlying27 hi hz0 hz1 hz2 (by rfl) (by decide) (.slice x0 l0 c0) k (o3Cells (os.take k)) (by rfl) (by exact (Keep.alloc [] _ _).owns hf (by simp)) ⟨wc.heap.size, 0, none⟩ 1 1 [.int .i64 z] (by rfl) (by rfl) (by exact World.news_of_block (heap_alloc_new wc _)) (by intro u hu; simp at hu; subst hu; rfl) (by decide) (by unfold maxLen; omega) (by omega) (by simp; omega) (wc.heap.size + 1) (by simp) ?_; intro g cap w1 hown hgrow hat hlt2; have kk := keep_app (by first | exact Keep.alloc _ _ _ | exact (Keep.alloc _ _ _).trans' (Keep.drew _ _)) hgrow; have k1 := kk.cell hpa n1; have k2 := kk.cell hpL n2; have k3 := kk.cell hpt n3; have k4 := (kk.blk hO n1).free 6))
        all_goals
          go_wp2_with fail
          go_roundg (gk - 1)
          case measure => omega
          case rel =>
              obtain ⟨s1, s2, s3, s4⟩ := app_step (j := 6) hO hf (by decide) (by first | exact Keep.alloc _ _ _ | exact (Keep.alloc _ _ _).trans' (Keep.drew _ _)) hgrow hown
              exact ⟨k + 1, by omega, by go_num, outB_3 hlt (Nat.le_refl _) hK hZ hO ha hb hc j1 j2 j3 hd he hf s1 (by rw [Hz.out]; exact s2) s3 (hat.imp id (by omega))⟩
      · have ek : k = os.length := by omega
        subst ek
        obtain ⟨a, b, c, d, e, f, hO, ha, hb, hc, hd, he, hf, j1, j2, j3, hZ, hK⟩ := hA
        simp only [List.take_length] at hd he hf
        have cL4 : wr.cell? ⟨L, 4, none⟩ = some ov := hK.cell (hL.cell 4) (by simp)
        obtain ⟨ox, ol, occ, rfl⟩ := owns_slice ho
        have hol : ((ol : Nat) : Int) = (os.length : Int) := by
          rcases ho.2 with ⟨h, h0⟩ | ⟨g, cap, cur, h, _⟩
          · simp at h; omega
          · simp at h; omega
        have hon : ¬ ((os.length : Int) < (ol : Int)) := by omega
        have Hol : Hid _ := hol
        clear hol
        obtain ⟨a0, a1, a2, rfl⟩ := owns_slice ha
        obtain ⟨b0, b1, b2, rfl⟩ := owns_slice hb
        obtain ⟨c0, c1, c2, rfl⟩ := owns_slice hc
        obtain ⟨d0, d1, d2, rfl⟩ := owns_slice hd
        obtain ⟨e0, e1, e2, rfl⟩ := owns_slice he
        obtain ⟨f0, f1, f2, rfl⟩ := owns_slice hf
        have fin : ∀ W, Keep [w.heap.size, w.heap.size + 1] wr W → OutIs W (.agg (outC off (.slice a0 a1 a2) (.slice b0 b1 b2) (.slice c0 c1 c2) (.slice d0 d1 d2) (.slice e0 e1 e2) (.slice f0 f1 f2) er eo em)) off ts os er eo em ∧ Keep [] w W ∧ NewIn w.heap.size (.agg (outC off (.slice a0 a1 a2) (.slice b0 b1 b2) (.slice c0 c1 c2) (.slice d0 d1 d2) (.slice e0 e1 e2) (.slice f0 f1 f2) er eo em)) := by
          intro W hW
          have go1 : ∀ {t n : Nat} {v : Value} {xs : List Value}, wr.ownsRow w.heap.size t 1 v n xs → (29 : Nat) ≠ t → RowAt W t v xs := by
            intro t n v xs h hne
            refine RowAt.of_owns (hW.owns h fun g hg hm => ?_)
            simp at hm
            rcases hm with rfl | rfl
            · exact owns_ne h hZ hne hg
            · exact owns_ne h hO hne hg
          exact ⟨⟨_, _, _, _, _, _, rfl, go1 ha (by decide), go1 hb (by decide), go1 hc (by decide), go1 hd (by decide), go1 he (by decide), go1 hf (by decide)⟩, hK.trans hW (by intro x hx; right; simp at hx; omega), newIn_out (owns_base ha) (owns_base hb) (owns_base hc) (owns_base hd) (owns_base he) (owns_base hf)⟩
        have Hfin : Hid _ := fin
        clear fin
        rcases hep.out with ⟨rfl, rfl, rfl, rfl⟩ | ⟨rfl, E, rfl, hE⟩
        · have o0 := hO.cell 0
          have o1 := hO.cell 1
          have o2 := hO.cell 2
          have o3 := hO.cell 3
          have o4 := hO.cell 4
          have o5 := hO.cell 5
          have o6 := hO.cell 6
          have o7 := hO.cell 7
          have o8 := hO.cell 8
          have o9 := hO.cell 9
          have z0 := hZ.cell 0
          have z1 := hZ.cell 1
          have z2 := hZ.cell 2
          have z3 := hZ.cell 3
          have z4 := hZ.cell 4
          have z5 := hZ.cell 5
          have z6 := hZ.cell 6
          have z7 := hZ.cell 7
          have z8 := hZ.cell 8
          have z9 := hZ.cell 9
          have hfz := hZ.free
          simp only [List.getElem?_toArray, List.getElem?_cons_zero, List.getElem?_cons_succ] at o0 o1 o2 o3 o4 o5 o6 o7 o8 o9 z0 z1 z2 z3 z4 z5 z6 z7 z8 z9
          have HZ : Hid _ := hZ
          clear hO hZ ha hb hc hd he hf j1 j2 j3 hK hlt ho ht hL
          go_wp2
          obtain ⟨q, qk⟩ := ten_sets (w := wr) (b := w.heap.size) (t := 29) HZ.out (.int .i64 off) (.slice a0 a1 a2) (.slice b0 b1 b2) (.slice c0 c1 c2) (.slice d0 d1 d2) (.slice e0 e1 e2) (.slice f0 f1 f2) (.bool false) (.int .i64 0) (.string ⟨#[]⟩)
          have hfin := Hfin.out _ (qk.mono (by simp))
          clear Hfin HZ qk
          generalize ((((((((((wr.setCell ⟨w.heap.size, 0, none⟩ (.int .i64 off)).setCell ⟨w.heap.size, 1, none⟩ (.slice a0 a1 a2)).setCell ⟨w.heap.size, 2, none⟩ (.slice b0 b1 b2)).setCell ⟨w.heap.size, 3, none⟩ (.slice c0 c1 c2)).setCell ⟨w.heap.size, 4, none⟩ (.slice d0 d1 d2)).setCell ⟨w.heap.size, 5, none⟩ (.slice e0 e1 e2)).setCell ⟨w.heap.size, 6, none⟩ (.slice f0 f1 f2)).setCell ⟨w.heap.size, 7, none⟩ (.bool false)).setCell ⟨w.heap.size, 8, none⟩ (.int .i64 0)).setCell ⟨w.heap.size, 9, none⟩ (.string ⟨#[]⟩)) = W at *
          have q0 := q.cell 0
          have q1 := q.cell 1
          have q2 := q.cell 2
          have q3 := q.cell 3
          have q4 := q.cell 4
          have q5 := q.cell 5
          have q6 := q.cell 6
          have q7 := q.cell 7
          have q8 := q.cell 8
          have q9 := q.cell 9
          simp only [List.getElem?_toArray, List.getElem?_cons_zero, List.getElem?_cons_succ] at q0 q1 q2 q3 q4 q5 q6 q7 q8 q9
          refine bodyPost_ret (v := .agg (outC off (.slice a0 a1 a2) (.slice b0 b1 b2) (.slice c0 c1 c2) (.slice d0 d1 d2) (.slice e0 e1 e2) (.slice f0 f1 f2) false 0 ⟨#[]⟩)) ?_ rfl ⟨_, rfl, hfin⟩
          simp [results, Try.results34, go_sem, q0, q1, q2, q3, q4, q5, q6, q7, q8, q9]
        · have o0 := hO.cell 0
          have o1 := hO.cell 1
          have o2 := hO.cell 2
          have o3 := hO.cell 3
          have o4 := hO.cell 4
          have o5 := hO.cell 5
          have o6 := hO.cell 6
          have o7 := hO.cell 7
          have o8 := hO.cell 8
          have o9 := hO.cell 9
          have z0 := hZ.cell 0
          have z1 := hZ.cell 1
          have z2 := hZ.cell 2
          have z3 := hZ.cell 3
          have z4 := hZ.cell 4
          have z5 := hZ.cell 5
          have z6 := hZ.cell 6
          have z7 := hZ.cell 7
          have z8 := hZ.cell 8
          have z9 := hZ.cell 9
          have hfz := hZ.free
          simp only [List.getElem?_toArray, List.getElem?_cons_zero, List.getElem?_cons_succ] at o0 o1 o2 o3 o4 o5 o6 o7 o8 o9 z0 z1 z2 z3 z4 z5 z6 z7 z8 z9
          have hfo := hO.free
          have hEl := hE.lt
          have ee0 : wr.cell? ⟨E, 0, none⟩ = some (.int .i64 eo) := hK.cell (hE.cell 0) (by simp)
          have ee1 : wr.cell? ⟨E, 1, none⟩ = some (.string em) := hK.cell (hE.cell 1) (by simp)
          have hZ2 : Blk (((wr.setCell ⟨w.heap.size + 1, 7, none⟩ (.bool true)).setCell ⟨w.heap.size + 1, 8, none⟩ (.int .i64 eo)).setCell ⟨w.heap.size + 1, 9, none⟩ (.string em)) w.heap.size 29 zeroOut := ((hZ.other _ _ (by show w.heap.size ≠ w.heap.size + 1; omega)).other _ _ (by show w.heap.size ≠ w.heap.size + 1; omega)).other _ _ (by show w.heap.size ≠ w.heap.size + 1; omega)
          have hK2 : Keep [w.heap.size, w.heap.size + 1] wr (((wr.setCell ⟨w.heap.size + 1, 7, none⟩ (.bool true)).setCell ⟨w.heap.size + 1, 8, none⟩ (.int .i64 eo)).setCell ⟨w.heap.size + 1, 9, none⟩ (.string em)) := ((Keep.setCell _ _ _ (by simp)).trans' (Keep.setCell _ _ _ (by simp))).trans' (Keep.setCell _ _ _ (by simp))
          have HZ : Hid _ := hZ2
          have HK2 : Hid _ := hK2
          clear hZ2 hK2 hO hZ ha hb hc hd he hf j1 j2 j3 hK hlt ho ht hL hE
          go_wp2
          obtain ⟨q, qk⟩ := ten_sets (w := ((wr.setCell ⟨w.heap.size + 1, 7, none⟩ (.bool true)).setCell ⟨w.heap.size + 1, 8, none⟩ (.int .i64 eo)).setCell ⟨w.heap.size + 1, 9, none⟩ (.string em)) (b := w.heap.size) (t := 29) HZ.out (.int .i64 off) (.slice a0 a1 a2) (.slice b0 b1 b2) (.slice c0 c1 c2) (.slice d0 d1 d2) (.slice e0 e1 e2) (.slice f0 f1 f2) (.bool true) (.int .i64 eo) (.string em)
          have hfin := Hfin.out _ (Keep.trans' HK2.out (qk.mono (by simp)))
          clear Hfin HZ qk
          generalize (((((((((((((wr.setCell ⟨w.heap.size + 1, 7, none⟩ (.bool true)).setCell ⟨w.heap.size + 1, 8, none⟩ (.int .i64 eo)).setCell ⟨w.heap.size + 1, 9, none⟩ (.string em)).setCell ⟨w.heap.size, 0, none⟩ (.int .i64 off)).setCell ⟨w.heap.size, 1, none⟩ (.slice a0 a1 a2)).setCell ⟨w.heap.size, 2, none⟩ (.slice b0 b1 b2)).setCell ⟨w.heap.size, 3, none⟩ (.slice c0 c1 c2)).setCell ⟨w.heap.size, 4, none⟩ (.slice d0 d1 d2)).setCell ⟨w.heap.size, 5, none⟩ (.slice e0 e1 e2)).setCell ⟨w.heap.size, 6, none⟩ (.slice f0 f1 f2)).setCell ⟨w.heap.size, 7, none⟩ (.bool true)).setCell ⟨w.heap.size, 8, none⟩ (.int .i64 eo)).setCell ⟨w.heap.size, 9, none⟩ (.string em)) = W at *
          have q0 := q.cell 0
          have q1 := q.cell 1
          have q2 := q.cell 2
          have q3 := q.cell 3
          have q4 := q.cell 4
          have q5 := q.cell 5
          have q6 := q.cell 6
          have q7 := q.cell 7
          have q8 := q.cell 8
          have q9 := q.cell 9
          simp only [List.getElem?_toArray, List.getElem?_cons_zero, List.getElem?_cons_succ] at q0 q1 q2 q3 q4 q5 q6 q7 q8 q9
          refine bodyPost_ret (v := .agg (outC off (.slice a0 a1 a2) (.slice b0 b1 b2) (.slice c0 c1 c2) (.slice d0 d1 d2) (.slice e0 e1 e2) (.slice f0 f1 f2) true eo em)) ?_ rfl ⟨_, rfl, hfin⟩
          simp [results, Try.results34, go_sem, q0, q1, q2, q3, q4, q5, q6, q7, q8, q9]
end Go.Proofs.Qxb6601273a
