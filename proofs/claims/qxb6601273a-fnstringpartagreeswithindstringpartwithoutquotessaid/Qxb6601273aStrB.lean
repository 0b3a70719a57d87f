import Derived.Test.Qxb6601273aStrD
namespace Go.Proofs.Qxb6601273a
open Go.RowKit
set_option linter.unusedVariables false

set_option maxRecDepth 100000 in
set_option maxHeartbeats 40000000 in
theorem f36_any (L base off : Nat) (v : Value) (bs : List UInt8) (text : ByteArray) (os : List Op3) (o : Op3) (w : World) (h : LexIs w L base v text off [] (os ++ [o])) (hs : Src w v bs) (hb : base ≤ w.heap.size)
    (ho : off ≤ bs.length) (hn : bs.length ≤ 10000000) (hm : os.length ≤ 100000) :
    Calls Try.prog 36 #[.pointer (some ⟨L, 0, none⟩)] w (StrPost w L base off v text os o (strScan bs (bs.length - off + 1) off [])) := by
  generalize hR : strScan bs (bs.length - off + 1) off [] = R
  have HR : Hid _ := hR
  clear hR
  have hLb := h.blk
  obtain ⟨sa, sc, rfl⟩ := hs.form
  have hL0 := h
  obtain ⟨tv0, ov0, hB0, _, _⟩ := hL0
  have c2 := hB0.cell 2
  simp only [List.getElem?_toArray, List.getElem?_cons_zero, List.getElem?_cons_succ] at c2
  clear hB0
  go_enter Try.func36, Try.ntmps36
  go_wp2_with fail
  clear c2
  go_loopg [4] (bs.length - off + 1) (fun gk tx wr => StrRel w L base off (.slice sa bs.length sc) text (os ++ [o]) bs R gk tx wr)
  case atStart => exact ⟨off, [], h, World.ownsRow_nil _ _ _ _, Fr.refl _ _ _, ho, by simp, by omega, HR.out⟩
  case round =>
    clear h HR
    obtain ⟨p, acc, hI, hx, hF, hp, hac, hg, hsc⟩ := hrel
    obtain ⟨gk, rfl⟩ : ∃ g', gk = g' + 1 := ⟨gk - 1, by omega⟩
    have hsr : Src wr (.slice sa bs.length sc) bs := hF.src hs hLb
    obtain ⟨x0, l0, cx0, rfl⟩ := owns_slice hx
    obtain ⟨i0, hi, hz0, hz1, hz2⟩ := info_parts info5
    have hI0 := hI
    obtain ⟨tv, ov, hL, htv, hov⟩ := hI0
    have c0 := hL.cell 0
    have c2 := hL.cell 2
    simp only [List.getElem?_toArray, List.getElem?_cons_zero, List.getElem?_cons_succ] at c0 c2
    have hbw : base ≤ wr.heap.size := by have := hF.2.2.2.1; omega
    have Hsc : Hid _ := hsc
    clear hsc
    by_cases hend : bs.length ≤ p
    · as_aux_lemma =>
      have hi1 : ¬ ((p : Int) < (bs.length : Int)) := by omega
      have hi2 : (bs.length : Int) ≤ (p : Int) := by omega
      go_wp2_with fail
      go_quiet (fail)
      go_wp2_with fail
      refine (f46_any L _ tv ov text p os o base _ (by exact hL) (by exact hov) (by omega)).mono ?_
      rintro e w1 ⟨E, rfl, hE, hEl, hKE⟩
      have fin : StrPost w L base off (.slice sa bs.length sc) text os o R (.returned (.pointer (some ⟨E, 0, none⟩))) w1 := by
        have e1 : R = (3, p, acc) := by rw [← Hsc.out, scan_end hend]
        have k1 : Keep [] wr w1 := (Keep.drewN _ _ _).trans' hKE
        refine ⟨hF.trans k1.fr0, .inr (.inr ?_)⟩
        rw [e1]
        exact ⟨rfl, hI.keep0 k1, E, rfl, hE, by have := hF.2.2.2.1; exact Nat.le_trans this hEl⟩
      have Hfin := hidden fin
      clear fin hE hEl hKE
      go_wp2_with fail
      go_ret
      exact Hfin.out
    · have hlt : p < bs.length := by omega
      obtain ⟨g, rfl, hcs⟩ := hsr.cells hlt
      have cp := hcs p hlt
      have hi1 : (p : Int) < (bs.length : Int) := by omega
      have hi0 : (0 : Int) ≤ (p : Int) := by omega
      have hzr := byteAt_range bs p
      go_wp2_with fail
      go_quiet (fail)
      go_wp2_with fail
      go_quiet (fail)
      go_upto_region 8 with fail
      go_cut [43] (fun b wx => b = .bool (stopB bs p) ∧ ∃ m, wx = wr.drewN m)
      case first =>
        as_aux_lemma =>
        by_cases h1 : byteAt bs p = 34
        · have b1 : (byteAt bs p == 34) = true := beq_iff_eq.2 h1
          have hv : stopB bs p = true := by unfold stopB; simp [h1]
          have HV : Hid _ := hv
          clear hv h1
          go_wp2_with fail
          go_meet
          case rel => exact ⟨by rw [HV.out], _, rfl⟩
        · have b1 : (byteAt bs p == 34) = false := beq_eq_false_iff_ne.2 h1
          by_cases h2 : byteAt bs p = 36
          · have b2 : (byteAt bs p == 36) = true := beq_iff_eq.2 h2
            have hv : stopB bs p = (byteAt bs (p + 1) == 123) := by unfold stopB; simp [h2]; rw [Bool.eq_iff_iff]; simp
            have HV : Hid _ := hv
            clear hv h1 h2
            go_wp2_with fail
            refine (peek1 L _ bs p _ (by exact c2) (by exact c0) (by exact hsr.drewN _) (by omega) (by omega)).mono ?_
            rintro e w' ⟨rfl, m, rfl⟩
            go_wp2_with fail
            go_meet
            case rel => exact ⟨by rw [HV.out], _, rfl⟩
          · have b2 : (byteAt bs p == 36) = false := beq_eq_false_iff_ne.2 h2
            have hv : stopB bs p = false := by unfold stopB; simp [h1, h2]
            have HV : Hid _ := hv
            clear hv h1 h2
            go_wp2_with fail
            go_meet
            case rel => exact ⟨by rw [HV.out], _, rfl⟩
      case rest =>
        obtain ⟨rfl, m, rfl⟩ := hcut
        have hI1 := hI.drewN m
        have hx1 : (wr.drewN m).ownsRow w.heap.size 5 1 (.slice x0 l0 cx0) acc.length (byteCells acc) := (Keep.drewN [] _ _).owns hx (by simp)
        have hF1 : Fr L base w (wr.drewN m) := hF.trans (Keep.drewN [] _ _).fr0
        have hsr1 := hsr.drewN m
        have hcs1 : ∀ k, k < bs.length → (wr.drewN m).cell? ⟨g, k, none⟩ = some (.int .u8 (byteAt bs k)) := hcs
        have hbw1 : base ≤ (wr.drewN m).heap.size := hbw
        clear hI hx hF hsr hcs hbw c0 c2 cp tv ov hL htv hov
        generalize wr.drewN m = w1 at *
        obtain ⟨c0, c2, cf⟩ := hI1.cells
        have cp := hcs1 p hlt
        cases hst : stopB bs p
        · go_upto_region 18 with fail
          go_cut [101] (fun b wx => b = .bool (escB bs p) ∧ ∃ m, wx = w1.drewN m)
          case first =>
            as_aux_lemma =>
            by_cases h1 : byteAt bs p = 92
            · have b1 : (byteAt bs p == 92) = true := beq_iff_eq.2 h1
              have hv : escB bs p = decide ((p : Int) + 1 < (bs.length : Int)) := by unfold escB; simp [h1]; omega
              have HV : Hid _ := hv
              clear hv h1
              go_quiet (fail)
              go_wp2_with fail
              go_meet
              case rel => exact ⟨by rw [HV.out], _, rfl⟩
            · have b1 : (byteAt bs p == 92) = false := beq_eq_false_iff_ne.2 h1
              have hv : escB bs p = false := by unfold escB; simp [h1]
              have HV : Hid _ := hv
              clear hv h1
              go_quiet (fail)
              go_wp2_with fail
              go_meet
              case rel => exact ⟨by rw [HV.out], _, rfl⟩
          case rest =>
            obtain ⟨rfl, m', rfl⟩ := hcut
            have hI2 := hI1.drewN m'
            have hx2 : (w1.drewN m').ownsRow w.heap.size 5 1 (.slice x0 l0 cx0) acc.length (byteCells acc) := (Keep.drewN [] _ _).owns hx1 (by simp)
            have hF2 : Fr L base w (w1.drewN m') := hF1.trans (Keep.drewN [] _ _).fr0
            have hsr2 := hsr1.drewN m'
            have hcs2 : ∀ k, k < bs.length → (w1.drewN m').cell? ⟨g, k, none⟩ = some (.int .u8 (byteAt bs k)) := hcs1
            have hbw2 : base ≤ (w1.drewN m').heap.size := hbw1
            clear hI1 hx1 hF1 hsr1 hcs1 hbw1 c0 c2 cf cp
            generalize w1.drewN m' = w2 at *
            obtain ⟨c0, c2, cf⟩ := hI2.cells
            have cp := hcs2 p hlt
            cases hes : escB bs p
            · go_upto_region 21 with fail
              go_cut [139] (fun b wx => b = .bool (dolB bs p) ∧ ∃ m, wx = w2.drewN m)
              case first =>
                as_aux_lemma =>
                by_cases h1 : byteAt bs p = 36
                · have b1 : (byteAt bs p == 36) = true := beq_iff_eq.2 h1
                  by_cases h2 : byteAt bs (p + 1) = 34
                  · have b2 : (byteAt bs (p + 1) != 34) = false := by simp [h2]
                    have hv : dolB bs p = false := by unfold dolB; simp [h2]
                    have HV : Hid _ := hv
                    clear hv h1 h2
                    go_quiet ((go_at_call 44; exact Calls.quiet_of (peek1 L _ bs p _ (by exact c2) (by exact c0) (by exact hsr2.drewN _) (by omega) (by omega))))
                    go_wp2_with fail
                    go_meet
                    case rel => exact ⟨by rw [HV.out], _, rfl⟩
                  · have b2 : (byteAt bs (p + 1) != 34) = true := by simp [h2]
                    by_cases h3 : byteAt bs (p + 1) = 92
                    · have b3 : (byteAt bs (p + 1) != 92) = false := by simp [h3]
                      have hv : dolB bs p = false := by unfold dolB; simp [h3]
                      have HV : Hid _ := hv
                      clear hv h1 h2 h3
                      go_quiet ((go_at_call 44; exact Calls.quiet_of (peek1 L _ bs p _ (by exact c2) (by exact c0) (by exact hsr2.drewN _) (by omega) (by omega))))
                      go_wp2_with fail
                      go_meet
                      case rel => exact ⟨by rw [HV.out], _, rfl⟩
                    · have b3 : (byteAt bs (p + 1) != 92) = true := by simp [h3]
                      have hv : dolB bs p = decide ((p : Int) + 1 < (bs.length : Int)) := by unfold dolB; simp [h1, h2, h3]; omega
                      have HV : Hid _ := hv
                      clear hv h1 h2 h3
                      go_quiet ((go_at_call 44; exact Calls.quiet_of (peek1 L _ bs p _ (by exact c2) (by exact c0) (by exact hsr2.drewN _) (by omega) (by omega))))
                      go_wp2_with fail
                      go_meet
                      case rel => exact ⟨by rw [HV.out], _, rfl⟩
                · have b1 : (byteAt bs p == 36) = false := beq_eq_false_iff_ne.2 h1
                  have hv : dolB bs p = false := by unfold dolB; simp [h1]
                  have HV : Hid _ := hv
                  clear hv h1
                  go_quiet (fail)
                  go_wp2_with fail
                  go_meet
                  case rel => exact ⟨by rw [HV.out], _, rfl⟩
              case rest =>
                obtain ⟨rfl, m'', rfl⟩ := hcut
                have hI3 := hI2.drewN m''
                have hx3 : (w2.drewN m'').ownsRow w.heap.size 5 1 (.slice x0 l0 cx0) acc.length (byteCells acc) := (Keep.drewN [] _ _).owns hx2 (by simp)
                have hF3 : Fr L base w (w2.drewN m'') := hF2.trans (Keep.drewN [] _ _).fr0
                have hsr3 := hsr2.drewN m''
                have hcs3 : ∀ k, k < bs.length → (w2.drewN m'').cell? ⟨g, k, none⟩ = some (.int .u8 (byteAt bs k)) := hcs2
                have hbw3 : base ≤ (w2.drewN m'').heap.size := hbw2
                clear hI2 hx2 hF2 hsr2 hcs2 hbw2 c0 c2 cf cp
                generalize w2.drewN m'' = w3 at *
                obtain ⟨c0, c2, cf⟩ := hI3.cells
                have cp := hcs3 p hlt
                cases hdo : dolB bs p
                ·
                  as_aux_lemma =>
                  have hsc' := scan_oth (f := gk) (acc := acc) hlt hst hes hdo
                  rw [Hsc.out] at hsc'
                  have HS : Hid _ := hsc'
                  clear hsc'
                  go_wp2_with (at_builtin; refine wpList_append_lies _ rfl (.tmp 32) (.tmp 34) 22 rfl w.heap.size 5 i0 (.int .u8 0) 1 1 Try.underlying22 hi hz0 hz1 hz2 rfl (by decide) (.slice x0 l0 cx0) acc.length (byteCells acc) rfl (by exact (Keep.alloc [] _ _).owns hx3 (by simp)) ⟨w3.heap.size, 0, none⟩ 1 1 (byteCells [atU bs p]) rfl rfl ?c1 ?c2 (by decide) ?c3 ?c4 ?c5 (w3.heap.size + 1) ?c6 ?_)
                  case c1 => exact World.news_of_block (heap_alloc_new w3 _)
                  case c2 => intro u hu; simp [byteCells] at hu; subst hu; rfl
                  case c3 => unfold maxLen; omega
                  case c4 => omega
                  case c5 => simp; have := hF3.2.2.2.1; omega
                  case c6 => simp
                  intro gg cap wn hown hgrow hat hlt1
                  have kk := keep_app (wr := w3) (Keep.alloc _ _ _) hgrow
                  have hc := (hI3.app hx3 kk).cells
                  have r := strRel_step (off := off) (q := (p : Int) + 1) (p' := p + 1) (gk := gk) (news := [atU bs p]) hI3 hx3 hF3 (Keep.alloc _ _ _) hgrow hown (by omega) (by omega) (by simp; omega) (by omega) HS.out.symm
                  have HR : Hid _ := r
                  obtain ⟨k0, k2, kf⟩ := hc
                  clear r hgrow hown kk hat hI3 hx3 hsr3 hs hcs3 hF3 c0 c2 cf cp
                  go_wp2_with fail
                  go_roundg gk
                  case measure => omega
                  case rel => exact HR.out
                ·
                  as_aux_lemma =>
                  have hdl : p + 1 < bs.length := by
                    unfold dolB at hdo; simp at hdo; exact hdo.2
                  have cp1 := hcs3 (p + 1) hdl
                  have hj1 : (p : Int) + 1 < (bs.length : Int) := by omega
                  have hsc' := scan_dol (f := gk) (acc := acc) hlt hst hes hdo
                  rw [Hsc.out] at hsc'
                  have HS : Hid _ := hsc'
                  clear hsc'
                  have hwp : IntKind.i64.wrap ((p : Int) + 1) = (p : Int) + 1 := by rw [IntKind.wrap_i64]; omega
                  have htn : ((p : Int) + 1).toNat = p + 1 := by omega
                  have hj0 : (0 : Int) ≤ (p : Int) + 1 := by omega
                  have lL := hI3.lt
                  have lg : g < w3.heap.size := World.block_lt_of_cell? w3 ⟨g, p, none⟩ cp
                  have hszF := hF3.2.2.2.1
                  have nL : L ∉ (Value.slice x0 l0 cx0).ownBlock.toList := by
                    obtain ⟨cs, hq⟩ := hI3.blk
                    exact owns_far hx3 hq (by decide)
                  have ng : g ∉ (Value.slice x0 l0 cx0).ownBlock.toList := by
                    rcases hs with ⟨h1, _⟩ | ⟨g', cap, cs', hv, _, hb', _⟩
                    · cases h1
                    · simp at hv
                      exact owns_low hx3 (by have := hb'.lt; omega)
                  go_upto_region 22 with fail
                  go_region_held3 (fun w' => w'.cell? ⟨L, 0, none⟩ = some (.slice (some ⟨g, 0, none⟩) bs.length sc) ∧ w'.cell? ⟨L, 2, none⟩ = some (.int .i64 p) ∧ w'.cell? ⟨g, p + 1, none⟩ = some (.int .u8 (byteAt bs (p + 1)))) (first | go_keep | (refine ⟨?_, ?_, ?_⟩; with_reducible exact k0; with_reducible exact k2; with_reducible exact k3))
                    ((refine step_append_lies _ (by rfl) (.tmp 165) (.tmp 178) 22 (by rfl) w.heap.size 5 i0 (.int .u8 0) 1 1 Try.underlying22 hi hz0 hz1 hz2 (by rfl) (by decide) (.slice x0 l0 cx0) acc.length (byteCells acc) (by rfl) (by exact (Keep.alloc [] _ _).owns hx3 (by simp)) ⟨w3.heap.size, 0, none⟩ 2 2 (byteCells [atU bs p, atU bs (p + 1)]) (by rfl) (by rfl) (by exact World.news_of_block (heap_alloc_new w3 _)) (by intro u hu; simp [byteCells] at hu; rcases hu with rfl | rfl <;> rfl) (by decide) (by unfold maxLen; omega) (by omega) (by simp; omega) (w3.heap.size + 1) (by simp) ?_; intro gg cap wn hown hgrow hat hlt2; have kk := keep_app (by first | exact Keep.alloc _ _ _ | exact (Keep.alloc _ _ _).trans' (Keep.drew _ _)) hgrow; have k0 := kk.cell c0 nL; have k2 := kk.cell c2 nL; have k3 := kk.cell cp1 ng))
                  all_goals
                    have hc := (hI3.app hx3 kk).cells
                    have r := strRel_step (off := off) (q := (p : Int) + 2) (p' := p + 2) (gk := gk) (news := [atU bs p, atU bs (p + 1)]) hI3 hx3 hF3 (by first | exact Keep.alloc _ _ _ | exact (Keep.alloc _ _ _).trans' (Keep.drew _ _)) hgrow hown (by omega) (by omega) (by simp; omega) (by omega) HS.out.symm
                    have HR : Hid _ := r
                    clear k0 k2 k3
                    obtain ⟨k0, k2, kf⟩ := hc
                    clear r hgrow hown kk hat hI3 hx3 hsr3 hs hcs3 hF3 c0 c2 cf cp cp1 hwp htn
                    go_wp2_with fail
                    go_roundg gk
                    case measure => omega
                    case rel => exact HR.out
            ·
                as_aux_lemma =>
                have hdl : p + 1 < bs.length := by
                  unfold escB at hes; simp at hes; exact hes.2
                have cp1 := hcs2 (p + 1) hdl
                have hj1 : (p : Int) + 1 < (bs.length : Int) := by omega
                have hsc' := scan_esc (f := gk) (acc := acc) hlt hst hes
                rw [Hsc.out] at hsc'
                have HS : Hid _ := hsc'
                clear hsc'
                have hwp : IntKind.i64.wrap ((p : Int) + 1) = (p : Int) + 1 := by rw [IntKind.wrap_i64]; omega
                have htn : ((p : Int) + 1).toNat = p + 1 := by omega
                have hj0 : (0 : Int) ≤ (p : Int) + 1 := by omega
                have lL := hI2.lt
                have lg : g < w2.heap.size := World.block_lt_of_cell? w2 ⟨g, p, none⟩ cp
                have hszF := hF2.2.2.2.1
                have hju := unescU_nat (atU bs (p + 1))
                rw [atU_nat] at hju
                have nL : L ∉ (Value.slice x0 l0 cx0).ownBlock.toList := by
                  obtain ⟨cs, hq⟩ := hI2.blk
                  exact owns_far hx2 hq (by decide)
                have ng : g ∉ (Value.slice x0 l0 cx0).ownBlock.toList := by
                  rcases hs with ⟨h1, _⟩ | ⟨g', cap, cs', hv, _, hb', _⟩
                  · cases h1
                  · simp at hv
                    exact owns_low hx2 (by have := hb'.lt; omega)
                go_upto_region 19 with fail
                go_region_held3 (fun w' => w'.cell? ⟨L, 0, none⟩ = some (.slice (some ⟨g, 0, none⟩) bs.length sc) ∧ w'.cell? ⟨L, 2, none⟩ = some (.int .i64 p) ∧ w'.cell? ⟨g, p + 1, none⟩ = some (.int .u8 (byteAt bs (p + 1)))) (first | go_keep | (refine ⟨?_, ?_, ?_⟩; with_reducible exact k0; with_reducible exact k2; with_reducible exact k3))
                  (first | (go_at_call 48; refine (f48_any _ _).mono ?_; rintro e w' ⟨rfl, rfl⟩) | (refine step_append_lies _ (by rfl) (.tmp 117) (.tmp 130) 22 (by rfl) w.heap.size 5 i0 (.int .u8 0) 1 1 Try.underlying22 hi hz0 hz1 hz2 (by rfl) (by decide) (.slice x0 l0 cx0) acc.length (byteCells acc) (by rfl) (by exact (Keep.alloc [] _ _).owns hx2 (by simp)) ⟨w2.heap.size, 0, none⟩ 1 1 [.int .u8 (unescI (byteAt bs (p + 1)))] (by rfl) (by rfl) (by exact World.news_of_block (heap_alloc_new w2 _)) (by intro u hu; simp at hu; subst hu; rfl) (by decide) (by unfold maxLen; omega) (by omega) (by simp; omega) (w2.heap.size + 1) (by simp) ?_; intro gg cap wn hown hgrow hat hlt2; have kk := keep_app (by first | exact Keep.alloc _ _ _ | exact (Keep.alloc _ _ _).trans' (Keep.drew _ _)) hgrow; have k0 := kk.cell c0 nL; have k2 := kk.cell c2 nL; have k3 := kk.cell cp1 ng))
                all_goals
                  have hown' : wn.ownsRow w.heap.size 5 1 (.slice (some ⟨gg, 0, none⟩) (acc.length + 1) cap) (acc.length + [unescU (atU bs (p + 1))].length) (byteCells acc ++ byteCells [unescU (atU bs (p + 1))]) := by
                    have e : byteCells [unescU (atU bs (p + 1))] = [.int .u8 (unescI (byteAt bs (p + 1)))] := by simp [byteCells, hju]
                    rw [e]; exact hown
                  have hc := (hI2.app hx2 kk).cells
                  have r := strRel_step (off := off) (q := (p : Int) + 2) (p' := p + 2) (gk := gk) (news := [unescU (atU bs (p + 1))]) hI2 hx2 hF2 (by first | exact Keep.alloc _ _ _ | exact (Keep.alloc _ _ _).trans' (Keep.drew _ _)) hgrow hown' (by omega) (by omega) (by simp; omega) (by omega) HS.out.symm
                  have HR : Hid _ := r
                  clear k0 k2 k3
                  obtain ⟨k0, k2, kf⟩ := hc
                  clear r hgrow hown hown' kk hat hI2 hx2 hsr2 hs hcs2 hF2 c0 c2 cf cp cp1 hwp htn hju
                  go_wp2_with fail
                  go_roundg gk
                  case measure => omega
                  case rel => exact HR.out
        ·
          as_aux_lemma =>
          have hl0 : (l0 : Nat) = acc.length := by
            rcases hx1.2 with ⟨h1, h2⟩ | ⟨g', cap, cur, hv, _⟩
            · simp at h1; omega
            · simp at hv; omega
          subst hl0
          have hsx : Src w1 (.slice x0 acc.length cx0) acc := Src.of_owns hx1
          go_upto_if 57 with fail
          go_cut [] (fun wx => LexIs wx L base (.slice (some ⟨g, 0, none⟩) bs.length sc) text (p : Int) (litTok off acc) (os ++ [o]) ∧ Fr L base w wx)
          case first =>
            by_cases hae : acc = []
            · subst hae
              have hr : LexIs w1 L base (.slice (some ⟨g, 0, none⟩) bs.length sc) text (p : Int) (litTok off []) (os ++ [o]) := hI1
              go_wp2_with fail
              go_meet
              case rel => exact ⟨hr, hF1⟩
            · have hap : (0 : Int) < (acc.length : Int) := by
                have := List.length_pos_iff.2 hae; omega
              have hcv := run_conv_src hsx
              have elit : litTok off acc = [((⟨acc.toArray⟩ : ByteArray), (off : Int), 5)] := by unfold litTok; rw [if_neg hae]
              have Helit : Hid _ := elit
              clear elit
              go_wp2_with fail
              refine (emit_is L base _ text ⟨acc.toArray⟩ p off 5 [] (os ++ [o]) _ hI1 hbw1 (by simp) (by omega) (by omega) (by omega) (by omega)).mono ?_
              rintro e wn ⟨rfl, hIn, hFn⟩
              have r : LexIs wn L base (.slice (some ⟨g, 0, none⟩) bs.length sc) text (p : Int) (litTok off acc) (os ++ [o]) := by rw [Helit.out]; exact hIn
              have r2 := hF1.trans hFn
              clear hIn hFn hcv
              go_wp2_with fail
              go_meet
              case rel => exact ⟨r, r2⟩
          case rest =>
            obtain ⟨hIc, hFc⟩ := hcut
            have hbc : base ≤ wc.heap.size := by have := hFc.2.2.2.1; omega
            have hll : (litTok off acc).length ≤ 1 := by unfold litTok; split <;> simp
            by_cases h34 : byteAt bs p = 34
            · have b34 : (byteAt bs p == 34) = true := beq_iff_eq.2 h34
              have hres := scan_close (f := gk) (acc := acc) hlt hst h34
              rw [Hsc.out] at hres
              have HRes : Hid _ := hres
              clear hres h34
              clear c0 c2 cf cp hI1 hx1 hF1 hsr1 hcs1 hbw1 hsx
              obtain ⟨c0, c2, cf⟩ := hIc.cells
              go_wp2_with fail
              refine (emit_is L base _ text ⟨#[]⟩ p p 6 _ (os ++ [o]) _ hIc hbc (by omega) (by omega) (by omega) (by omega) (by omega)).mono ?_
              rintro e wn ⟨rfl, hIn, hFn⟩
              clear c0 c2 cf
              obtain ⟨tv, ov, hL, htv, hov⟩ := hIn
              obtain ⟨og, oc, ocur, rfl, hob, hole, _⟩ := opens_last (n := 0) hov
              have c2 := hL.cell 2
              have c4 := hL.cell 4
              have f4 := hL.free 4
              have f2 := hL.free 2
              simp only [List.getElem?_toArray, List.getElem?_cons_zero, List.getElem?_cons_succ] at c2 c4
              have q0 : (0 : Int) ≤ (os.length : Int) := by omega
              have q1 : (os.length : Int) ≤ (oc : Int) := by omega
              have q2 : IntKind.i64.wrap ((os.length : Int) + 1 - 1) = (os.length : Int) := by rw [IntKind.wrap_i64]; omega
              go_upto_region 13 with fail
              go_region
              have hP := lex_pop hL htv hov
              have hP1 := hP.1.keep0 (Keep.drew [] _)
              have hF2 : Fr L base w ((wn.setCell ⟨L, 4, none⟩ (.slice (some ⟨og, 0, none⟩) os.length oc)).drew) := ((hFc.trans hFn).trans hP.2).trans (Keep.drew [] _).fr0
              clear hP c2 c4 f4 f2 hL htv hov hob hIc hFc hFn
              generalize (wn.setCell ⟨L, 4, none⟩ (.slice (some ⟨og, 0, none⟩) os.length oc)).drew = wz at *
              obtain ⟨c0, c2, cf⟩ := hP1.cells
              have hQ := hP1.setOff ((p : Int) + 1)
              have fin : StrPost w L base off (.slice (some ⟨g, 0, none⟩) bs.length sc) text os o R (.returned (.pointer none)) (wz.setCell ⟨L, 2, none⟩ (.int .i64 ((p : Int) + 1))) := by
                refine ⟨hF2.trans hQ.2, .inl ?_⟩
                rw [HRes.out]
                exact ⟨rfl, rfl, hQ.1⟩
              have Hfin := hidden fin
              clear fin hQ hF2 hP1
              go_wp2
              go_ret
              exact Hfin.out
            · have b34 : (byteAt bs p == 34) = false := beq_eq_false_iff_ne.2 h34
              have hres := scan_interp (f := gk) (acc := acc) hlt hst h34
              rw [Hsc.out] at hres
              have HRes : Hid _ := hres
              clear hres h34
              clear c0 c2 cf cp hI1 hx1 hF1 hsr1 hcs1 hbw1 hsx
              go_wp2_with fail
              refine (f47_any L base p _ text _ (os ++ [o]) _ hIc hbc (by omega) (by simp; omega) (by omega)).mono ?_
              rintro e wz ⟨rfl, hIn, hFn⟩
              obtain ⟨c0, c2, cf⟩ := hIn.cells
              have hQ := hIn.setOff ((p : Int) + 2)
              have fin : StrPost w L base off (.slice (some ⟨g, 0, none⟩) bs.length sc) text os o R (.returned (.pointer none)) (wz.setCell ⟨L, 2, none⟩ (.int .i64 ((p : Int) + 2))) := by
                refine ⟨(hFc.trans hFn).trans hQ.2, .inr (.inl ?_)⟩
                rw [HRes.out]
                exact ⟨rfl, rfl, hQ.1⟩
              have Hfin := hidden fin
              clear fin hQ hFn hFc hIn hIc
              go_wp2
              go_ret
              exact Hfin.out
end Go.Proofs.Qxb6601273a
