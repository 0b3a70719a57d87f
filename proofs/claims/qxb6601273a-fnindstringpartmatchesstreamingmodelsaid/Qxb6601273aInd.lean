import Derived.Test.Qxb6601273aIndD
namespace Go.Proofs.Qxb6601273a
open Go.RowKit
set_option linter.unusedVariables false

theorem indAns3 (bs : List UInt8) (p off : Nat) (acc : List UInt8) (os : List Op3) (o : Op3) : indAns bs (3, p, acc) off os o = ⟨p, [], os ++ [o], true, o.1, unterm⟩ := rfl
theorem indAns1 (bs : List UInt8) (p off : Nat) (acc : List UInt8) (os : List Op3) (o : Op3) : indAns bs (1, p, acc) off os o = ⟨p + 2, litTok off acc ++ [((⟨#[]⟩ : ByteArray), (p : Int), 7)], os ++ [o] ++ [((p : Int), 0, 0)], false, 0, ⟨#[]⟩⟩ := rfl
theorem indAns0 (bs : List UInt8) (p off : Nat) (acc : List UInt8) (os : List Op3) (o : Op3) : indAns bs (0, p, acc) off os o = quoAns bs p (litTok off acc) os o := rfl

theorem ind_start (w : World) (L base off : Nat) (v : Value) (text : ByteArray) (os : List Op3) (o : Op3) (bs : List UInt8) (A : Ans) (h : LexIs w L base v text off [] (os ++ [o])) (ho : off ≤ bs.length) (hA : indAns bs (indScan bs (bs.length - off + 1) off []) off os o = A) :
    IndRel w L base off v text os o bs A (bs.length - off + 1) (((w.alloc (.cells #[.pointer (some ⟨L, 0, none⟩)] 50)).alloc (.cells #[.int .i64 off] 3)).alloc (.cells #[.slice none 0 0] 22)) := by
  have b1 : Blk (w.alloc (.cells #[.pointer (some ⟨L, 0, none⟩)] 50)) w.heap.size 50 _ := Blk.new w 50 _
  have k1 := Keep.alloc [] w (.cells #[.pointer (some ⟨L, 0, none⟩)] 50)
  have s1 : (w.alloc (.cells #[.pointer (some ⟨L, 0, none⟩)] 50)).heap.size = w.heap.size + 1 := by simp
  generalize w.alloc (.cells #[.pointer (some ⟨L, 0, none⟩)] 50) = w1 at *
  have b2 : Blk (w1.alloc (.cells #[.int .i64 off] 3)) w1.heap.size 3 _ := Blk.new w1 3 _
  have k2 := Keep.alloc [] w1 (.cells #[.int .i64 off] 3)
  have s2 : (w1.alloc (.cells #[.int .i64 off] 3)).heap.size = w1.heap.size + 1 := by simp
  generalize w1.alloc (.cells #[.int .i64 off] 3) = w3 at *
  rw [s1] at b2 s2
  have b4 : Blk (w3.alloc (.cells #[.slice none 0 0] 22)) w3.heap.size 22 _ := Blk.new w3 22 _
  have k4 := Keep.alloc [] w3 (.cells #[.slice none 0 0] 22)
  generalize w3.alloc (.cells #[.slice none 0 0] 22) = w4 at *
  rw [s2] at b4
  have K : Keep [] w w4 := (k1.trans' k2).trans' k4
  exact ⟨off, [], _, h.keep0 K, ⟨k4.blk (k2.blk b1 (by simp)) (by simp), k4.blk b2 (by simp), b4⟩, World.ownsRow_nil _ _ _ _, K.fr0, ho, by simp, by omega, hA⟩

/-- What can be read behind the append, and behind the store into the text's box. -/
theorem ind_app {w wr X wn : World} {L base off p : Nat} {v tx : Value} {text : ByteArray} {os : List Op3} {acc : List UInt8}
    (hI : LexIs wr L base v text (p : Int) [] os) (hB : IndBox wr w.heap.size L off tx) (hx : wr.ownsRow w.heap.size 5 1 tx acc.length (byteCells acc)) (hX : Keep [] wr X) (hgrow : X.grownBy wn tx.ownBlock) (nv : Value) :
    wn.cell? ⟨w.heap.size + 2, 0, none⟩ = some tx ∧ wn.frozen? ⟨w.heap.size + 2, 0, none⟩ = false ∧ (wn.setCell ⟨w.heap.size + 2, 0, none⟩ nv).cell? ⟨L, 2, none⟩ = some (.int .i64 p) ∧ (wn.setCell ⟨w.heap.size + 2, 0, none⟩ nv).cell? ⟨w.heap.size, 0, none⟩ = some (.pointer (some ⟨L, 0, none⟩)) ∧ (wn.setCell ⟨w.heap.size + 2, 0, none⟩ nv).frozen? ⟨L, 2, none⟩ = false := by
  have kk := keep_app hX hgrow
  have h1 := hI.app hx kk
  have b1 := kk.blk hB.1 (owns_far hx hB.1 (by decide))
  have b3 := kk.blk hB.2.2 (owns_far hx hB.2.2 (by decide))
  have ks : Keep [w.heap.size + 2] wn (wn.setCell ⟨w.heap.size + 2, 0, none⟩ nv) := Keep.setCell _ _ _ (by simp)
  obtain ⟨tv, ov, hL, _, _⟩ := h1
  have hL' := ks.blk hL (by simpa using hL.ne b3 (by decide))
  have b1' := ks.blk b1 (by simp)
  exact ⟨b3.cell 0, b3.free 0, hL'.cell 2, b1'.cell 0, hL'.free 2⟩

/-- The cells that region 33 reads, behind the append and behind the store into the text's box. -/
theorem ind_app2 {w wr X wn : World} {L base off p g n sc p1 : Nat} {v tx vb vz : Value} {text : ByteArray} {os : List Op3} {acc bs : List UInt8} (hsw : Src w (.slice (some ⟨g, 0, none⟩) n sc) bs)
    (hI : LexIs wr L base v text (p : Int) [] os) (hB : IndBox wr w.heap.size L off tx) (hx : wr.ownsRow w.heap.size 5 1 tx acc.length (byteCells acc)) (hX : Keep [] wr X) (hgrow : X.grownBy wn tx.ownBlock) (nv : Value)
    (c0 : wr.cell? ⟨L, 0, none⟩ = some vb) (cg : wr.cell? ⟨g, p1, none⟩ = some vz) :
    (wn.cell? ⟨w.heap.size, 0, none⟩ = some (.pointer (some ⟨L, 0, none⟩)) ∧ wn.cell? ⟨L, 0, none⟩ = some vb ∧ wn.cell? ⟨L, 2, none⟩ = some (.int .i64 p) ∧ wn.cell? ⟨g, p1, none⟩ = some vz) ∧
    ((wn.setCell ⟨w.heap.size + 2, 0, none⟩ nv).cell? ⟨w.heap.size, 0, none⟩ = some (.pointer (some ⟨L, 0, none⟩)) ∧ (wn.setCell ⟨w.heap.size + 2, 0, none⟩ nv).cell? ⟨L, 0, none⟩ = some vb ∧ (wn.setCell ⟨w.heap.size + 2, 0, none⟩ nv).cell? ⟨L, 2, none⟩ = some (.int .i64 p) ∧ (wn.setCell ⟨w.heap.size + 2, 0, none⟩ nv).cell? ⟨g, p1, none⟩ = some vz) := by
  have kk := keep_app hX hgrow
  have hgw : g < w.heap.size := by
    rcases hsw with ⟨h1, _⟩ | ⟨g', cap, cs', hv, _, hb', _⟩
    · cases h1
    · simp at hv; rw [hv.1]; exact hb'.lt
  have ng : g ∉ tx.ownBlock.toList := owns_low hx hgw
  have b1 := kk.blk hB.1 (owns_far hx hB.1 (by decide))
  have b3 := kk.blk hB.2.2 (owns_far hx hB.2.2 (by decide))
  obtain ⟨tv, ov, hL, _, _⟩ := hI
  have nL := owns_far hx hL (by decide)
  have hL1 := kk.blk hL nL
  have k0 := kk.cell c0 nL
  have k3 := kk.cell cg ng
  have k2 : wn.cell? ⟨L, 2, none⟩ = some (.int .i64 p) := hL1.cell 2
  have kX : wn.cell? ⟨w.heap.size, 0, none⟩ = some (.pointer (some ⟨L, 0, none⟩)) := b1.cell 0
  have ks : Keep [w.heap.size + 2] wn (wn.setCell ⟨w.heap.size + 2, 0, none⟩ nv) := Keep.setCell _ _ _ (by simp)
  have n1 : L ∉ [w.heap.size + 2] := by simpa using hL1.ne b3 (by decide)
  exact ⟨⟨kX, k0, k2, k3⟩, ks.cell kX (by simp), ks.cell k0 n1, ks.cell k2 n1, ks.cell k3 (by simp; omega)⟩

set_option maxRecDepth 100000 in
set_option maxHeartbeats 40000000 in
theorem f37_any (L base off : Nat) (v : Value) (bs : List UInt8) (text : ByteArray) (os : List Op3) (o : Op3) (w : World) (h : LexIs w L base v text off [] (os ++ [o])) (hs : Src w v bs) (hb : base ≤ w.heap.size)
    (ho : off ≤ bs.length) (hn : bs.length ≤ 10000000) (hm : os.length ≤ 100000) :
    Calls Try.prog 37 #[.pointer (some ⟨L, 0, none⟩)] w (AnsPost w L base v text (indAns bs (indScan bs (bs.length - off + 1) off []) off os o)) := by
  generalize hA : indAns bs (indScan bs (bs.length - off + 1) off []) off os o = A
  have hst := ind_start w L base off v text os o bs A h ho hA
  have Hst := hidden hst
  clear hA hst
  have hLb := h.blk
  have hlL := h.lt
  obtain ⟨sa, sc, rfl⟩ := hs.form
  obtain ⟨tv0, ov0, hB0, _, _⟩ := h
  have c2 := hB0.cell 2
  simp only [List.getElem?_toArray, List.getElem?_cons_zero, List.getElem?_cons_succ] at c2
  clear hB0
  go_enter Try.func37, Try.ntmps37
  go_wp2_with fail
  clear c2
  go_loopg [] (bs.length - off + 1) (fun gk wr => IndRel w L base off (.slice sa bs.length sc) text os o bs A gk wr)
  case atStart => exact Hst.out
  case round =>
    clear Hst
    obtain ⟨p, acc, tx, hI, hB, hx, hF, hp, hac, hg, hsc⟩ := hrel
    obtain ⟨gk, rfl⟩ : ∃ g', gk = g' + 1 := ⟨gk - 1, by omega⟩
    have hsr : Src wr (.slice sa bs.length sc) bs := hF.src hs hLb
    obtain ⟨x0, l0, cx0, rfl⟩ := owns_slice hx
    obtain ⟨i0, hi, hz0, hz1, hz2⟩ := info_parts info5
    have hI0 := hI
    obtain ⟨tv, ov, hL, htv, hov⟩ := hI0
    have c0 := hL.cell 0
    have c2 := hL.cell 2
    simp only [List.getElem?_toArray, List.getElem?_cons_zero, List.getElem?_cons_succ] at c0 c2
    have hbw : base ≤ wr.heap.size := by have := hF.2.2.2.1; omega
    have Hsc := hidden hsc
    clear hsc
    have HB := hidden hB
    obtain ⟨cX, cS, cT, fT⟩ := hB.cells
    clear hB
    by_cases hend : bs.length ≤ p
    ·
      as_aux_lemma =>
      have hi1 : ¬ ((p : Int) < (bs.length : Int)) := by omega
      have hi2 : (bs.length : Int) ≤ (p : Int) := by omega
      go_wp2_with fail
      go_quiet (fail)
      go_wp2_with fail
      refine (f46_any L _ tv ov text p os o base _ (by exact hL) (by exact hov) (by omega)).mono ?_
      rintro e w1 ⟨E, rfl, hE, hEl, hKE⟩
      have fin : AnsPost w L base (.slice sa bs.length sc) text A (.returned (.pointer (some ⟨E, 0, none⟩))) w1 := by
        have k1 : Keep [] wr w1 := (Keep.drewN _ _ _).trans' hKE
        rw [← Hsc.out, ind_end hend, indAns3]
        exact ⟨hF.trans k1.fr0, hI.keep0 k1, _, rfl, .inr ⟨rfl, E, rfl, hE⟩⟩
      have Hfin := hidden fin
      clear fin hE hEl hKE
      go_wp2_with fail
      go_ret
      exact Hfin.out
    · have hlt : p < bs.length := by omega
      obtain ⟨g, rfl, hcs⟩ := hsr.cells hlt
      have cp := hcs p hlt
      have hi1 : (p : Int) < (bs.length : Int) := by omega
      have hi0 : (0 : Int) ≤ (p : Int) := by omega
      have hzr := byteAt_range bs p
      go_wp2_with fail
      go_quiet (fail)
      go_wp2_with fail
      go_quiet (fail)
      go_upto_region 9 with fail
      go_cut [45] (fun b wx => b = .bool (indStop bs p) ∧ ∃ m, wx = wr.drewN m)
      case first =>
        as_aux_lemma =>
        by_cases h1 : byteAt bs p = 39
        · have b1 : (byteAt bs p == 39) = true := beq_iff_eq.2 h1
          have hv : indStop bs p = (byteAt bs (p + 1) == 39) := by unfold indStop; simp [h1]; rw [Bool.eq_iff_iff]; simp
          have HV : Hid _ := hv
          clear hv h1
          go_wp2_with fail
          refine (peek1 L _ bs p _ (by exact c2) (by exact c0) (by exact hsr.drewN _) (by omega) (by omega)).mono ?_
          rintro e w' ⟨rfl, m, rfl⟩
          go_wp2_with fail
          go_meet
          case rel => exact ⟨by rw [HV.out], _, rfl⟩
        · have b1 : (byteAt bs p == 39) = false := beq_eq_false_iff_ne.2 h1
          have hv : indStop bs p = false := by unfold indStop; simp [h1]
          have HV : Hid _ := hv
          clear hv h1
          go_wp2_with fail
          go_meet
          case rel => exact ⟨by rw [HV.out], _, rfl⟩
      case rest =>
        obtain ⟨rfl, m, rfl⟩ := hcut
        have hI1 := hI.drewN m
        have hB1 := HB.out.drewN m
        have hx1 : (wr.drewN m).ownsRow w.heap.size 5 1 (.slice x0 l0 cx0) acc.length (byteCells acc) := (Keep.drewN [] _ _).owns hx (by simp)
        have hF1 : Fr L base w (wr.drewN m) := hF.trans (Keep.drewN [] _ _).fr0
        have hsr1 := hsr.drewN m
        have hcs1 : ∀ k, k < bs.length → (wr.drewN m).cell? ⟨g, k, none⟩ = some (.int .u8 (byteAt bs k)) := hcs
        have hbw1 : base ≤ (wr.drewN m).heap.size := hbw
        clear hI HB hx hF hsr hcs hbw c0 c2 cp tv ov hL htv hov cX cS cT fT
        generalize wr.drewN m = w1 at *
        obtain ⟨c0, c2, cf⟩ := hI1.cells
        obtain ⟨cX, cS, cT, fT⟩ := hB1.cells
        have cp := hcs1 p hlt
        cases hst : indStop bs p
        · go_upto_region 27 with fail
          go_cut [155] (fun b wx => b = .bool (indInt bs p) ∧ ∃ m, wx = w1.drewN m)
          case first =>
            as_aux_lemma =>
            by_cases h1 : byteAt bs p = 36
            · have b1 : (byteAt bs p == 36) = true := beq_iff_eq.2 h1
              have hv : indInt bs p = (byteAt bs (p + 1) == 123) := by unfold indInt; simp [h1]; rw [Bool.eq_iff_iff]; simp
              have HV : Hid _ := hv
              clear hv h1
              go_wp2_with fail
              refine (peek1 L _ bs p _ (by exact c2) (by exact c0) (by exact hsr1) (by omega) (by omega)).mono ?_
              rintro e w' ⟨rfl, m, rfl⟩
              go_wp2_with fail
              go_meet
              case rel => exact ⟨by rw [HV.out], _, rfl⟩
            · have b1 : (byteAt bs p == 36) = false := beq_eq_false_iff_ne.2 h1
              have hv : indInt bs p = false := by unfold indInt; simp [h1]
              have HV : Hid _ := hv
              clear hv h1
              go_wp2_with fail
              go_meet
              case rel => exact ⟨by rw [HV.out], 0, rfl⟩
          case rest =>
            obtain ⟨rfl, m', rfl⟩ := hcut
            have hI2 := hI1.drewN m'
            have hB2 := hB1.drewN m'
            have hx2 : (w1.drewN m').ownsRow w.heap.size 5 1 (.slice x0 l0 cx0) acc.length (byteCells acc) := (Keep.drewN [] _ _).owns hx1 (by simp)
            have hF2 : Fr L base w (w1.drewN m') := hF1.trans (Keep.drewN [] _ _).fr0
            have hsr2 := hsr1.drewN m'
            have hcs2 : ∀ k, k < bs.length → (w1.drewN m').cell? ⟨g, k, none⟩ = some (.int .u8 (byteAt bs k)) := hcs1
            have hbw2 : base ≤ (w1.drewN m').heap.size := hbw1
            clear hI1 hB1 hx1 hF1 hsr1 hcs1 hbw1 c0 c2 cf cp cX cS cT fT
            generalize w1.drewN m' = w2 at *
            obtain ⟨c0, c2, cf⟩ := hI2.cells
            obtain ⟨cX, cS, cT, fT⟩ := hB2.cells
            have cp := hcs2 p hlt
            cases hin : indInt bs p
            · go_upto_region 32 with fail
              go_cut [174] (fun b wx => b = .bool (indDol bs p) ∧ ∃ m, wx = w2.drewN m)
              case first =>
                as_aux_lemma =>
                by_cases h1 : byteAt bs p = 36
                · have b1 : (byteAt bs p == 36) = true := beq_iff_eq.2 h1
                  by_cases h2 : byteAt bs (p + 1) = 39
                  · have b2 : (byteAt bs (p + 1) != 39) = false := by simp [h2]
                    have hv : indDol bs p = false := by unfold indDol; simp [h2]
                    have HV : Hid _ := hv
                    clear hv h1 h2
                    go_quiet ((go_at_call 44; exact Calls.quiet_of (peek1 L _ bs p _ (by exact c2) (by exact c0) (by exact hsr2.drewN _) (by omega) (by omega))))
                    go_wp2_with fail
                    go_meet
                    case rel => exact ⟨by rw [HV.out], _, rfl⟩
                  · have b2 : (byteAt bs (p + 1) != 39) = true := by simp [h2]
                    have hv : indDol bs p = decide ((p : Int) + 1 < (bs.length : Int)) := by unfold indDol; simp [h1, h2]; omega
                    have HV : Hid _ := hv
                    clear hv h1 h2
                    go_quiet ((go_at_call 44; exact Calls.quiet_of (peek1 L _ bs p _ (by exact c2) (by exact c0) (by exact hsr2.drewN _) (by omega) (by omega))))
                    go_wp2_with fail
                    go_meet
                    case rel => exact ⟨by rw [HV.out], _, rfl⟩
                · have b1 : (byteAt bs p == 36) = false := beq_eq_false_iff_ne.2 h1
                  have hv : indDol bs p = false := by unfold indDol; simp [h1]
                  have HV : Hid _ := hv
                  clear hv h1
                  go_quiet (fail)
                  go_wp2_with fail
                  go_meet
                  case rel => exact ⟨by rw [HV.out], _, rfl⟩
              case rest =>
                obtain ⟨rfl, m'', rfl⟩ := hcut
                have hI3 := hI2.drewN m''
                have hB3 := hB2.drewN m''
                have hx3 : (w2.drewN m'').ownsRow w.heap.size 5 1 (.slice x0 l0 cx0) acc.length (byteCells acc) := (Keep.drewN [] _ _).owns hx2 (by simp)
                have hF3 : Fr L base w (w2.drewN m'') := hF2.trans (Keep.drewN [] _ _).fr0
                have hsr3 := hsr2.drewN m''
                have hcs3 : ∀ k, k < bs.length → (w2.drewN m'').cell? ⟨g, k, none⟩ = some (.int .u8 (byteAt bs k)) := hcs2
                have hbw3 : base ≤ (w2.drewN m'').heap.size := hbw2
                clear hI2 hB2 hx2 hF2 hsr2 hcs2 hbw2 c0 c2 cf cp cX cS cT fT
                generalize w2.drewN m'' = w3 at *
                obtain ⟨c0, c2, cf⟩ := hI3.cells
                obtain ⟨cX, cS, cT, fT⟩ := hB3.cells
                have cp := hcs3 p hlt
                cases hdo : indDol bs p
                ·
                  as_aux_lemma =>
                  have hsc' := ind_oth (f := gk) (acc := acc) hlt hst hin hdo
                  have hscA : indAns bs (indScan bs gk (p + 1) (acc ++ [atU bs p])) off os o = A := by rw [← hsc']; exact Hsc.out
                  have HS := hidden hscA
                  clear hsc' hscA
                  go_wp2_with (at_builtin; refine wpList_append_lies _ rfl (.tmp 34) (.tmp 36) 22 rfl w.heap.size 5 i0 (.int .u8 0) 1 1 Try.underlying22 hi hz0 hz1 hz2 rfl (by decide) (.slice x0 l0 cx0) acc.length (byteCells acc) rfl (by exact (Keep.alloc [] _ _).owns hx3 (by simp)) ⟨w3.heap.size, 0, none⟩ 1 1 (byteCells [atU bs p]) rfl rfl ?c1 ?c2 (by decide) ?c3 ?c4 ?c5 (w3.heap.size + 1) ?c6 ?_)
                  case c1 => exact World.news_of_block (heap_alloc_new w3 _)
                  case c2 => intro u hu; simp [byteCells] at hu; subst hu; rfl
                  case c3 => unfold maxLen; omega
                  case c4 => omega
                  case c5 => simp; have := hF3.2.2.2.1; omega
                  case c6 => simp
                  intro gg cap wn hown hgrow hat hlt1
                  have R := ind_app hI3 hB3 hx3 (Keep.alloc _ _ _) hgrow (.slice (some ⟨gg, 0, none⟩) (acc.length + 1) cap)
                  have r := indRel_step (off := off) (q := (p : Int) + 1) (p' := p + 1) (gk := gk) (news := [atU bs p]) hI3 hB3 hx3 hF3 (Keep.alloc _ _ _) hgrow hown (by omega) (by omega) (by simp; omega) (by omega) HS.out
                  have HR := hidden r
                  obtain ⟨kT, kf, k2, kX, kf2⟩ := R
                  clear r hgrow hown hat hI3 hB3 hx3 hsr3 hs hcs3 hF3 c0 c2 cf cp cX cS cT fT
                  go_upto_region 8 with fail
                  clear kT kf
                  generalize (wn.setCell ⟨w.heap.size + 2, 0, none⟩ (.slice (some ⟨gg, 0, none⟩) (acc.length + 1) cap)) = wy at *
                  go_wp2_with fail
                  go_roundg gk
                  case measure => omega
                  case rel => exact HR.out
                ·
                  as_aux_lemma =>
                  have hdl : p + 1 < bs.length := by
                    unfold indDol at hdo; simp at hdo; exact hdo.2
                  have cp1 := hcs3 (p + 1) hdl
                  have hj1 : (p : Int) + 1 < (bs.length : Int) := by omega
                  have hsc' := ind_dol (f := gk) (acc := acc) hlt hst hin hdo
                  have hscA : indAns bs (indScan bs gk (p + 2) (acc ++ [atU bs p, atU bs (p + 1)])) off os o = A := by rw [← hsc']; exact Hsc.out
                  have HS := hidden hscA
                  clear hsc' hscA
                  have hwp : IntKind.i64.wrap ((p : Int) + 1) = (p : Int) + 1 := by rw [IntKind.wrap_i64]; omega
                  have htn : ((p : Int) + 1).toNat = p + 1 := by omega
                  have hj0 : (0 : Int) ≤ (p : Int) + 1 := by omega
                  have lL := hI3.lt
                  have lX := hB3.1.lt
                  have lT := hB3.2.2.lt
                  have lg : g < w3.heap.size := World.block_lt_of_cell? w3 ⟨g, p, none⟩ cp
                  have hszF := hF3.2.2.2.1
                  obtain ⟨q1, hq1⟩ : ∃ q1 : Int, (p : Int) + 1 = q1 := ⟨_, rfl⟩
                  obtain ⟨p1, hp1⟩ : ∃ p1 : Nat, p + 1 = p1 := ⟨_, rfl⟩
                  obtain ⟨zb, hzb⟩ : ∃ zb : Int, byteAt bs (p + 1) = zb := ⟨_, rfl⟩
                  have hwq : IntKind.i64.wrap ((p : Int) + 1) = q1 := by rw [hwp]; exact hq1
                  have htq : q1.toNat = p1 := by rw [← hq1, ← hp1]; exact htn
                  have hjq0 : (0 : Int) ≤ q1 := by rw [← hq1]; exact hj0
                  have hjq1 : q1 < (bs.length : Int) := by rw [← hq1]; exact hj1
                  have cq1 : w3.cell? ⟨g, p1, none⟩ = some (.int .u8 zb) := by rw [← hp1, ← hzb]; exact cp1
                  have Hq1 := hidden hq1
                  have Hp1 := hidden hp1
                  have Hzb := hidden hzb
                  clear cp1 hq1 hp1 hzb hwp htn hj0 hj1
                  have hsw := hs
                  have kA : Keep [] w3 ((w3.alloc (.cells #[.int .u8 (byteAt bs p), .int .u8 zb] 5)).drew) := (Keep.alloc _ _ _).trans' (Keep.drew _ _)
                  have HkA := hidden kA
                  clear kA
                  go_upto_region 33 with fail
                  refine wp_region_held_drew (S := (fun w' : World => w'.cell? ⟨w.heap.size, 0, none⟩ = some (.pointer (some ⟨L, 0, none⟩)) ∧ w'.cell? ⟨L, 0, none⟩ = some (.slice (some ⟨g, 0, none⟩) bs.length sc) ∧ w'.cell? ⟨L, 2, none⟩ = some (.int .i64 p) ∧ w'.cell? ⟨g, p1, none⟩ = some (.int .u8 zb))) (by kernel_rfl) ⟨cX, c0, c2, cq1⟩ (fun hHeld => ?_)
                  refine wpAnyH_take (i := 1) (oi := { dst := some 196, op := Op.move (Operand.tmp 6), type := 5, pos := "lexer.go:575", after := #[], guard := none }) (v := (.int .u8 (byteAt bs p))) rfl (by kernel_rfl) (by kernel_rfl) (by kernel_rfl) (fun _ _ _ h => h) (Or.inl ⟨by rfl, ?_⟩) hHeld ?_
                  · (intro w' hSw; (try dsimp only at hSw); go_simp)
                  simp only [Act.put, List.setIfInBounds_toArray, List.set_cons_zero, List.set_cons_succ]
                  refine wpAnyH_take (i := 2) (oi := { dst := some 197, op := Op.load 50 (Operand.tmp 1), type := 50, pos := "lexer.go:575", after := #[], guard := none }) (v := (.pointer (some ⟨L, 0, none⟩))) rfl (by kernel_rfl) (by kernel_rfl) (by kernel_rfl) (fun _ _ _ h => h) (Or.inl ⟨by rfl, ?_⟩) hHeld ?_
                  · (intro w' hSw; (try dsimp only at hSw); go_simp)
                  simp only [Act.put, List.setIfInBounds_toArray, List.set_cons_zero, List.set_cons_succ]
                  refine wpAnyH_take (i := 3) (oi := { dst := some 198, op := Op.nilCheck (Operand.tmp 197), type := 0, pos := "lexer.go:575", after := #[{ on := 2, ground := Ground.data }], guard := none }) (v := (.pointer (some ⟨L, 0, none⟩))) rfl (by kernel_rfl) (by kernel_rfl) (by kernel_rfl) (fun _ _ _ h => h) (Or.inl ⟨by rfl, ?_⟩) hHeld ?_
                  · (intro w' hSw; (try dsimp only at hSw); go_simp)
                  simp only [Act.put, List.setIfInBounds_toArray, List.set_cons_zero, List.set_cons_succ]
                  refine wpAnyH_take (i := 4) (oi := { dst := some 199, op := Op.fieldAddr 66 (Operand.tmp 198) 0, type := 0, pos := "lexer.go:575", after := #[{ on := 3, ground := Ground.data }], guard := none }) (v := (.pointer (some ⟨L, 0, none⟩))) rfl (by kernel_rfl) (by kernel_rfl) (by kernel_rfl) (fun _ _ _ h => h) (Or.inl ⟨by rfl, ?_⟩) hHeld ?_
                  · (intro w' hSw; (try dsimp only at hSw); go_simp)
                  simp only [Act.put, List.setIfInBounds_toArray, List.set_cons_zero, List.set_cons_succ]
                  refine wpAnyH_take (i := 5) (oi := { dst := some 200, op := Op.load 22 (Operand.tmp 199), type := 22, pos := "lexer.go:575", after := #[{ on := 4, ground := Ground.data }], guard := none }) (v := (.slice (some ⟨g, 0, none⟩) bs.length sc)) rfl (by kernel_rfl) (by kernel_rfl) (by kernel_rfl) (fun _ _ _ h => h) (Or.inl ⟨by rfl, ?_⟩) hHeld ?_
                  · (intro w' hSw; (try dsimp only at hSw); go_simp)
                  simp only [Act.put, List.setIfInBounds_toArray, List.set_cons_zero, List.set_cons_succ]
                  refine wpAnyH_take (i := 6) (oi := { dst := some 201, op := Op.load 50 (Operand.tmp 1), type := 50, pos := "lexer.go:575", after := #[], guard := none }) (v := (.pointer (some ⟨L, 0, none⟩))) rfl (by kernel_rfl) (by kernel_rfl) (by kernel_rfl) (fun _ _ _ h => h) (Or.inl ⟨by rfl, ?_⟩) hHeld ?_
                  · (intro w' hSw; (try dsimp only at hSw); go_simp)
                  simp only [Act.put, List.setIfInBounds_toArray, List.set_cons_zero, List.set_cons_succ]
                  refine wpAnyH_take (i := 7) (oi := { dst := some 202, op := Op.nilCheck (Operand.tmp 201), type := 0, pos := "lexer.go:575", after := #[{ on := 6, ground := Ground.data }], guard := none }) (v := (.pointer (some ⟨L, 0, none⟩))) rfl (by kernel_rfl) (by kernel_rfl) (by kernel_rfl) (fun _ _ _ h => h) (Or.inl ⟨by rfl, ?_⟩) hHeld ?_
                  · (intro w' hSw; (try dsimp only at hSw); go_simp)
                  simp only [Act.put, List.setIfInBounds_toArray, List.set_cons_zero, List.set_cons_succ]
                  refine wpAnyH_take (i := 8) (oi := { dst := some 203, op := Op.fieldAddr 66 (Operand.tmp 202) 2, type := 0, pos := "lexer.go:575", after := #[{ on := 7, ground := Ground.data }], guard := none }) (v := (.pointer (some ⟨L, 2, none⟩))) rfl (by kernel_rfl) (by kernel_rfl) (by kernel_rfl) (fun _ _ _ h => h) (Or.inl ⟨by rfl, ?_⟩) hHeld ?_
                  · (intro w' hSw; (try dsimp only at hSw); go_simp)
                  simp only [Act.put, List.setIfInBounds_toArray, List.set_cons_zero, List.set_cons_succ]
                  refine wpAnyH_take (i := 9) (oi := { dst := some 204, op := Op.load 3 (Operand.tmp 203), type := 3, pos := "lexer.go:575", after := #[{ on := 8, ground := Ground.data }], guard := none }) (v := (.int .i64 p)) rfl (by kernel_rfl) (by kernel_rfl) (by kernel_rfl) (fun _ _ _ h => h) (Or.inl ⟨by rfl, ?_⟩) hHeld ?_
                  · (intro w' hSw; (try dsimp only at hSw); go_simp)
                  simp only [Act.put, List.setIfInBounds_toArray, List.set_cons_zero, List.set_cons_succ]
                  refine wpAnyH_take (i := 10) (oi := { dst := some 205, op := Op.binOp BinOp.add 3 (Operand.tmp 204) (Operand.const (Value.int IntKind.i64 1)) 3, type := 3, pos := "lexer.go:575", after := #[{ on := 9, ground := Ground.data }], guard := none }) (v := (.int .i64 q1)) rfl (by kernel_rfl) (by kernel_rfl) (by kernel_rfl) (fun _ _ _ h => h) (Or.inl ⟨by rfl, ?_⟩) hHeld ?_
                  · (intro w' hSw; (try dsimp only at hSw); go_simp)
                  simp only [Act.put, List.setIfInBounds_toArray, List.set_cons_zero, List.set_cons_succ]
                  refine wpAnyH_take (i := 11) (oi := { dst := some 206, op := Op.indexAddr 22 (Operand.tmp 200) (Operand.tmp 205), type := 0, pos := "lexer.go:575", after := #[{ on := 5, ground := Ground.data }, { on := 10, ground := Ground.data }], guard := none }) (v := (.pointer (some ⟨g, p1, none⟩))) rfl (by kernel_rfl) (by kernel_rfl) (by kernel_rfl) (fun _ _ _ h => h) (Or.inl ⟨by rfl, ?_⟩) hHeld ?_
                  · (intro w' hSw; (try dsimp only at hSw); go_simp)
                  simp only [Act.put, List.setIfInBounds_toArray, List.set_cons_zero, List.set_cons_succ]
                  refine wpAnyH_take (i := 12) (oi := { dst := some 207, op := Op.load 5 (Operand.tmp 206), type := 5, pos := "lexer.go:575", after := #[{ on := 11, ground := Ground.data }], guard := none }) (v := (.int .u8 zb)) rfl (by kernel_rfl) (by kernel_rfl) (by kernel_rfl) (fun _ _ _ h => h) (Or.inl ⟨by rfl, ?_⟩) hHeld ?_
                  · (intro w' hSw; (try dsimp only at hSw); go_simp)
                  simp only [Act.put, List.setIfInBounds_toArray, List.set_cons_zero, List.set_cons_succ]
                  refine wpAnyH_ready (rs := [0, 13]) (by kernel_rfl) (by simp) ?_
                  refine AllReadyH.cons (o := { dst := some 195, op := Op.load 22 (Operand.tmp 4), type := 22, pos := "lexer.go:575", after := #[], guard := none }) rfl (fun K hK => ?_) (AllReadyH.cons (o := { dst := some 208, op := Op.buildSlice 22 2 #[(0, Operand.tmp 196), (1, Operand.tmp 207)], type := 22, pos := "lexer.go:575", after := #[{ on := 1, ground := Ground.data }, { on := 12, ground := Ground.data }], guard := none }) rfl (fun K hK => ?_) AllReadyH.nil)
                  · go_simp
                    refine hK.out _ _ hHeld (fun hHeld => ?_)
                    clear hK K
                    try simp only [Act.put, List.setIfInBounds_toArray, List.set_cons_zero, List.set_cons_succ]
                    refine wpAnyH_ready (rs := [13]) (by kernel_rfl) (by simp) ?_
                    refine AllReadyH.cons (o := { dst := some 208, op := Op.buildSlice 22 2 #[(0, Operand.tmp 196), (1, Operand.tmp 207)], type := 22, pos := "lexer.go:575", after := #[{ on := 1, ground := Ground.data }, { on := 12, ground := Ground.data }], guard := none }) rfl (fun K hK => ?_) AllReadyH.nil
                    go_simp
                    refine hK.out _ _ ⟨HkA.out.cell cX (by simp), HkA.out.cell c0 (by simp), HkA.out.cell c2 (by simp), HkA.out.cell cq1 (by simp)⟩ (fun hHeld => ?_)
                    clear hK K
                    try simp only [Act.put, List.setIfInBounds_toArray, List.set_cons_zero, List.set_cons_succ]
                    refine wpAnyH_ready (rs := [14]) (by kernel_rfl) (by simp) ?_
                    refine AllReadyH.cons (o := { dst := some 209, op := Op.call { callee := Callee.builtin Builtin.append, args := #[Operand.tmp 195, Operand.tmp 208], argTypes := #[22, 22] }, type := 22, pos := "lexer.go:575", after := #[{ on := 0, ground := Ground.data }, { on := 13, ground := Ground.data }], guard := none }) rfl (fun K hK => ?_) AllReadyH.nil
                    refine step_append_lies _ (by rfl) (.tmp 195) (.tmp 208) 22 (by rfl) w.heap.size 5 i0 (.int .u8 0) 1 1 Try.underlying22 hi hz0 hz1 hz2 (by rfl) (by decide) (.slice x0 l0 cx0) acc.length (byteCells acc) (by rfl) (by exact HkA.out.owns hx3 (by simp)) ⟨w3.heap.size, 0, none⟩ 2 2 [.int .u8 (byteAt bs p), .int .u8 zb] (by rfl) (by rfl) (by exact World.news_of_block (heap_alloc_new w3 _)) (by intro u hu; simp at hu; rcases hu with rfl | rfl <;> rfl) (by decide) (by unfold maxLen; omega) (by omega) (by simp; omega) (w3.heap.size + 1) (by simp) ?_
                    intro gg cap wn hown hgrow hat hlt2
                    have R := ind_app hI3 hB3 hx3 HkA.out hgrow (.slice (some ⟨gg, 0, none⟩) (acc.length + 2) cap)
                    have R2 := ind_app2 hsw hI3 hB3 hx3 HkA.out hgrow (.slice (some ⟨gg, 0, none⟩) (acc.length + 2) cap) c0 cq1
                    refine hK.out _ _ R2.1 (fun hHeld => ?_)
                    clear hK K
                    try simp only [Act.put, List.setIfInBounds_toArray, List.set_cons_zero, List.set_cons_succ]
                    refine wpAnyH_ready (rs := [15]) (by kernel_rfl) (by simp) ?_
                    refine AllReadyH.cons (o := { dst := none, op := Op.store 22 (Operand.tmp 4) (Operand.tmp 209), type := 0, pos := "lexer.go:575", after := #[{ on := 14, ground := Ground.data }, { on := 14, ground := Ground.chain }, { on := 0, ground := Ground.phase }, { on := 1, ground := Ground.phase }, { on := 2, ground := Ground.phase }, { on := 3, ground := Ground.phase }, { on := 4, ground := Ground.phase }, { on := 5, ground := Ground.phase }, { on := 6, ground := Ground.phase }, { on := 7, ground := Ground.phase }, { on := 8, ground := Ground.phase }, { on := 9, ground := Ground.phase }, { on := 10, ground := Ground.phase }, { on := 11, ground := Ground.phase }, { on := 12, ground := Ground.phase }, { on := 13, ground := Ground.phase }, { on := 14, ground := Ground.phase }], guard := none }) rfl (fun K hK => ?_) AllReadyH.nil
                    have kT := R.1
                    have kf := R.2.1
                    go_simp
                    refine hK.out _ _ R2.2 (fun hHeld => ?_)
                    clear hK K hHeld kT kf
                    try simp only [Act.put, List.setIfInBounds_toArray, List.set_cons_zero, List.set_cons_succ]
                    refine wpAnyH_done (by kernel_rfl) ?_ _
                    have hown' : wn.ownsRow w.heap.size 5 1 (.slice (some ⟨gg, 0, none⟩) (acc.length + 2) cap) (acc.length + [atU bs p, atU bs (p + 1)].length) (byteCells acc ++ byteCells [atU bs p, atU bs (p + 1)]) := by
                      have e : byteCells [atU bs p, atU bs (p + 1)] = [.int .u8 (byteAt bs p), .int .u8 zb] := by rw [← Hzb.out]; rfl
                      rw [e]; exact hown
                    have r := indRel_step (off := off) (q := (p : Int) + 2) (p' := p + 2) (gk := gk) (news := [atU bs p, atU bs (p + 1)]) hI3 hB3 hx3 hF3 HkA.out hgrow hown' (by omega) (by omega) (by simp; omega) (by omega) HS.out
                    have HR := hidden r
                    obtain ⟨_, _, k2, kX, kf2⟩ := R
                    clear r R2 hgrow hown hown' hat hI3 hB3 hx3 hsr3 hs hcs3 hF3 c0 c2 cf cp cq1 cX cS cT fT hwq htq HkA
                    generalize (wn.setCell ⟨w.heap.size + 2, 0, none⟩ (.slice (some ⟨gg, 0, none⟩) (acc.length + 2) cap)) = wy at *
                    go_wp2_with fail
                    go_roundg gk
                    case measure => omega
                    case rel => exact HR.out
                  · go_simp
                    refine hK.out _ _ ⟨HkA.out.cell cX (by simp), HkA.out.cell c0 (by simp), HkA.out.cell c2 (by simp), HkA.out.cell cq1 (by simp)⟩ (fun hHeld => ?_)
                    clear hK K
                    try simp only [Act.put, List.setIfInBounds_toArray, List.set_cons_zero, List.set_cons_succ]
                    refine wpAnyH_ready (rs := [0]) (by kernel_rfl) (by simp) ?_
                    refine AllReadyH.cons (o := { dst := some 195, op := Op.load 22 (Operand.tmp 4), type := 22, pos := "lexer.go:575", after := #[], guard := none }) rfl (fun K hK => ?_) AllReadyH.nil
                    go_simp
                    refine hK.out _ _ hHeld (fun hHeld => ?_)
                    clear hK K
                    try simp only [Act.put, List.setIfInBounds_toArray, List.set_cons_zero, List.set_cons_succ]
                    refine wpAnyH_ready (rs := [14]) (by kernel_rfl) (by simp) ?_
                    refine AllReadyH.cons (o := { dst := some 209, op := Op.call { callee := Callee.builtin Builtin.append, args := #[Operand.tmp 195, Operand.tmp 208], argTypes := #[22, 22] }, type := 22, pos := "lexer.go:575", after := #[{ on := 0, ground := Ground.data }, { on := 13, ground := Ground.data }], guard := none }) rfl (fun K hK => ?_) AllReadyH.nil
                    refine step_append_lies _ (by rfl) (.tmp 195) (.tmp 208) 22 (by rfl) w.heap.size 5 i0 (.int .u8 0) 1 1 Try.underlying22 hi hz0 hz1 hz2 (by rfl) (by decide) (.slice x0 l0 cx0) acc.length (byteCells acc) (by rfl) (by exact HkA.out.owns hx3 (by simp)) ⟨w3.heap.size, 0, none⟩ 2 2 [.int .u8 (byteAt bs p), .int .u8 zb] (by rfl) (by rfl) (by exact World.news_of_block (heap_alloc_new w3 _)) (by intro u hu; simp at hu; rcases hu with rfl | rfl <;> rfl) (by decide) (by unfold maxLen; omega) (by omega) (by simp; omega) (w3.heap.size + 1) (by simp) ?_
                    intro gg cap wn hown hgrow hat hlt2
                    have R := ind_app hI3 hB3 hx3 HkA.out hgrow (.slice (some ⟨gg, 0, none⟩) (acc.length + 2) cap)
                    have R2 := ind_app2 hsw hI3 hB3 hx3 HkA.out hgrow (.slice (some ⟨gg, 0, none⟩) (acc.length + 2) cap) c0 cq1
                    refine hK.out _ _ R2.1 (fun hHeld => ?_)
                    clear hK K
                    try simp only [Act.put, List.setIfInBounds_toArray, List.set_cons_zero, List.set_cons_succ]
                    refine wpAnyH_ready (rs := [15]) (by kernel_rfl) (by simp) ?_
                    refine AllReadyH.cons (o := { dst := none, op := Op.store 22 (Operand.tmp 4) (Operand.tmp 209), type := 0, pos := "lexer.go:575", after := #[{ on := 14, ground := Ground.data }, { on := 14, ground := Ground.chain }, { on := 0, ground := Ground.phase }, { on := 1, ground := Ground.phase }, { on := 2, ground := Ground.phase }, { on := 3, ground := Ground.phase }, { on := 4, ground := Ground.phase }, { on := 5, ground := Ground.phase }, { on := 6, ground := Ground.phase }, { on := 7, ground := Ground.phase }, { on := 8, ground := Ground.phase }, { on := 9, ground := Ground.phase }, { on := 10, ground := Ground.phase }, { on := 11, ground := Ground.phase }, { on := 12, ground := Ground.phase }, { on := 13, ground := Ground.phase }, { on := 14, ground := Ground.phase }], guard := none }) rfl (fun K hK => ?_) AllReadyH.nil
                    have kT := R.1
                    have kf := R.2.1
                    go_simp
                    refine hK.out _ _ R2.2 (fun hHeld => ?_)
                    clear hK K hHeld kT kf
                    try simp only [Act.put, List.setIfInBounds_toArray, List.set_cons_zero, List.set_cons_succ]
                    refine wpAnyH_done (by kernel_rfl) ?_ _
                    have hown' : wn.ownsRow w.heap.size 5 1 (.slice (some ⟨gg, 0, none⟩) (acc.length + 2) cap) (acc.length + [atU bs p, atU bs (p + 1)].length) (byteCells acc ++ byteCells [atU bs p, atU bs (p + 1)]) := by
                      have e : byteCells [atU bs p, atU bs (p + 1)] = [.int .u8 (byteAt bs p), .int .u8 zb] := by rw [← Hzb.out]; rfl
                      rw [e]; exact hown
                    have r := indRel_step (off := off) (q := (p : Int) + 2) (p' := p + 2) (gk := gk) (news := [atU bs p, atU bs (p + 1)]) hI3 hB3 hx3 hF3 HkA.out hgrow hown' (by omega) (by omega) (by simp; omega) (by omega) HS.out
                    have HR := hidden r
                    obtain ⟨_, _, k2, kX, kf2⟩ := R
                    clear r R2 hgrow hown hown' hat hI3 hB3 hx3 hsr3 hs hcs3 hF3 c0 c2 cf cp cq1 cX cS cT fT hwq htq HkA
                    generalize (wn.setCell ⟨w.heap.size + 2, 0, none⟩ (.slice (some ⟨gg, 0, none⟩) (acc.length + 2) cap)) = wy at *
                    go_wp2_with fail
                    go_roundg gk
                    case measure => omega
                    case rel => exact HR.out
            ·
              as_aux_lemma =>
              have hres : A = ⟨p + 2, litTok off acc ++ [((⟨#[]⟩ : ByteArray), (p : Int), 7)], os ++ [o] ++ [((p : Int), 0, 0)], false, 0, ⟨#[]⟩⟩ := by
                rw [← Hsc.out, ind_int hlt hst hin, indAns1]
              have HRes := hidden hres
              clear hres Hsc
              have hll := litTok_length off acc
              go_wp2_with fail
              refine (f49_any w.heap.size L base off p _ _ text acc (os ++ [o]) w.heap.size _ hI2 hB2 hx2 hbw2 (by omega) (by omega)).mono ?_
              rintro e wc ⟨rfl, hIc, hFc⟩
              have hbc : base ≤ wc.heap.size := by have := hFc.2.2.2.1; omega
              have hBc := hB2.fr hFc hI2.blk
              have hFw := hF2.trans hFc
              clear c0 c2 cf cp cX cS cT fT hI2 hB2 hx2 hF2 hsr2 hcs2 hbw2 hFc
              obtain ⟨cX, cS, cT, fT⟩ := hBc.cells
              go_wp2_with fail
              refine (f47_any L base p _ text _ (os ++ [o]) _ hIc hbc (by omega) (by simp; omega) (by omega)).mono ?_
              rintro e wz ⟨rfl, hIn, hFn⟩
              have hBn := hBc.fr hFn hIc.blk
              clear cX cS cT fT
              obtain ⟨cX, cS, cT, fT⟩ := hBn.cells
              obtain ⟨c0, c2, cf⟩ := hIn.cells
              have hQ := hIn.setOff ((p : Int) + 2)
              have fin : AnsPost w L base (.slice (some ⟨g, 0, none⟩) bs.length sc) text A (.returned (.pointer none)) (wz.setCell ⟨L, 2, none⟩ (.int .i64 ((p : Int) + 2))) := by
                rw [HRes.out]
                exact ⟨(hFw.trans hFn).trans hQ.2, hQ.1, _, rfl, .inl ⟨rfl, rfl, rfl, rfl⟩⟩
              have Hfin := hidden fin
              clear fin hQ hFn hFw hIn hIc hBn hBc HRes
              go_wp2
              go_ret
              exact Hfin.out
        · have hres : A = quoAns bs p (litTok off acc) os o := by
            rw [← Hsc.out, ind_stop hlt hst, indAns0]
          have HRes := hidden hres
          clear hres Hsc
          have hll := litTok_length off acc
          go_wp2_with fail
          refine (f49_any w.heap.size L base off p _ _ text acc (os ++ [o]) w.heap.size _ hI1 hB1 hx1 hbw1 (by omega) (by omega)).mono ?_
          rintro e wc ⟨rfl, hIc, hFc⟩
          have hBc := hB1.fr hFc hI1.blk
          have hsc0 : Src wc (.slice (some ⟨g, 0, none⟩) bs.length sc) bs := hFc.src hsr1 hI1.blk
          have hFw := hF1.trans hFc
          have hbc : base ≤ wc.heap.size := by have := hFc.2.2.2.1; omega
          clear c0 c2 cf cp cX cS cT fT hI1 hB1 hx1 hF1 hsr1 hcs1 hbw1 hFc
          obtain ⟨cX, cS, cT, fT⟩ := hBc.cells
          obtain ⟨c0, c2, cf⟩ := hIc.cells
          go_wp2_with fail
          refine (peek2 L _ bs p _ (by exact c2) (by exact c0) (by exact hsc0) (by omega) (by omega)).mono ?_
          rintro e w' ⟨rfl, m', rfl⟩
          have hI2 := hIc.drewN m'
          have hB2 := hBc.drewN m'
          have hF2 : Fr L base w (wc.drewN m') := hFw.trans (Keep.drewN [] _ _).fr0
          have hsr2 := hsc0.drewN m'
          have hbw2 : base ≤ (wc.drewN m').heap.size := hbc
          clear hIc hBc hFw hsc0 hbc c0 c2 cf cX cS cT fT
          generalize wc.drewN m' = w2 at *
          obtain ⟨cX, cS, cT, fT⟩ := hB2.cells
          obtain ⟨c0, c2, cf⟩ := hI2.cells
          by_cases h39 : byteAt bs (p + 2) = 39
          ·
            have b39 : (byteAt bs (p + 2) == 39) = true := beq_iff_eq.2 h39
            as_aux_lemma =>
            have hres : A = ⟨p + 3, litTok off acc ++ [((⟨#[39, 39]⟩ : ByteArray), (p : Int), 9)], os ++ [o], false, 0, ⟨#[]⟩⟩ := by rw [HRes.out]; unfold quoAns; rw [if_pos h39]
            have HQ := hidden hres
            have hI2d := hI2.keep0 (Keep.drew [] w2)
            have hB2d := hB2.drewN 1
            have hF2d : Fr L base w w2.drew := hF2.trans (Keep.drew [] _).fr0
            have hbw2d : base ≤ w2.drew.heap.size := hbw2
            have H1 := hidden hI2d
            have H2 := hidden hB2d
            have H3 := hidden hF2d
            clear hres HRes hI2 hB2 hF2 hI2d hB2d hF2d hsr2 hs c0 cS cT fT cf
            go_upto_region 16 with fail
            go_region_held3 (fun w' => w'.cell? ⟨w.heap.size, 0, none⟩ = some (.pointer (some ⟨L, 0, none⟩)) ∧ w'.cell? ⟨L, 2, none⟩ = some (.int .i64 p)) (first | go_keep | (refine ⟨?_, ?_⟩; with_reducible exact kX; with_reducible exact k2))
              ((go_at_call 45; refine (emit_is L base _ text ⟨#[39, 39]⟩ p p 9 (litTok off acc) (os ++ [o]) _ H1.out hbw2d (by omega) (by omega) (by omega) (by omega) (by omega)).mono ?_; rintro e wn ⟨rfl, hIn, hFn⟩; have kX := (H2.out.fr hFn H1.out.blk).cells.1; have k2 := hIn.cells.2.1))
            clear cX c2
            have cf := hIn.cells.2.2
            have hQ := hIn.setOff ((p : Int) + 3)
            have fin : AnsPost w L base (.slice (some ⟨g, 0, none⟩) bs.length sc) text A (.returned (.pointer none)) (wn.setCell ⟨L, 2, none⟩ (.int .i64 ((p : Int) + 3))) := by
              rw [HQ.out]
              exact ⟨(H3.out.trans hFn).trans hQ.2, hQ.1, _, rfl, .inl ⟨rfl, rfl, rfl, rfl⟩⟩
            have Hfin := hidden fin
            clear fin hQ hFn hIn HQ H1 H2 H3
            go_wp2
            go_ret
            exact Hfin.out
          · have b39 : (byteAt bs (p + 2) == 39) = false := beq_eq_false_iff_ne.2 h39
            by_cases h36 : byteAt bs (p + 2) = 36
            ·
              have b36 : (byteAt bs (p + 2) == 36) = true := beq_iff_eq.2 h36
              as_aux_lemma =>
              have hres : A = ⟨p + 3, litTok off acc ++ [((⟨#[36]⟩ : ByteArray), (p : Int), 9)], os ++ [o], false, 0, ⟨#[]⟩⟩ := by rw [HRes.out]; unfold quoAns; rw [if_neg h39, if_pos h36]
              have HQ := hidden hres
              have hI2d := hI2.keep0 (Keep.drew [] w2)
              have hB2d := hB2.drewN 1
              have hF2d : Fr L base w w2.drew := hF2.trans (Keep.drew [] _).fr0
              have hbw2d : base ≤ w2.drew.heap.size := hbw2
              have H1 := hidden hI2d
              have H2 := hidden hB2d
              have H3 := hidden hF2d
              clear hres HRes hI2 hB2 hF2 hI2d hB2d hF2d hsr2 hs c0 cS cT fT cf
              go_upto_region 19 with fail
              go_region_held3 (fun w' => w'.cell? ⟨w.heap.size, 0, none⟩ = some (.pointer (some ⟨L, 0, none⟩)) ∧ w'.cell? ⟨L, 2, none⟩ = some (.int .i64 p)) (first | go_keep | (refine ⟨?_, ?_⟩; with_reducible exact kX; with_reducible exact k2))
                ((go_at_call 45; refine (emit_is L base _ text ⟨#[36]⟩ p p 9 (litTok off acc) (os ++ [o]) _ H1.out hbw2d (by omega) (by omega) (by omega) (by omega) (by omega)).mono ?_; rintro e wn ⟨rfl, hIn, hFn⟩; have kX := (H2.out.fr hFn H1.out.blk).cells.1; have k2 := hIn.cells.2.1))
              clear cX c2
              have cf := hIn.cells.2.2
              have hQ := hIn.setOff ((p : Int) + 3)
              have fin : AnsPost w L base (.slice (some ⟨g, 0, none⟩) bs.length sc) text A (.returned (.pointer none)) (wn.setCell ⟨L, 2, none⟩ (.int .i64 ((p : Int) + 3))) := by
                rw [HQ.out]
                exact ⟨(H3.out.trans hFn).trans hQ.2, hQ.1, _, rfl, .inl ⟨rfl, rfl, rfl, rfl⟩⟩
              have Hfin := hidden fin
              clear fin hQ hFn hIn HQ H1 H2 H3
              go_wp2
              go_ret
              exact Hfin.out
            · have b36 : (byteAt bs (p + 2) == 36) = false := beq_eq_false_iff_ne.2 h36
              by_cases h92 : byteAt bs (p + 2) = 92
              ·
                have b92 : (byteAt bs (p + 2) == 92) = true := beq_iff_eq.2 h92
                by_cases h3 : bs.length ≤ p + 3
                · as_aux_lemma =>
                  have hres : A = ⟨p, litTok off acc, os ++ [o], true, o.1, unterm⟩ := by rw [HRes.out]; unfold quoAns; rw [if_neg h39, if_neg h36, if_pos h92, if_pos h3]
                  have HQ := hidden hres
                  have hj : (bs.length : Int) ≤ (p : Int) + 3 := by omega
                  have hj' : ¬ ((p : Int) + 3 < (bs.length : Int)) := by omega
                  have hI2c := hI2
                  obtain ⟨tv, ov, hL, htv, hov⟩ := hI2c
                  have H1 := hidden hI2
                  have HL := hidden hL
                  have Hov := hidden hov
                  have H3 := hidden hF2
                  clear hres HRes hI2 hB2 hF2 hsr2 hs cS cT fT cf hL htv hov
                  go_upto_region 22 with fail
                  go_quiet (fail)
                  go_wp2_with fail
                  refine (f46_any L _ tv ov text p os o base _ (HL.out.drewN _) ((Keep.drewN [] _ _).owns Hov.out (by simp)) (by omega)).mono ?_
                  rintro e w1 ⟨E, rfl, hE, hEl, hKE⟩
                  have fin : AnsPost w L base (.slice (some ⟨g, 0, none⟩) bs.length sc) text A (.returned (.pointer (some ⟨E, 0, none⟩))) w1 := by
                    have k1 : Keep [] w2 w1 := (Keep.drewN _ _ _).trans' hKE
                    rw [HQ.out]
                    exact ⟨H3.out.trans k1.fr0, H1.out.keep0 k1, _, rfl, .inr ⟨rfl, E, rfl, hE⟩⟩
                  have Hfin := hidden fin
                  clear fin hE hEl hKE HQ H1 H3 HL Hov
                  go_wp2_with fail
                  go_ret
                  exact Hfin.out
                · as_aux_lemma =>
                  have hres : A = ⟨p + 4, litTok off acc ++ [(Utf8.encode (unescI (byteAt bs (p + 3))), (p : Int), 9)], os ++ [o], false, 0, ⟨#[]⟩⟩ := by rw [HRes.out]; unfold quoAns; rw [if_neg h39, if_neg h36, if_pos h92, if_neg h3]
                  have HQ := hidden hres
                  have hlt3 : p + 3 < bs.length := by omega
                  obtain ⟨g', hg', hcs⟩ := hsr2.cells hlt3
                  have hgg : g = g' := by simpa using hg'
                  subst hgg
                  have cp3 := hcs (p + 3) hlt3
                  have hj : (p : Int) + 3 < (bs.length : Int) := by omega
                  have hj' : ¬ ((bs.length : Int) ≤ (p : Int) + 3) := by omega
                  have hj0 : (0 : Int) ≤ (p : Int) + 3 := by omega
                  have hwp : IntKind.i64.wrap ((p : Int) + 3) = (p : Int) + 3 := by rw [IntKind.wrap_i64]; omega
                  have htn : ((p : Int) + 3).toNat = p + 3 := by omega
                  have hbr := byteAt_range bs (p + 3)
                  have hsr3 := hsr2
                  clear hcs hg'
                  have H1 := hidden hI2
                  have H2 := hidden hB2
                  have H3 := hidden hF2
                  have Hs := hidden hsr2
                  clear hres HRes hI2 hB2 hF2 hsr2 hsr3 hs cS cT fT cf
                  go_upto_region 22 with fail
                  go_quiet (fail)
                  generalize hwd : w2.drewN _ = w3
                  have hI3 : LexIs w3 L base (.slice (some ⟨g, 0, none⟩) bs.length sc) text p (litTok off acc) (os ++ [o]) := by rw [← hwd]; exact H1.out.drewN _
                  have hB3 : IndBox w3 w.heap.size L off (.slice x0 l0 cx0) := by rw [← hwd]; exact H2.out.drewN _
                  have hF3 : Fr L base w w3 := by rw [← hwd]; exact H3.out.trans (Keep.drewN [] _ _).fr0
                  have hbw3 : base ≤ w3.heap.size := by have := hF3.2.2.2.1; omega
                  have c3' : w3.cell? ⟨g, p + 3, none⟩ = some (.int .u8 (byteAt bs (p + 3))) := by rw [← hwd]; exact cp3
                  have Hs2 : Src w3 (.slice (some ⟨g, 0, none⟩) bs.length sc) bs := by rw [← hwd]; exact Hs.out.drewN _
                  clear hwd H1 H2 H3 Hs cp3 cX c0 c2 hbw2
                  clear w2
                  obtain ⟨cX, cS, cT, fT⟩ := hB3.cells
                  obtain ⟨c0, c2, cf⟩ := hI3.cells
                  have hI3d := hI3.keep0 (Keep.drew [] w3)
                  have hB3d := hB3.drewN 1
                  have hF3d : Fr L base w w3.drew := hF3.trans (Keep.drew [] _).fr0
                  have hbw3d : base ≤ w3.drew.heap.size := hbw3
                  have H1 := hidden hI3d
                  have H2 := hidden hB3d
                  have H3 := hidden hF3d
                  have ngL : ∀ (w4 : World), Fr L base w3.drew w4 → w4.cell? ⟨g, p + 3, none⟩ = some (.int .u8 (byteAt bs (p + 3))) := fun w4 h4 => by
                    rcases Hs2 with ⟨h1, _⟩ | ⟨g', cap, cs', hv, _, hb', hc'⟩
                    · cases h1
                    · simp at hv
                      obtain ⟨rfl, _⟩ := hv
                      obtain ⟨cs, hLb⟩ := hI3.blk
                      have hb3 : Blk w3.drew g 5 cs' := (Keep.drew [] w3).blk hb' (by simp)
                      have hb4 := h4.2.2.2.2.1 g 5 cs' hb3 (hb'.ne hLb (by decide)) (.inr ⟨by decide, by decide⟩)
                      rw [hb4.cell, hc' (p + 3) hlt3]
                  have HG := hidden ngL
                  clear hI3 hB3 hF3 hI3d hB3d hF3d cS cT fT cf ngL Hs2
                  go_upto_region 24 with fail
                  go_region_held3 (fun w' => w'.cell? ⟨w.heap.size, 0, none⟩ = some (.pointer (some ⟨L, 0, none⟩)) ∧ w'.cell? ⟨L, 0, none⟩ = some (.slice (some ⟨g, 0, none⟩) bs.length sc) ∧ w'.cell? ⟨L, 2, none⟩ = some (.int .i64 p) ∧ w'.cell? ⟨g, p + 3, none⟩ = some (.int .u8 (byteAt bs (p + 3)))) (first | go_keep | (refine ⟨?_, ?_, ?_, ?_⟩; with_reducible exact kX; with_reducible exact k0; with_reducible exact k2; with_reducible exact k3))
                    (first | (go_at_call 48; refine (f48_any _ _).mono ?_; rintro e w' ⟨rfl, rfl⟩) | (go_at_call 45; refine (emit_is L base _ text (Utf8.encode (unescI (byteAt bs (p + 3)))) p p 9 (litTok off acc) (os ++ [o]) _ H1.out hbw3d (by omega) (by omega) (by omega) (by omega) (by omega)).mono ?_; rintro e wn ⟨rfl, hIn, hFn⟩; have kX := (H2.out.fr hFn H1.out.blk).cells.1; have k0 := hIn.cells.1; have k2 := hIn.cells.2.1; have k3 := HG.out _ hFn))
                  clear cX c0 c2 c3' k0 k3
                  have cf := hIn.cells.2.2
                  have hQ := hIn.setOff ((p : Int) + 4)
                  have fin : AnsPost w L base (.slice (some ⟨g, 0, none⟩) bs.length sc) text A (.returned (.pointer none)) (wn.setCell ⟨L, 2, none⟩ (.int .i64 ((p : Int) + 4))) := by
                    rw [HQ.out]
                    exact ⟨(H3.out.trans hFn).trans hQ.2, hQ.1, _, rfl, .inl ⟨rfl, rfl, rfl, rfl⟩⟩
                  have Hfin := hidden fin
                  clear fin hQ hFn hIn HQ H1 H2 H3 HG hwp htn
                  go_wp2
                  go_ret
                  exact Hfin.out
              · have b92 : (byteAt bs (p + 2) == 92) = false := beq_eq_false_iff_ne.2 h92
                as_aux_lemma =>
                have hres : A = ⟨p + 2, litTok off acc ++ [((⟨#[]⟩ : ByteArray), (p : Int), 10)], os, false, 0, ⟨#[]⟩⟩ := by rw [HRes.out]; unfold quoAns; rw [if_neg h39, if_neg h36, if_neg h92]
                have HQ := hidden hres
                have hI2d := hI2.keep0 (Keep.drew [] w2)
                have hB2d := hB2.drewN 1
                have hF2d : Fr L base w w2.drew := hF2.trans (Keep.drew [] _).fr0
                have hbw2d : base ≤ w2.drew.heap.size := hbw2
                have H1 := hidden hI2d
                have H2 := hidden hB2d
                have H3 := hidden hF2d
                clear hres HRes hI2 hB2 hF2 hI2d hB2d hF2d hsr2 hs c0 cS cT fT cf
                go_upto_region 12 with fail
                go_region_held3 (fun w' => w'.cell? ⟨w.heap.size, 0, none⟩ = some (.pointer (some ⟨L, 0, none⟩)) ∧ w'.cell? ⟨L, 2, none⟩ = some (.int .i64 p)) (first | go_keep | (refine ⟨?_, ?_⟩; with_reducible exact kX; with_reducible exact k2))
                  ((go_at_call 45; refine (emit_is L base _ text ⟨#[]⟩ p p 10 (litTok off acc) (os ++ [o]) _ H1.out hbw2d (by omega) (by omega) (by omega) (by omega) (by omega)).mono ?_; rintro e wn ⟨rfl, hIn, hFn⟩; have kX := (H2.out.fr hFn H1.out.blk).cells.1; have k2 := hIn.cells.2.1))
                have hBn := H2.out.fr hFn H1.out.blk
                have hFw := H3.out.trans hFn
                clear cX c2 kX k2 H1 H2 H3 hFn
                obtain ⟨tv, ov, hL, htv, hov⟩ := hIn
                obtain ⟨og, oc, ocur, rfl, hob, hole, _⟩ := opens_last (n := 0) hov
                obtain ⟨cX, _, _, _⟩ := hBn.cells
                have c4 := hL.cell 4
                have f4 := hL.free 4
                simp only [List.getElem?_toArray, List.getElem?_cons_zero, List.getElem?_cons_succ] at c4
                have q0 : (0 : Int) ≤ (os.length : Int) := by omega
                have q1 : (os.length : Int) ≤ (oc : Int) := by omega
                have q2 : IntKind.i64.wrap ((os.length : Int) + 1 - 1) = (os.length : Int) := by rw [IntKind.wrap_i64]; omega
                have hP := lex_pop hL htv hov
                have hP1 := hP.1.keep0 (Keep.drew [] _)
                have hBz := hBn.fr (hP.2.trans (Keep.drew [] _).fr0) ⟨_, hL⟩
                have hF2 : Fr L base w ((wn.setCell ⟨L, 4, none⟩ (.slice (some ⟨og, 0, none⟩) os.length oc)).drew) := (hFw.trans hP.2).trans (Keep.drew [] _).fr0
                have HP1 := hidden hP1
                have HBz := hidden hBz
                have HF2 := hidden hF2
                clear hP hP1 hBz hF2 hBn hFw hL htv hov hob
                go_upto_region 13 with fail
                go_region
                generalize (wn.setCell ⟨L, 4, none⟩ (.slice (some ⟨og, 0, none⟩) os.length oc)).drew = wz at *
                clear cX c4 f4 q0 q1 q2
                obtain ⟨c0, c2, cf⟩ := HP1.out.cells
                obtain ⟨cX, _, _, _⟩ := HBz.out.cells
                have hQ := HP1.out.setOff ((p : Int) + 2)
                have fin : AnsPost w L base (.slice (some ⟨g, 0, none⟩) bs.length sc) text A (.returned (.pointer none)) (wz.setCell ⟨L, 2, none⟩ (.int .i64 ((p : Int) + 2))) := by
                  rw [HQ.out]
                  exact ⟨HF2.out.trans hQ.2, hQ.1, _, rfl, .inl ⟨rfl, rfl, rfl, rfl⟩⟩
                have Hfin := hidden fin
                clear fin hQ HQ HP1 HBz HF2
                go_wp2
                go_ret
                exact Hfin.out
end Go.Proofs.Qxb6601273a
