import Derived.Test.Qxb6601273aWant
namespace Go.Proofs.Qxb6601273a
open Go.RowKit
set_option linter.unusedVariables false

/-- The whole expected answer, from a model's outcome. -/
def expectW (R : MAns) (esc : ByteArray) (start : Nat) (ck : Int) : Want :=
  if R.act = 3 then ⟨R.fin, [], 0, 0, true⟩
  else if R.act = 0 then ⟨R.fin, litTok start R.text ++ [((⟨#[]⟩ : ByteArray), R.at_, ck)], 1, 0, false⟩
  else if R.act = 1 then ⟨R.fin, litTok start R.text ++ [((⟨#[]⟩ : ByteArray), R.at_, 7)], 2, R.at_, false⟩
  else if R.act = 2 then ⟨R.fin, litTok start R.text ++ [(esc, R.at_, 9)], 0, 0, false⟩
  else ⟨R.fin, litTok start R.text, 0, 0, true⟩

theorem box0 (w : World) (fin : Int) : TokBox w ((w.alloc (.cells zeroWant 44)).alloc (.cells (wantC fin nilS nilS nilS 0 0 false) 44)) (w.heap.size + 1) w.heap.size fin 0 0 false nilS nilS nilS [] [] [] := by
  exact ⟨Blk.newAt (by simp), (Blk.new _ _ _).alloc _, World.ownsRow_nil _ _ _ _, World.ownsRow_nil _ _ _ _, World.ownsRow_nil _ _ _ _, (Keep.alloc _ _ _).trans' (Keep.alloc _ _ _), by omega, by omega⟩

theorem TokBox.slices {w0 wa : World} {bB bR : Nat} {off op push : Int} {er : Bool} {a b c : Value} {na nb nc : List Value} (h : TokBox w0 wa bB bR off op push er a b c na nb nc) : (∃ x l c', a = .slice x l c') ∧ (∃ x l c', b = .slice x l c') ∧ (∃ x l c', c = .slice x l c') :=
  ⟨owns_slice h.2.2.1, owns_slice h.2.2.2.1, owns_slice h.2.2.2.2.1⟩

set_option maxRecDepth 100000 in
set_option maxHeartbeats 4000000 in
theorem f26_any (R : MAns) (esc : ByteArray) (start : Nat) (ck : Int) (tv : Value) (w : World) (hs : Src w tv R.text) (hact : R.act = 0 ∨ R.act = 1 ∨ R.act = 2 ∨ R.act = 3 ∨ R.act = 4) (hat : R.act ≠ 3 → 0 ≤ R.at_ ∧ R.at_ ≤ 100000000) (hst : start ≤ 100000000) (hck : 0 ≤ ck) (hck' : ck ≤ 255) (hn : R.text.length ≤ 10000000) :
    Calls Try.prog 26 #[.int .i64 R.act, .int .i64 R.at_, tv, .string esc, .int .i64 R.fin, .int .i64 start, .int .u8 ck] w fun e w' => ∃ r, e = .returned r ∧ WantIs w' w.heap.size r (expectW R esc start ck) ∧ Keep [] w w' := by
  obtain ⟨act, at_, text, fin⟩ := R
  simp only at hs hact hat hn ⊢
  obtain ⟨sa, sc, rfl⟩ := hs.form
  have hT := box0 w fin
  have HT0 := hidden hT
  have hsA : Src ((w.alloc (.cells zeroWant 44)).alloc (.cells (wantC fin nilS nilS nilS 0 0 false) 44)) (.slice sa text.length sc) text := hT.2.2.2.2.2.1.src hs (by simp)
  have Hs := hidden hsA
  clear hT hs hsA
  by_cases h3 : act = 3
  · subst h3
    clear hact hat
    go_enter Try.func26, Try.ntmps26
    go_upto_region 3 with fail
    have hT0 := HT0.out
    clear HT0 Hs
    generalize ((w.alloc (.cells zeroWant 44)).alloc (.cells (wantC fin nilS nilS nilS 0 0 false) 44)) = wa at *
    have hT := hT0
    obtain ⟨hB, hR, _, _, _, _, _, _⟩ := hT
    obtain ⟨q0, q1, q2, q3, q4, q5, q6⟩ := cells7 hB
    have hfB := hB.free
    have h1 := tok_set (i := 4) (x := .int .i64 0) hT0 rfl
    have h2 := tok_set (i := 6) (x := .bool true) h1 rfl
    have H2 := hidden h2
    clear hT0 hB hR h1 h2
    go_upto_region 6 with fail
    clear q0 q1 q2 q3 q4 q5 q6 hfB
    have hT0 := H2.out
    clear H2
    generalize ((wa.setCell ⟨w.heap.size + 1, 4, none⟩ (.int .i64 0)).setCell ⟨w.heap.size + 1, 6, none⟩ (.bool true)) = wb at *
    have hT := hT0
    obtain ⟨hB, hR, _, _, _, _, _, _⟩ := hT
    obtain ⟨q0, q1, q2, q3, q4, q5, q6⟩ := cells7 hB
    obtain ⟨z0, z1, z2, z3, z4, z5, z6⟩ := cells7 hR
    have hfz := hR.free
    have HR := hidden hR
    have HT := hidden hT0
    clear hB hR hT0
    go_wp2
    obtain ⟨q, qk⟩ := seven_sets (w := wb) (b := w.heap.size) (t := 44) HR.out (.int .i64 fin) nilS nilS nilS (.int .i64 0) (.int .i64 0) (.bool true)
    have hf := tok_fin (ts := []) HT.out qk (Nat.le_refl _)
    clear q0 q1 q2 q3 q4 q5 q6
    obtain ⟨q0, q1, q2, q3, q4, q5, q6⟩ := cells7 q
    clear HR HT qk q
    generalize (((((((wb.setCell ⟨w.heap.size, 0, none⟩ (.int .i64 fin)).setCell ⟨w.heap.size, 1, none⟩ nilS).setCell ⟨w.heap.size, 2, none⟩ nilS).setCell ⟨w.heap.size, 3, none⟩ nilS).setCell ⟨w.heap.size, 4, none⟩ (.int .i64 0)).setCell ⟨w.heap.size, 5, none⟩ (.int .i64 0)).setCell ⟨w.heap.size, 6, none⟩ (.bool true)) = W at *
    refine bodyPost_ret (v := .agg (wantC fin nilS nilS nilS 0 0 true)) ?_ rfl ⟨_, rfl, by unfold expectW; rw [if_pos rfl]; exact hf⟩
    simp [results, Try.results26, go_sem, q0, q1, q2, q3, q4, q5, q6]
  · have h3b : (act == 3) = false := beq_eq_false_iff_ne.2 h3
    have hat2 := hat h3
    obtain ⟨hat0, hat1⟩ := hat2
    go_enter Try.func26, Try.ntmps26
    go_upto_region 3 with fail
    have hT0 := HT0.out
    have hsA := Hs.out
    clear HT0 Hs
    generalize ((w.alloc (.cells zeroWant 44)).alloc (.cells (wantC fin nilS nilS nilS 0 0 false) 44)) = wa at *
    have hstN : (0 : Int) ≤ (start : Int) := by omega
    go_upto_if 25 with fail
    go_cut [] (fun wx => ∃ a b c, TokBox w wx (w.heap.size + 1) w.heap.size fin 0 0 false a b c (kindCells (litTok start text)) (offCells (litTok start text)) (textCells (litTok start text)))
    case first =>
      by_cases hte : text = []
      · subst hte
        have hr : ∃ a b c, TokBox w wa (w.heap.size + 1) w.heap.size fin 0 0 false a b c (kindCells (litTok start [])) (offCells (litTok start [])) (textCells (litTok start [])) := ⟨_, _, _, hT0⟩
        have Hr := hidden hr
        clear hr hT0 hsA
        go_wp2_with fail
        go_meet
        case rel => exact Hr.out
      · have htp : (0 : Int) < (text.length : Int) := by have := List.length_pos_iff.2 hte; omega
        have hcv := run_conv_src hsA
        have elit : litTok start text = [] ++ [((⟨text.toArray⟩ : ByteArray), (start : Int), 5)] := by unfold litTok; rw [if_neg hte]; rfl
        have Helit := hidden elit
        have hT := hT0
        obtain ⟨hB, hR, ra, rb, rc, hK, h1, h2⟩ := hT
        obtain ⟨q0, q1, q2, q3, q4, q5, q6⟩ := cells7 hB
        have hW : WantIs wa w.heap.size (.agg (wantC fin nilS nilS nilS 0 0 false)) ⟨fin, [], 0, 0, false⟩ := ⟨_, _, _, rfl, ra, rb, rc⟩
        have HW := hidden hW
        have HB := hidden hB
        have HR := hidden hR
        have HK := hidden hK
        clear hT0 hsA elit hB hR ra rb rc hK hW h1 h2
        go_wp2_with fail
        refine (f39_any w _ HK.out _ _ HW.out 5 start ⟨text.toArray⟩ (by simp) (by omega) (by omega) (by omega) (by omega)).mono ?_
        rintro e wN ⟨r, rfl, ⟨a, b, c, rfl, ra, rb, rc⟩, hKN, hbb⟩
        have hB1 := hbb _ _ _ HB.out (by decide) (by decide) (by decide)
        have hR1 := hbb _ _ _ HR.out (by decide) (by decide) (by decide)
        obtain ⟨q0', q1', q2', q3', q4', q5', q6'⟩ := cells7 hB1
        have hfB := hB1.free
        have T := box_store (M := ⟨fin, [] ++ [((⟨text.toArray⟩ : ByteArray), (start : Int), 5)], 0, 0, false⟩) hB1 hR1 ra rb rc hKN (by omega) (by omega)
        obtain ⟨a0, a1, a2, rfl⟩ := owns_slice ra
        obtain ⟨b0, b1, b2, rfl⟩ := owns_slice rb
        obtain ⟨c0, c1, c2, rfl⟩ := owns_slice rc
        have T2 : ∃ a b c, TokBox w (((((((wN.setCell ⟨w.heap.size + 1, 0, none⟩ (.int .i64 fin)).setCell ⟨w.heap.size + 1, 1, none⟩ (.slice a0 a1 a2)).setCell ⟨w.heap.size + 1, 2, none⟩ (.slice b0 b1 b2)).setCell ⟨w.heap.size + 1, 3, none⟩ (.slice c0 c1 c2)).setCell ⟨w.heap.size + 1, 4, none⟩ (.int .i64 0)).setCell ⟨w.heap.size + 1, 5, none⟩ (.int .i64 0)).setCell ⟨w.heap.size + 1, 6, none⟩ (.bool false)) (w.heap.size + 1) w.heap.size fin 0 0 false a b c (kindCells (litTok start text)) (offCells (litTok start text)) (textCells (litTok start text)) := by
          rw [Helit.out]; exact ⟨_, _, _, T⟩
        have HT := hidden T2
        clear T T2 ra rb rc hB1 hR1 hbb hKN hcv HB HR HK HW q0 q1 q2 q3 q4 q5 q6
        go_wp2_with fail
        go_meet
        case rel => exact HT.out
    case rest =>
      obtain ⟨a, b, c, hT0⟩ := hcut
      clear hsA
      obtain ⟨⟨a0, a1, a2, rfl⟩, ⟨b0, b1, b2, rfl⟩, ⟨c0, c1, c2, rfl⟩⟩ := hT0.slices
      have hll := litTok_length start text
      generalize hlt : litTok start text = lt at *
      have Hlt := hidden hlt
      clear hlt
      by_cases h0 : act = 0
      · subst h0
        have hT := hT0
        obtain ⟨hB, hR, ra, rb, rc, hK, h1', h2'⟩ := hT
        obtain ⟨q0, q1, q2, q3, q4, q5, q6⟩ := cells7 hB
        have l1 : (kindCells lt).length = lt.length := by simp [kindCells]
        have l2 : (offCells lt).length = lt.length := by simp [offCells]
        have l3 : (textCells lt).length = lt.length := by simp [textCells]
        rw [l1] at ra
        rw [l2] at rb
        rw [l3] at rc
        have hW : WantIs wc w.heap.size (.agg (wantC fin (.slice a0 a1 a2) (.slice b0 b1 b2) (.slice c0 c1 c2) 0 0 false)) ⟨fin, lt, 0, 0, false⟩ := ⟨_, _, _, rfl, ra, rb, rc⟩
        have HW := hidden hW
        have HB := hidden hB
        have HR := hidden hR
        have HK := hidden hK
        clear hT0 hB hR ra rb rc hK hW h1' h2' l1 l2 l3
        go_wp2_with fail
        refine (f39_any w _ HK.out _ _ HW.out ck at_ (⟨#[]⟩ : ByteArray) (by simp only; omega) (by omega) (by omega) (by omega) (by omega)).mono ?_
        rintro e wN ⟨r, rfl, ⟨a, b, c, rfl, ra, rb, rc⟩, hKN, hbb⟩
        have hB1 := hbb _ _ _ HB.out (by decide) (by decide) (by decide)
        have hR1 := hbb _ _ _ HR.out (by decide) (by decide) (by decide)
        have T := box_store (M := ⟨fin, lt ++ [((⟨#[]⟩ : ByteArray), at_, ck)], 0, 0, false⟩) hB1 hR1 ra rb rc hKN (by omega) (by omega)
        obtain ⟨d0, d1, d2, rfl⟩ := owns_slice ra
        obtain ⟨e0, e1, e2, rfl⟩ := owns_slice rb
        obtain ⟨f0, f1, f2, rfl⟩ := owns_slice rc
        simp only at T
        clear q0 q1 q2 q3 q4 q5 q6
        obtain ⟨q0, q1, q2, q3, q4, q5, q6⟩ := cells7 hB1
        have hfB := hB1.free
        have HT := hidden T
        clear T ra rb rc hB1 hR1 hbb hKN HB HR HK HW
        go_upto_region 12 with fail
        clear q0 q1 q2 q3 q4 q5 q6 hfB
        have hT0 := HT.out
        clear HT
        generalize (((((((wN.setCell ⟨w.heap.size + 1, 0, none⟩ (.int .i64 fin)).setCell ⟨w.heap.size + 1, 1, none⟩ (.slice d0 d1 d2)).setCell ⟨w.heap.size + 1, 2, none⟩ (.slice e0 e1 e2)).setCell ⟨w.heap.size + 1, 3, none⟩ (.slice f0 f1 f2)).setCell ⟨w.heap.size + 1, 4, none⟩ (.int .i64 0)).setCell ⟨w.heap.size + 1, 5, none⟩ (.int .i64 0)).setCell ⟨w.heap.size + 1, 6, none⟩ (.bool false)) = wd at *
        have hT := hT0
        obtain ⟨hB, hR, _, _, _, _, _, _⟩ := hT
        obtain ⟨q0, q1, q2, q3, q4, q5, q6⟩ := cells7 hB
        have hfB := hB.free
        have g0 := tok_set (i := 4) (x := (.int .i64 1)) hT0 rfl
        have HG := hidden g0
        clear g0 hT0 hB hR
        go_upto_region 23 with fail
        clear q0 q1 q2 q3 q4 q5 q6 hfB
        have hT0 := HG.out
        clear HG
        generalize (wd.setCell ⟨w.heap.size + 1, 4, none⟩ (.int .i64 1)) = we at *
        have hT := hT0
        obtain ⟨hB, hR, _, _, _, _, _, _⟩ := hT
        obtain ⟨q0, q1, q2, q3, q4, q5, q6⟩ := cells7 hB
        obtain ⟨z0, z1, z2, z3, z4, z5, z6⟩ := cells7 hR
        have hfz := hR.free
        have HR := hidden hR
        have HT := hidden hT0
        clear hB hR hT0
        go_wp2
        obtain ⟨q, qk⟩ := seven_sets (w := we) (b := w.heap.size) (t := 44) HR.out (.int .i64 fin) (.slice d0 d1 d2) (.slice e0 e1 e2) (.slice f0 f1 f2) (.int .i64 1) (.int .i64 0) (.bool false)
        have hf := tok_fin HT.out qk (Nat.le_refl _)
        clear q0 q1 q2 q3 q4 q5 q6
        obtain ⟨q0, q1, q2, q3, q4, q5, q6⟩ := cells7 q
        clear HR HT qk q
        generalize (((((((we.setCell ⟨w.heap.size, 0, none⟩ (.int .i64 fin)).setCell ⟨w.heap.size, 1, none⟩ (.slice d0 d1 d2)).setCell ⟨w.heap.size, 2, none⟩ (.slice e0 e1 e2)).setCell ⟨w.heap.size, 3, none⟩ (.slice f0 f1 f2)).setCell ⟨w.heap.size, 4, none⟩ (.int .i64 1)).setCell ⟨w.heap.size, 5, none⟩ (.int .i64 0)).setCell ⟨w.heap.size, 6, none⟩ (.bool false)) = W at *
        refine bodyPost_ret (v := .agg (wantC fin (.slice d0 d1 d2) (.slice e0 e1 e2) (.slice f0 f1 f2) 1 0 false)) ?_ rfl ⟨_, rfl, by unfold expectW; rw [if_neg (show ¬ ((0 : Int) = 3) by decide), if_pos rfl, Hlt.out]; exact hf⟩
        simp [results, Try.results26, go_sem, q0, q1, q2, q3, q4, q5, q6]
      · have b0' : (act == 0) = false := beq_eq_false_iff_ne.2 h0
        by_cases h1 : act = 1
        · subst h1
          have hT := hT0
          obtain ⟨hB, hR, ra, rb, rc, hK, h1', h2'⟩ := hT
          obtain ⟨q0, q1, q2, q3, q4, q5, q6⟩ := cells7 hB
          have l1 : (kindCells lt).length = lt.length := by simp [kindCells]
          have l2 : (offCells lt).length = lt.length := by simp [offCells]
          have l3 : (textCells lt).length = lt.length := by simp [textCells]
          rw [l1] at ra
          rw [l2] at rb
          rw [l3] at rc
          have hW : WantIs wc w.heap.size (.agg (wantC fin (.slice a0 a1 a2) (.slice b0 b1 b2) (.slice c0 c1 c2) 0 0 false)) ⟨fin, lt, 0, 0, false⟩ := ⟨_, _, _, rfl, ra, rb, rc⟩
          have HW := hidden hW
          have HB := hidden hB
          have HR := hidden hR
          have HK := hidden hK
          clear hT0 hB hR ra rb rc hK hW h1' h2' l1 l2 l3
          go_wp2_with fail
          refine (f39_any w _ HK.out _ _ HW.out 7 at_ (⟨#[]⟩ : ByteArray) (by simp only; omega) (by omega) (by omega) (by omega) (by omega)).mono ?_
          rintro e wN ⟨r, rfl, ⟨a, b, c, rfl, ra, rb, rc⟩, hKN, hbb⟩
          have hB1 := hbb _ _ _ HB.out (by decide) (by decide) (by decide)
          have hR1 := hbb _ _ _ HR.out (by decide) (by decide) (by decide)
          have T := box_store (M := ⟨fin, lt ++ [((⟨#[]⟩ : ByteArray), at_, 7)], 0, 0, false⟩) hB1 hR1 ra rb rc hKN (by omega) (by omega)
          obtain ⟨d0, d1, d2, rfl⟩ := owns_slice ra
          obtain ⟨e0, e1, e2, rfl⟩ := owns_slice rb
          obtain ⟨f0, f1, f2, rfl⟩ := owns_slice rc
          simp only at T
          clear q0 q1 q2 q3 q4 q5 q6
          obtain ⟨q0, q1, q2, q3, q4, q5, q6⟩ := cells7 hB1
          have hfB := hB1.free
          have HT := hidden T
          clear T ra rb rc hB1 hR1 hbb hKN HB HR HK HW
          go_upto_region 15 with fail
          clear q0 q1 q2 q3 q4 q5 q6 hfB
          have hT0 := HT.out
          clear HT
          generalize (((((((wN.setCell ⟨w.heap.size + 1, 0, none⟩ (.int .i64 fin)).setCell ⟨w.heap.size + 1, 1, none⟩ (.slice d0 d1 d2)).setCell ⟨w.heap.size + 1, 2, none⟩ (.slice e0 e1 e2)).setCell ⟨w.heap.size + 1, 3, none⟩ (.slice f0 f1 f2)).setCell ⟨w.heap.size + 1, 4, none⟩ (.int .i64 0)).setCell ⟨w.heap.size + 1, 5, none⟩ (.int .i64 0)).setCell ⟨w.heap.size + 1, 6, none⟩ (.bool false)) = wd at *
          have hT := hT0
          obtain ⟨hB, hR, _, _, _, _, _, _⟩ := hT
          obtain ⟨q0, q1, q2, q3, q4, q5, q6⟩ := cells7 hB
          have hfB := hB.free
          have g0 := tok_set (i := 4) (x := (.int .i64 2)) hT0 rfl
          have g1 := tok_set (i := 5) (x := (.int .i64 at_)) g0 rfl
          have HG := hidden g1
          clear g0 g1 hT0 hB hR
          go_upto_region 23 with fail
          clear q0 q1 q2 q3 q4 q5 q6 hfB
          have hT0 := HG.out
          clear HG
          generalize ((wd.setCell ⟨w.heap.size + 1, 4, none⟩ (.int .i64 2)).setCell ⟨w.heap.size + 1, 5, none⟩ (.int .i64 at_)) = we at *
          have hT := hT0
          obtain ⟨hB, hR, _, _, _, _, _, _⟩ := hT
          obtain ⟨q0, q1, q2, q3, q4, q5, q6⟩ := cells7 hB
          obtain ⟨z0, z1, z2, z3, z4, z5, z6⟩ := cells7 hR
          have hfz := hR.free
          have HR := hidden hR
          have HT := hidden hT0
          clear hB hR hT0
          go_wp2
          obtain ⟨q, qk⟩ := seven_sets (w := we) (b := w.heap.size) (t := 44) HR.out (.int .i64 fin) (.slice d0 d1 d2) (.slice e0 e1 e2) (.slice f0 f1 f2) (.int .i64 2) (.int .i64 at_) (.bool false)
          have hf := tok_fin HT.out qk (Nat.le_refl _)
          clear q0 q1 q2 q3 q4 q5 q6
          obtain ⟨q0, q1, q2, q3, q4, q5, q6⟩ := cells7 q
          clear HR HT qk q
          generalize (((((((we.setCell ⟨w.heap.size, 0, none⟩ (.int .i64 fin)).setCell ⟨w.heap.size, 1, none⟩ (.slice d0 d1 d2)).setCell ⟨w.heap.size, 2, none⟩ (.slice e0 e1 e2)).setCell ⟨w.heap.size, 3, none⟩ (.slice f0 f1 f2)).setCell ⟨w.heap.size, 4, none⟩ (.int .i64 2)).setCell ⟨w.heap.size, 5, none⟩ (.int .i64 at_)).setCell ⟨w.heap.size, 6, none⟩ (.bool false)) = W at *
          refine bodyPost_ret (v := .agg (wantC fin (.slice d0 d1 d2) (.slice e0 e1 e2) (.slice f0 f1 f2) 2 at_ false)) ?_ rfl ⟨_, rfl, by unfold expectW; rw [if_neg (show ¬ ((1 : Int) = 3) by decide), if_neg (show ¬ ((1 : Int) = 0) by decide), if_pos rfl, Hlt.out]; exact hf⟩
          simp [results, Try.results26, go_sem, q0, q1, q2, q3, q4, q5, q6]
        · have b1' : (act == 1) = false := beq_eq_false_iff_ne.2 h1
          by_cases h2 : act = 2
          · subst h2
            have hT := hT0
            obtain ⟨hB, hR, ra, rb, rc, hK, h1', h2'⟩ := hT
            obtain ⟨q0, q1, q2, q3, q4, q5, q6⟩ := cells7 hB
            have l1 : (kindCells lt).length = lt.length := by simp [kindCells]
            have l2 : (offCells lt).length = lt.length := by simp [offCells]
            have l3 : (textCells lt).length = lt.length := by simp [textCells]
            rw [l1] at ra
            rw [l2] at rb
            rw [l3] at rc
            have hW : WantIs wc w.heap.size (.agg (wantC fin (.slice a0 a1 a2) (.slice b0 b1 b2) (.slice c0 c1 c2) 0 0 false)) ⟨fin, lt, 0, 0, false⟩ := ⟨_, _, _, rfl, ra, rb, rc⟩
            have HW := hidden hW
            have HB := hidden hB
            have HR := hidden hR
            have HK := hidden hK
            clear hT0 hB hR ra rb rc hK hW h1' h2' l1 l2 l3
            go_wp2_with fail
            refine (f39_any w _ HK.out _ _ HW.out 9 at_ esc (by simp only; omega) (by omega) (by omega) (by omega) (by omega)).mono ?_
            rintro e wN ⟨r, rfl, ⟨a, b, c, rfl, ra, rb, rc⟩, hKN, hbb⟩
            have hB1 := hbb _ _ _ HB.out (by decide) (by decide) (by decide)
            have hR1 := hbb _ _ _ HR.out (by decide) (by decide) (by decide)
            have T := box_store (M := ⟨fin, lt ++ [(esc, at_, 9)], 0, 0, false⟩) hB1 hR1 ra rb rc hKN (by omega) (by omega)
            obtain ⟨d0, d1, d2, rfl⟩ := owns_slice ra
            obtain ⟨e0, e1, e2, rfl⟩ := owns_slice rb
            obtain ⟨f0, f1, f2, rfl⟩ := owns_slice rc
            simp only at T
            clear q0 q1 q2 q3 q4 q5 q6
            obtain ⟨q0, q1, q2, q3, q4, q5, q6⟩ := cells7 hB1
            have hfB := hB1.free
            have HT := hidden T
            clear T ra rb rc hB1 hR1 hbb hKN HB HR HK HW
            go_upto_region 19 with fail
            clear q0 q1 q2 q3 q4 q5 q6 hfB
            have hT0 := HT.out
            clear HT
            generalize (((((((wN.setCell ⟨w.heap.size + 1, 0, none⟩ (.int .i64 fin)).setCell ⟨w.heap.size + 1, 1, none⟩ (.slice d0 d1 d2)).setCell ⟨w.heap.size + 1, 2, none⟩ (.slice e0 e1 e2)).setCell ⟨w.heap.size + 1, 3, none⟩ (.slice f0 f1 f2)).setCell ⟨w.heap.size + 1, 4, none⟩ (.int .i64 0)).setCell ⟨w.heap.size + 1, 5, none⟩ (.int .i64 0)).setCell ⟨w.heap.size + 1, 6, none⟩ (.bool false)) = wd at *
            have hT := hT0
            obtain ⟨hB, hR, _, _, _, _, _, _⟩ := hT
            obtain ⟨q0, q1, q2, q3, q4, q5, q6⟩ := cells7 hB
            have hfB := hB.free
            have g0 := tok_set (i := 4) (x := (.int .i64 0)) hT0 rfl
            have HG := hidden g0
            clear g0 hT0 hB hR
            go_upto_region 23 with fail
            clear q0 q1 q2 q3 q4 q5 q6 hfB
            have hT0 := HG.out
            clear HG
            generalize (wd.setCell ⟨w.heap.size + 1, 4, none⟩ (.int .i64 0)) = we at *
            have hT := hT0
            obtain ⟨hB, hR, _, _, _, _, _, _⟩ := hT
            obtain ⟨q0, q1, q2, q3, q4, q5, q6⟩ := cells7 hB
            obtain ⟨z0, z1, z2, z3, z4, z5, z6⟩ := cells7 hR
            have hfz := hR.free
            have HR := hidden hR
            have HT := hidden hT0
            clear hB hR hT0
            go_wp2
            obtain ⟨q, qk⟩ := seven_sets (w := we) (b := w.heap.size) (t := 44) HR.out (.int .i64 fin) (.slice d0 d1 d2) (.slice e0 e1 e2) (.slice f0 f1 f2) (.int .i64 0) (.int .i64 0) (.bool false)
            have hf := tok_fin HT.out qk (Nat.le_refl _)
            clear q0 q1 q2 q3 q4 q5 q6
            obtain ⟨q0, q1, q2, q3, q4, q5, q6⟩ := cells7 q
            clear HR HT qk q
            generalize (((((((we.setCell ⟨w.heap.size, 0, none⟩ (.int .i64 fin)).setCell ⟨w.heap.size, 1, none⟩ (.slice d0 d1 d2)).setCell ⟨w.heap.size, 2, none⟩ (.slice e0 e1 e2)).setCell ⟨w.heap.size, 3, none⟩ (.slice f0 f1 f2)).setCell ⟨w.heap.size, 4, none⟩ (.int .i64 0)).setCell ⟨w.heap.size, 5, none⟩ (.int .i64 0)).setCell ⟨w.heap.size, 6, none⟩ (.bool false)) = W at *
            refine bodyPost_ret (v := .agg (wantC fin (.slice d0 d1 d2) (.slice e0 e1 e2) (.slice f0 f1 f2) 0 0 false)) ?_ rfl ⟨_, rfl, by unfold expectW; rw [if_neg (show ¬ ((2 : Int) = 3) by decide), if_neg (show ¬ ((2 : Int) = 0) by decide), if_neg (show ¬ ((2 : Int) = 1) by decide), if_pos rfl, Hlt.out]; exact hf⟩
            simp [results, Try.results26, go_sem, q0, q1, q2, q3, q4, q5, q6]
          · have h4 : act = 4 := by rcases hact with h | h | h | h | h <;> omega
            · subst h4
              have hT := hT0
              obtain ⟨hB, hR, ra, rb, rc, hK, h1', h2'⟩ := hT
              obtain ⟨q0, q1, q2, q3, q4, q5, q6⟩ := cells7 hB
              have hfB := hB.free
              clear ra rb rc hK h1' h2'
              go_upto_region 21 with fail
              have g0 := tok_set (i := 4) (x := (.int .i64 0)) hT0 rfl
              have g1 := tok_set (i := 6) (x := (.bool true)) g0 rfl
              have HG := hidden g1
              clear g0 g1 hT0 hB hR
              go_upto_region 23 with fail
              clear q0 q1 q2 q3 q4 q5 q6 hfB
              have hT0 := HG.out
              clear HG
              generalize ((wc.setCell ⟨w.heap.size + 1, 4, none⟩ (.int .i64 0)).setCell ⟨w.heap.size + 1, 6, none⟩ (.bool true)) = we at *
              have hT := hT0
              obtain ⟨hB, hR, _, _, _, _, _, _⟩ := hT
              obtain ⟨q0, q1, q2, q3, q4, q5, q6⟩ := cells7 hB
              obtain ⟨z0, z1, z2, z3, z4, z5, z6⟩ := cells7 hR
              have hfz := hR.free
              have HR := hidden hR
              have HT := hidden hT0
              clear hB hR hT0
              go_wp2
              obtain ⟨q, qk⟩ := seven_sets (w := we) (b := w.heap.size) (t := 44) HR.out (.int .i64 fin) (.slice a0 a1 a2) (.slice b0 b1 b2) (.slice c0 c1 c2) (.int .i64 0) (.int .i64 0) (.bool true)
              have hf := tok_fin HT.out qk (Nat.le_refl _)
              clear q0 q1 q2 q3 q4 q5 q6
              obtain ⟨q0, q1, q2, q3, q4, q5, q6⟩ := cells7 q
              clear HR HT qk q
              generalize (((((((we.setCell ⟨w.heap.size, 0, none⟩ (.int .i64 fin)).setCell ⟨w.heap.size, 1, none⟩ (.slice a0 a1 a2)).setCell ⟨w.heap.size, 2, none⟩ (.slice b0 b1 b2)).setCell ⟨w.heap.size, 3, none⟩ (.slice c0 c1 c2)).setCell ⟨w.heap.size, 4, none⟩ (.int .i64 0)).setCell ⟨w.heap.size, 5, none⟩ (.int .i64 0)).setCell ⟨w.heap.size, 6, none⟩ (.bool true)) = W at *
              refine bodyPost_ret (v := .agg (wantC fin (.slice a0 a1 a2) (.slice b0 b1 b2) (.slice c0 c1 c2) 0 0 true)) ?_ rfl ⟨_, rfl, by unfold expectW; rw [if_neg (show ¬ ((4 : Int) = 3) by decide), if_neg (show ¬ ((4 : Int) = 0) by decide), if_neg (show ¬ ((4 : Int) = 1) by decide), if_neg (show ¬ ((4 : Int) = 2) by decide), Hlt.out]; exact hf⟩
              simp [results, Try.results26, go_sem, q0, q1, q2, q3, q4, q5, q6]
end Go.Proofs.Qxb6601273a
