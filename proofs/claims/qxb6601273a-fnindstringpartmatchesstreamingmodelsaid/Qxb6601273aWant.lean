import Derived.Test.Qxb6601273aSModel
namespace Go.Proofs.Qxb6601273a
open Go.RowKit
set_option linter.unusedVariables false

/-- The whole expected answer of one call. -/
structure Want where
  off : Int
  ts : List Tok
  op : Int
  push : Int
  er : Bool

abbrev wantC (off : Int) (a b c : Value) (op push : Int) (er : Bool) : Array Value := #[.int .i64 off, a, b, c, .int .i64 op, .int .i64 push, .bool er]
abbrev zeroWant : Array Value := wantC 0 nilS nilS nilS 0 0 false

/-- The value r is the want M; its rows are ours, from block B on. -/
def WantIs (w : World) (B : Nat) (r : Value) (M : Want) : Prop :=
  ∃ a b c, r = .agg (wantC M.off a b c M.op M.push M.er) ∧ w.ownsRow B 5 1 a M.ts.length (kindCells M.ts) ∧ w.ownsRow B 21 1 b M.ts.length (offCells M.ts) ∧ w.ownsRow B 9 1 c M.ts.length (textCells M.ts)

/-- A want in the variable bB, an empty one in bR. -/
def TokBox (w0 wa : World) (bB bR : Nat) (off op push : Int) (er : Bool) (a b c : Value) (na nb nc : List Value) : Prop :=
  Blk wa bB 44 (wantC off a b c op push er) ∧ Blk wa bR 44 zeroWant ∧ wa.ownsRow w0.heap.size 5 1 a na.length na ∧ wa.ownsRow w0.heap.size 21 1 b nb.length nb ∧ wa.ownsRow w0.heap.size 9 1 c nc.length nc ∧ Keep [] w0 wa ∧ w0.heap.size ≤ bB ∧ bB ≠ bR

theorem tok_a {w0 wa X wn : World} {bB bR : Nat} {off op push : Int} {er : Bool} {a b c nv x : Value} {na nb nc : List Value} (h : TokBox w0 wa bB bR off op push er a b c na nb nc) (hX : Keep [] wa X) (hgrow : X.grownBy wn a.ownBlock)
    (hown : wn.ownsRow w0.heap.size 5 1 nv (na.length + 1) (na ++ [x])) :
    (wn.cell? ⟨bB, 1, none⟩ = some a ∧ wn.frozen? ⟨bB, 1, none⟩ = false) ∧ TokBox w0 (wn.setCell ⟨bB, 1, none⟩ nv) bB bR off op push er nv b c (na ++ [x]) nb nc := by
  obtain ⟨hB, hR, ha, hb, hc, hK, h1, h2⟩ := h
  have kk := keep_app hX hgrow
  have hB1 := kk.blk hB (owns_far ha hB (by decide))
  have hR1 := kk.blk hR (owns_far ha hR (by decide))
  have ks : Keep [bB] wn (wn.setCell ⟨bB, 1, none⟩ nv) := Keep.setCell _ _ _ (by simp)
  refine ⟨⟨hB1.cell 1, hB1.free 1⟩, hB1.set 1 nv, ks.blk hR1 (by simpa using Ne.symm h2), by rw [List.length_append]; exact ownsRow_setCell_other hown (owns_ne hown hB1 (by decide)) _, ks.owns (kk.owns hb (fun g hg hm => owns_ne2 hb ha (by decide) g hg (by simpa using hm))) (fun g hg hm => owns_ne (kk.owns hb (fun g hg hm => owns_ne2 hb ha (by decide) g hg (by simpa using hm))) hB1 (by decide) (by simp at hm; rw [hg, hm])), ks.owns (kk.owns hc (fun g hg hm => owns_ne2 hc ha (by decide) g hg (by simpa using hm))) (fun g hg hm => owns_ne (kk.owns hc (fun g hg hm => owns_ne2 hc ha (by decide) g hg (by simpa using hm))) hB1 (by decide) (by simp at hm; rw [hg, hm])), (hK.trans kk (fun x hx => .inr (owns_new ha x hx))).trans ks (by intro x hx; right; simp at hx; omega), h1, h2⟩

theorem tok_b {w0 wa X wn : World} {bB bR : Nat} {off op push : Int} {er : Bool} {a b c nv x : Value} {na nb nc : List Value} (h : TokBox w0 wa bB bR off op push er a b c na nb nc) (hX : Keep [] wa X) (hgrow : X.grownBy wn b.ownBlock)
    (hown : wn.ownsRow w0.heap.size 21 1 nv (nb.length + 1) (nb ++ [x])) :
    (wn.cell? ⟨bB, 2, none⟩ = some b ∧ wn.frozen? ⟨bB, 2, none⟩ = false) ∧ TokBox w0 (wn.setCell ⟨bB, 2, none⟩ nv) bB bR off op push er a nv c na (nb ++ [x]) nc := by
  obtain ⟨hB, hR, ha, hb, hc, hK, h1, h2⟩ := h
  have kk := keep_app hX hgrow
  have hB1 := kk.blk hB (owns_far hb hB (by decide))
  have hR1 := kk.blk hR (owns_far hb hR (by decide))
  have ks : Keep [bB] wn (wn.setCell ⟨bB, 2, none⟩ nv) := Keep.setCell _ _ _ (by simp)
  refine ⟨⟨hB1.cell 2, hB1.free 2⟩, hB1.set 2 nv, ks.blk hR1 (by simpa using Ne.symm h2), ks.owns (kk.owns ha (fun g hg hm => owns_ne2 ha hb (by decide) g hg (by simpa using hm))) (fun g hg hm => owns_ne (kk.owns ha (fun g hg hm => owns_ne2 ha hb (by decide) g hg (by simpa using hm))) hB1 (by decide) (by simp at hm; rw [hg, hm])), by rw [List.length_append]; exact ownsRow_setCell_other hown (owns_ne hown hB1 (by decide)) _, ks.owns (kk.owns hc (fun g hg hm => owns_ne2 hc hb (by decide) g hg (by simpa using hm))) (fun g hg hm => owns_ne (kk.owns hc (fun g hg hm => owns_ne2 hc hb (by decide) g hg (by simpa using hm))) hB1 (by decide) (by simp at hm; rw [hg, hm])), (hK.trans kk (fun x hx => .inr (owns_new hb x hx))).trans ks (by intro x hx; right; simp at hx; omega), h1, h2⟩

theorem tok_c {w0 wa X wn : World} {bB bR : Nat} {off op push : Int} {er : Bool} {a b c nv x : Value} {na nb nc : List Value} (h : TokBox w0 wa bB bR off op push er a b c na nb nc) (hX : Keep [] wa X) (hgrow : X.grownBy wn c.ownBlock)
    (hown : wn.ownsRow w0.heap.size 9 1 nv (nc.length + 1) (nc ++ [x])) :
    (wn.cell? ⟨bB, 3, none⟩ = some c ∧ wn.frozen? ⟨bB, 3, none⟩ = false) ∧ TokBox w0 (wn.setCell ⟨bB, 3, none⟩ nv) bB bR off op push er a b nv na nb (nc ++ [x]) := by
  obtain ⟨hB, hR, ha, hb, hc, hK, h1, h2⟩ := h
  have kk := keep_app hX hgrow
  have hB1 := kk.blk hB (owns_far hc hB (by decide))
  have hR1 := kk.blk hR (owns_far hc hR (by decide))
  have ks : Keep [bB] wn (wn.setCell ⟨bB, 3, none⟩ nv) := Keep.setCell _ _ _ (by simp)
  refine ⟨⟨hB1.cell 3, hB1.free 3⟩, hB1.set 3 nv, ks.blk hR1 (by simpa using Ne.symm h2), ks.owns (kk.owns ha (fun g hg hm => owns_ne2 ha hc (by decide) g hg (by simpa using hm))) (fun g hg hm => owns_ne (kk.owns ha (fun g hg hm => owns_ne2 ha hc (by decide) g hg (by simpa using hm))) hB1 (by decide) (by simp at hm; rw [hg, hm])), ks.owns (kk.owns hb (fun g hg hm => owns_ne2 hb hc (by decide) g hg (by simpa using hm))) (fun g hg hm => owns_ne (kk.owns hb (fun g hg hm => owns_ne2 hb hc (by decide) g hg (by simpa using hm))) hB1 (by decide) (by simp at hm; rw [hg, hm])), by rw [List.length_append]; exact ownsRow_setCell_other hown (owns_ne hown hB1 (by decide)) _, (hK.trans kk (fun x hx => .inr (owns_new hc x hx))).trans ks (by intro x hx; right; simp at hx; omega), h1, h2⟩

theorem seven_sets {w : World} {b t : Nat} {y0 y1 y2 y3 y4 y5 y6 : Value} (h : Blk w b t #[y0, y1, y2, y3, y4, y5, y6]) (x0 x1 x2 x3 x4 x5 x6 : Value) :
    Blk (((((((w.setCell ⟨b, 0, none⟩ x0).setCell ⟨b, 1, none⟩ x1).setCell ⟨b, 2, none⟩ x2).setCell ⟨b, 3, none⟩ x3).setCell ⟨b, 4, none⟩ x4).setCell ⟨b, 5, none⟩ x5).setCell ⟨b, 6, none⟩ x6) b t #[x0, x1, x2, x3, x4, x5, x6] ∧
    Keep [b] w (((((((w.setCell ⟨b, 0, none⟩ x0).setCell ⟨b, 1, none⟩ x1).setCell ⟨b, 2, none⟩ x2).setCell ⟨b, 3, none⟩ x3).setCell ⟨b, 4, none⟩ x4).setCell ⟨b, 5, none⟩ x5).setCell ⟨b, 6, none⟩ x6) := by
  constructor
  · have h0 : Blk _ b t #[x0, y1, y2, y3, y4, y5, y6] := h.set 0 x0
    have h1 : Blk _ b t #[x0, x1, y2, y3, y4, y5, y6] := h0.set 1 x1
    have h2 : Blk _ b t #[x0, x1, x2, y3, y4, y5, y6] := h1.set 2 x2
    have h3 : Blk _ b t #[x0, x1, x2, x3, y4, y5, y6] := h2.set 3 x3
    have h4 : Blk _ b t #[x0, x1, x2, x3, x4, y5, y6] := h3.set 4 x4
    have h5 : Blk _ b t #[x0, x1, x2, x3, x4, x5, y6] := h4.set 5 x5
    exact h5.set 6 x6
  · have k : ∀ (w : World) (i : Nat) (x : Value), Keep [b] w (w.setCell ⟨b, i, none⟩ x) := fun w i x => Keep.setCell _ _ _ (by simp)
    exact ((((((k _ _ _).trans' (k _ _ _)).trans' (k _ _ _)).trans' (k _ _ _)).trans' (k _ _ _)).trans' (k _ _ _)).trans' (k _ _ _)
theorem cells7 {w : World} {b : Nat} {y0 y1 y2 y3 y4 y5 y6 : Value} (h : Blk w b 44 #[y0, y1, y2, y3, y4, y5, y6]) :
    w.cell? ⟨b, 0, none⟩ = some y0 ∧ w.cell? ⟨b, 1, none⟩ = some y1 ∧ w.cell? ⟨b, 2, none⟩ = some y2 ∧ w.cell? ⟨b, 3, none⟩ = some y3 ∧ w.cell? ⟨b, 4, none⟩ = some y4 ∧ w.cell? ⟨b, 5, none⟩ = some y5 ∧ w.cell? ⟨b, 6, none⟩ = some y6 :=
  ⟨h.cell 0, h.cell 1, h.cell 2, h.cell 3, h.cell 4, h.cell 5, h.cell 6⟩

theorem kindCells_snoc (ts : List Tok) (x : Tok) : kindCells (ts ++ [x]) = kindCells ts ++ [.int .u8 x.2.2] := by simp [kindCells]
theorem offCells_snoc (ts : List Tok) (x : Tok) : offCells (ts ++ [x]) = offCells ts ++ [.int .i32 x.2.1] := by simp [offCells]
theorem textCells_snoc (ts : List Tok) (x : Tok) : textCells (ts ++ [x]) = textCells ts ++ [.string x.1] := by simp [textCells]

set_option maxRecDepth 100000 in
set_option maxHeartbeats 2000000 in
/-- addTok. -/
theorem f39_any (w0 w : World) (hK : Keep [] w0 w) (r : Value) (M : Want) (h : WantIs w w0.heap.size r M) (k at_ : Int) (s : ByteArray) (hn : M.ts.length ≤ 1000000) (ha : 0 ≤ at_) (ha' : at_ ≤ 100000000) (hk : 0 ≤ k) (hk' : k ≤ 255) :
    Calls Try.prog 39 #[r, .int .u8 k, .int .i64 at_, .string s] w fun e w' => ∃ r', e = .returned r' ∧ WantIs w' w0.heap.size r' ⟨M.off, M.ts ++ [(s, at_, k)], M.op, M.push, M.er⟩ ∧ Keep [] w0 w' ∧ ∀ bb t cs, Blk w bb t cs → t ≠ 5 → t ≠ 21 → t ≠ 9 → Blk w' bb t cs := by
  obtain ⟨off, ts, op, push, er⟩ := M
  obtain ⟨a, b, c, rfl, hra, hrb, hrc⟩ := h
  simp only at hra hrb hrc hn
  obtain ⟨x0, x1, x2, rfl⟩ := owns_slice hra
  obtain ⟨y0, y1, y2, rfl⟩ := owns_slice hrb
  obtain ⟨z0, z1, z2, rfl⟩ := owns_slice hrc
  have hsz := hK.size
  have hT : TokBox w0 ((w.alloc (.cells (wantC off (.slice x0 x1 x2) (.slice y0 y1 y2) (.slice z0 z1 z2) op push er) 44)).alloc (.cells zeroWant 44)) w.heap.size (w.heap.size + 1) off op push er (.slice x0 x1 x2) (.slice y0 y1 y2) (.slice z0 z1 z2) (kindCells ts) (offCells ts) (textCells ts) := by
    have l1 : (kindCells ts).length = ts.length := by simp [kindCells]
    have l2 : (offCells ts).length = ts.length := by simp [offCells]
    have l3 : (textCells ts).length = ts.length := by simp [textCells]
    refine ⟨(Blk.new _ _ _).alloc _, Blk.newAt (by simp), ?_, ?_, ?_, hK.trans' ((Keep.alloc _ _ _).trans' (Keep.alloc _ _ _)), hsz, by omega⟩
    · rw [l1]; exact (hra.alloc _).alloc _
    · rw [l2]; exact (hrb.alloc _).alloc _
    · rw [l3]; exact (hrc.alloc _).alloc _
  obtain ⟨S, hS⟩ : ∃ S, S = (Value.slice x0 x1 x2).ownBlock.toList ++ (Value.slice y0 y1 y2).ownBlock.toList ++ (Value.slice z0 z1 z2).ownBlock.toList := ⟨_, rfl⟩
  have sx : ∀ x ∈ (Value.slice x0 x1 x2).ownBlock.toList, x ∈ S := fun x hx => by rw [hS]; simp only [List.mem_append]; exact .inl (.inl hx)
  have sy : ∀ x ∈ (Value.slice y0 y1 y2).ownBlock.toList, x ∈ S := fun x hx => by rw [hS]; simp only [List.mem_append]; exact .inl (.inr hx)
  have sz : ∀ x ∈ (Value.slice z0 z1 z2).ownBlock.toList, x ∈ S := fun x hx => by rw [hS]; simp only [List.mem_append]; exact .inr hx
  have far : ∀ bb t cs, Blk w bb t cs → t ≠ 5 → t ≠ 21 → t ≠ 9 → bb ∉ S := fun bb t cs hb h1 h2 h3 hm => by
    rw [hS] at hm
    simp only [List.mem_append] at hm
    rcases hm with (hm | hm) | hm
    · exact owns_far hra hb h1 hm
    · exact owns_far hrb hb h2 hm
    · exact owns_far hrc hb h3 hm
  have kS : Keep S w ((w.alloc (.cells (wantC off (.slice x0 x1 x2) (.slice y0 y1 y2) (.slice z0 z1 z2) op push er) 44)).alloc (.cells zeroWant 44)) := (Keep.alloc _ _ _).trans' (Keep.alloc _ _ _)
  have HS := hidden kS
  have Hsx := hidden sx
  have Hsy := hidden sy
  have Hsz := hidden sz
  have Hfar := hidden far
  clear sx sy sz far kS hS
  have HT := hidden hT
  have hl1 : (kindCells ts).length = ts.length := by simp [kindCells]
  have hl2 : (offCells ts).length = ts.length := by simp [offCells]
  have hl3 : (textCells ts).length = ts.length := by simp [textCells]
  have Hl1 := hidden hl1
  have Hl2 := hidden hl2
  have Hl3 := hidden hl3
  clear hT hra hrb hrc hl1 hl2 hl3
  go_enter Try.func39, Try.ntmps39
  go_upto_region 1 with fail
  have hT := HT.out
  have kS := HS.out
  clear HS
  generalize ((w.alloc (.cells (wantC off (.slice x0 x1 x2) (.slice y0 y1 y2) (.slice z0 z1 z2) op push er) 44)).alloc (.cells zeroWant 44)) = wa at *
  clear HT
  obtain ⟨q0, q1, q2, q3, q4, q5, q6⟩ := cells7 hT.1
  have hown1 := hT.2.2.1
  rw [Hl1.out] at hown1
  have hle := hT.2.2.2.2.2.1.size
  obtain ⟨i0, hi, hz0, hz1, hz2⟩ := info_parts info5'
  go_wp2_with (at_builtin; refine wpList_append_lies _ rfl (.tmp 10) (.tmp 12) 22 rfl w0.heap.size 5 i0 (.int .u8 0) 1 1 Try.underlying22 hi hz0 hz1 hz2 rfl (by decide) (.slice x0 x1 x2) ts.length (kindCells ts) rfl (by exact (hown1.alloc _)) ⟨wa.heap.size, 0, none⟩ 1 1 [.int .u8 k] rfl rfl ?c1 ?c2 (by decide) ?c3 ?c4 ?c5 (wa.heap.size + 1) ?c6 ?_)
  case c1 => exact World.news_of_block (heap_alloc_new wa _)
  case c2 => intro u hu; simp at hu; subst hu; rfl
  case c3 => unfold maxLen; omega
  case c4 => omega
  case c5 => simp; omega
  case c6 => simp
  intro g1 n1 w1 hown hgrow hat hlt1
  have kS' := (kS.trans (keep_app (Keep.alloc [] _ _) hgrow) (fun x hx => .inl (Hsx.out x hx))).trans (Keep.setCell (S := [w.heap.size]) w1 ⟨w.heap.size, 1, none⟩ (.slice (some ⟨g1, 0, none⟩) (ts.length + 1) n1) (by simp)) (fun x hx => .inr (by simp at hx; omega))
  have HS := hidden kS'
  clear kS kS'
  have T := tok_a hT (Keep.alloc _ _ _) hgrow (by rw [Hl1.out]; exact hown)
  obtain ⟨⟨kc, kf⟩, T⟩ := T
  have HT := hidden T
  clear hT hown1 hle hown hgrow hat T hi hz0 hz1 hz2 i0 q0 q1 q2 q3 q4 q5 q6
  go_upto_region 2 with fail
  have hT := HT.out
  have kS := HS.out
  clear HS
  clear kc kf HT
  generalize (w1.setCell ⟨w.heap.size, 1, none⟩ (.slice (some ⟨g1, 0, none⟩) (ts.length + 1) n1)) = wb at *
  obtain ⟨q0, q1, q2, q3, q4, q5, q6⟩ := cells7 hT.1
  have hown1 := hT.2.2.2.1
  rw [Hl2.out] at hown1
  have hle := hT.2.2.2.2.2.1.size
  obtain ⟨i0, hi, hz0, hz1, hz2⟩ := info_parts info21
  go_wp2_with (at_builtin; refine wpList_append_lies _ rfl (.tmp 16) (.tmp 19) 25 rfl w0.heap.size 21 i0 (.int .i32 0) 1 4 Try.underlying25 hi hz0 hz1 hz2 rfl (by decide) (.slice y0 y1 y2) ts.length (offCells ts) rfl (by exact (hown1.alloc _)) ⟨wb.heap.size, 0, none⟩ 1 1 [.int .i32 at_] rfl rfl ?c1 ?c2 (by decide) ?c3 ?c4 ?c5 (wb.heap.size + 1) ?c6 ?_)
  case c1 => exact World.news_of_block (heap_alloc_new wb _)
  case c2 => intro u hu; simp at hu; subst hu; rfl
  case c3 => unfold maxLen; omega
  case c4 => omega
  case c5 => simp; omega
  case c6 => simp
  intro g2 n2 w2 hown hgrow hat hlt2
  have kS' := (kS.trans (keep_app (Keep.alloc [] _ _) hgrow) (fun x hx => .inl (Hsy.out x hx))).trans (Keep.setCell (S := [w.heap.size]) w2 ⟨w.heap.size, 2, none⟩ (.slice (some ⟨g2, 0, none⟩) (ts.length + 1) n2) (by simp)) (fun x hx => .inr (by simp at hx; omega))
  have HS := hidden kS'
  clear kS kS'
  have T := tok_b hT (Keep.alloc _ _ _) hgrow (by rw [Hl2.out]; exact hown)
  obtain ⟨⟨kc, kf⟩, T⟩ := T
  have HT := hidden T
  clear hT hown1 hle hown hgrow hat T hi hz0 hz1 hz2 i0 q0 q1 q2 q3 q4 q5 q6
  go_upto_region 3 with fail
  have hT := HT.out
  have kS := HS.out
  clear HS
  clear kc kf HT
  generalize (w2.setCell ⟨w.heap.size, 2, none⟩ (.slice (some ⟨g2, 0, none⟩) (ts.length + 1) n2)) = wc at *
  obtain ⟨q0, q1, q2, q3, q4, q5, q6⟩ := cells7 hT.1
  have hown1 := hT.2.2.2.2.1
  rw [Hl3.out] at hown1
  have hle := hT.2.2.2.2.2.1.size
  obtain ⟨i0, hi, hz0, hz1, hz2⟩ := info_parts info9
  go_wp2_with (at_builtin; refine wpList_append_lies _ rfl (.tmp 23) (.tmp 25) 26 rfl w0.heap.size 9 i0 (.string ⟨#[]⟩) 1 16 Try.underlying26 hi hz0 hz1 hz2 rfl (by decide) (.slice z0 z1 z2) ts.length (textCells ts) rfl (by exact (hown1.alloc _)) ⟨wc.heap.size, 0, none⟩ 1 1 [.string s] rfl rfl ?c1 ?c2 (by decide) ?c3 ?c4 ?c5 (wc.heap.size + 1) ?c6 ?_)
  case c1 => exact World.news_of_block (heap_alloc_new wc _)
  case c2 => intro u hu; simp at hu; subst hu; rfl
  case c3 => unfold maxLen; omega
  case c4 => omega
  case c5 => simp; omega
  case c6 => simp
  intro g3 n3 w3 hown hgrow hat hlt3
  have kS' := (kS.trans (keep_app (Keep.alloc [] _ _) hgrow) (fun x hx => .inl (Hsz.out x hx))).trans (Keep.setCell (S := [w.heap.size]) w3 ⟨w.heap.size, 3, none⟩ (.slice (some ⟨g3, 0, none⟩) (ts.length + 1) n3) (by simp)) (fun x hx => .inr (by simp at hx; omega))
  have HS := hidden kS'
  clear kS kS'
  have T := tok_c hT (Keep.alloc _ _ _) hgrow (by rw [Hl3.out]; exact hown)
  obtain ⟨⟨kc, kf⟩, T⟩ := T
  have HT := hidden T
  clear hT hown1 hle hown hgrow hat T hi hz0 hz1 hz2 i0 q0 q1 q2 q3 q4 q5 q6
  go_upto_region 4 with fail
  have hT := HT.out
  have kS := HS.out
  clear HS
  clear kc kf HT
  generalize (w3.setCell ⟨w.heap.size, 3, none⟩ (.slice (some ⟨g3, 0, none⟩) (ts.length + 1) n3)) = wd at *
  obtain ⟨hB, hR, ra, rb, rc, hKd, _, _⟩ := hT
  obtain ⟨q0, q1, q2, q3, q4, q5, q6⟩ := cells7 hB
  obtain ⟨z0', z1', z2', z3', z4', z5', z6'⟩ := cells7 hR
  have hfz := hR.free
  have fin : ∀ W, Keep [w.heap.size + 1] wd W → WantIs W w0.heap.size (.agg (wantC off (.slice (some ⟨g1, 0, none⟩) (ts.length + 1) n1) (.slice (some ⟨g2, 0, none⟩) (ts.length + 1) n2) (.slice (some ⟨g3, 0, none⟩) (ts.length + 1) n3) op push er)) ⟨off, ts ++ [(s, at_, k)], op, push, er⟩ ∧ Keep [] w0 W ∧ ∀ bb t cs, Blk w bb t cs → t ≠ 5 → t ≠ 21 → t ≠ 9 → Blk W bb t cs := by
    intro W hW
    have go1 : ∀ {t n : Nat} {v : Value} {xs : List Value}, wd.ownsRow w0.heap.size t 1 v n xs → (44 : Nat) ≠ t → W.ownsRow w0.heap.size t 1 v n xs := by
      intro t n v xs h hne
      refine hW.owns h fun g hg hm => ?_
      simp at hm
      subst hm
      exact owns_ne h hR hne hg
    refine ⟨⟨_, _, _, rfl, ?_, ?_, ?_⟩, hKd.trans hW (by intro x hx; right; simp at hx; omega), fun bb t cs hb e1 e2 e3 => hW.blk (kS.blk hb (Hfar.out bb t cs hb e1 e2 e3)) (by have := hb.lt; simp; omega)⟩
    · have := go1 ra (by decide)
      simp only [kindCells_snoc, List.length_append, List.length_singleton, Hl1.out] at this ⊢
      exact this
    · have := go1 rb (by decide)
      simp only [offCells_snoc, List.length_append, List.length_singleton, Hl2.out] at this ⊢
      exact this
    · have := go1 rc (by decide)
      simp only [textCells_snoc, List.length_append, List.length_singleton, Hl3.out] at this ⊢
      exact this
  have Hfin := hidden fin
  have HR := hidden hR
  clear fin kS hB hR ra rb rc hKd Hl1 Hl2 Hl3
  go_wp2
  obtain ⟨q, qk⟩ := seven_sets (w := wd) (b := w.heap.size + 1) (t := 44) HR.out (.int .i64 off) (.slice (some ⟨g1, 0, none⟩) (ts.length + 1) n1) (.slice (some ⟨g2, 0, none⟩) (ts.length + 1) n2) (.slice (some ⟨g3, 0, none⟩) (ts.length + 1) n3) (.int .i64 op) (.int .i64 push) (.bool er)
  have hf := Hfin.out _ qk
  obtain ⟨q0, q1, q2, q3, q4, q5, q6⟩ := cells7 q
  clear Hfin HR qk q
  generalize (((((((wd.setCell ⟨w.heap.size + 1, 0, none⟩ (.int .i64 off)).setCell ⟨w.heap.size + 1, 1, none⟩ (.slice (some ⟨g1, 0, none⟩) (ts.length + 1) n1)).setCell ⟨w.heap.size + 1, 2, none⟩ (.slice (some ⟨g2, 0, none⟩) (ts.length + 1) n2)).setCell ⟨w.heap.size + 1, 3, none⟩ (.slice (some ⟨g3, 0, none⟩) (ts.length + 1) n3)).setCell ⟨w.heap.size + 1, 4, none⟩ (.int .i64 op)).setCell ⟨w.heap.size + 1, 5, none⟩ (.int .i64 push)).setCell ⟨w.heap.size + 1, 6, none⟩ (.bool er)) = W at *
  refine bodyPost_ret (v := .agg (wantC off (.slice (some ⟨g1, 0, none⟩) (ts.length + 1) n1) (.slice (some ⟨g2, 0, none⟩) (ts.length + 1) n2) (.slice (some ⟨g3, 0, none⟩) (ts.length + 1) n3) op push er)) ?_ rfl ⟨_, rfl, hf⟩
  simp [results, Try.results39, go_sem, q0, q1, q2, q3, q4, q5, q6]

/-- Behind an addTok: its answer is stored into the variable. -/
theorem box_store {w0 wN : World} {bB bR : Nat} {y0 y1 y2 y3 y4 y5 y6 : Value} {M : Want} {a b c : Value} (hB : Blk wN bB 44 #[y0, y1, y2, y3, y4, y5, y6]) (hR : Blk wN bR 44 zeroWant)
    (ra : wN.ownsRow w0.heap.size 5 1 a M.ts.length (kindCells M.ts)) (rb : wN.ownsRow w0.heap.size 21 1 b M.ts.length (offCells M.ts)) (rc : wN.ownsRow w0.heap.size 9 1 c M.ts.length (textCells M.ts)) (hK : Keep [] w0 wN) (h1 : w0.heap.size ≤ bB) (h2 : bB ≠ bR) :
    TokBox w0 (((((((wN.setCell ⟨bB, 0, none⟩ (.int .i64 M.off)).setCell ⟨bB, 1, none⟩ a).setCell ⟨bB, 2, none⟩ b).setCell ⟨bB, 3, none⟩ c).setCell ⟨bB, 4, none⟩ (.int .i64 M.op)).setCell ⟨bB, 5, none⟩ (.int .i64 M.push)).setCell ⟨bB, 6, none⟩ (.bool M.er)) bB bR M.off M.op M.push M.er a b c (kindCells M.ts) (offCells M.ts) (textCells M.ts) := by
  obtain ⟨q, qk⟩ := seven_sets hB (.int .i64 M.off) a b c (.int .i64 M.op) (.int .i64 M.push) (.bool M.er)
  generalize (((((((wN.setCell ⟨bB, 0, none⟩ (.int .i64 M.off)).setCell ⟨bB, 1, none⟩ a).setCell ⟨bB, 2, none⟩ b).setCell ⟨bB, 3, none⟩ c).setCell ⟨bB, 4, none⟩ (.int .i64 M.op)).setCell ⟨bB, 5, none⟩ (.int .i64 M.push)).setCell ⟨bB, 6, none⟩ (.bool M.er)) = W at *
  have go1 : ∀ {t n : Nat} {v : Value} {xs : List Value}, wN.ownsRow w0.heap.size t 1 v n xs → (44 : Nat) ≠ t → W.ownsRow w0.heap.size t 1 v n xs := by
    intro t n v xs h hne
    refine qk.owns h fun g hg hm => ?_
    simp at hm
    subst hm
    exact owns_ne h hB hne hg
  have l1 : (kindCells M.ts).length = M.ts.length := by simp [kindCells]
  have l2 : (offCells M.ts).length = M.ts.length := by simp [offCells]
  have l3 : (textCells M.ts).length = M.ts.length := by simp [textCells]
  exact ⟨q, qk.blk hR (by simpa using Ne.symm h2), by rw [l1]; exact go1 ra (by decide), by rw [l2]; exact go1 rb (by decide), by rw [l3]; exact go1 rc (by decide), hK.trans qk (by intro x hx; right; simp at hx; omega), h1, h2⟩

/-- A field of the want that is no row is set. -/
theorem tok_set {w0 wa : World} {bB bR : Nat} {off op push op' push' off' : Int} {er er' : Bool} {a b c x : Value} {na nb nc : List Value} {i : Nat} (h : TokBox w0 wa bB bR off op push er a b c na nb nc) (he : (wantC off a b c op push er).setIfInBounds i x = wantC off' a b c op' push' er') :
    TokBox w0 (wa.setCell ⟨bB, i, none⟩ x) bB bR off' op' push' er' a b c na nb nc := by
  obtain ⟨hB, hR, ha, hb, hc, hK, h1, h2⟩ := h
  have ks : Keep [bB] wa (wa.setCell ⟨bB, i, none⟩ x) := Keep.setCell _ _ _ (by simp)
  have go1 : ∀ {t n : Nat} {v : Value} {xs : List Value}, wa.ownsRow w0.heap.size t 1 v n xs → (44 : Nat) ≠ t → (wa.setCell ⟨bB, i, none⟩ x).ownsRow w0.heap.size t 1 v n xs := by
    intro t n v xs h hne
    refine ks.owns h fun g hg hm => ?_
    simp at hm
    subst hm
    exact owns_ne h hB hne hg
  exact ⟨by rw [← he]; exact hB.set i x, ks.blk hR (by simpa using Ne.symm h2), go1 ha (by decide), go1 hb (by decide), go1 hc (by decide), hK.trans ks (by intro x hx; right; simp at hx; omega), h1, h2⟩

/-- The want is handed back. -/
theorem tok_fin {w0 wa W : World} {bB bR : Nat} {off op push : Int} {er : Bool} {a b c : Value} {ts : List Tok} (h : TokBox w0 wa bB bR off op push er a b c (kindCells ts) (offCells ts) (textCells ts)) (hW : Keep [bR] wa W) (hb : w0.heap.size ≤ bR) :
    WantIs W w0.heap.size (.agg (wantC off a b c op push er)) ⟨off, ts, op, push, er⟩ ∧ Keep [] w0 W := by
  obtain ⟨hB, hR, ra, rb, rc, hK, h1, h2⟩ := h
  have l1 : (kindCells ts).length = ts.length := by simp [kindCells]
  have l2 : (offCells ts).length = ts.length := by simp [offCells]
  have l3 : (textCells ts).length = ts.length := by simp [textCells]
  rw [l1] at ra
  rw [l2] at rb
  rw [l3] at rc
  have go1 : ∀ {t n : Nat} {v : Value} {xs : List Value}, wa.ownsRow w0.heap.size t 1 v n xs → (44 : Nat) ≠ t → W.ownsRow w0.heap.size t 1 v n xs := by
    intro t n v xs h hne
    refine hW.owns h fun g hg hm => ?_
    simp at hm
    subst hm
    exact owns_ne h hR hne hg
  exact ⟨⟨a, b, c, rfl, go1 ra (by decide), go1 rb (by decide), go1 rc (by decide)⟩, hK.trans hW (by intro x hx; right; simp at hx; omega)⟩
end Go.Proofs.Qxb6601273a
