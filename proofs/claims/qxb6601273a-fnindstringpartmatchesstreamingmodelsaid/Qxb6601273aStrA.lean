import Derived.Test.Qxb6601273aText
namespace Go.Proofs.Qxb6601273a
open Go.RowKit
set_option linter.unusedVariables false

def unescI (z : Int) : Int := if z = 110 then 10 else if z = 116 then 9 else if z = 114 then 13 else z

set_option maxHeartbeats 400000 in
theorem f48_any (z : Int) (w : World) : Calls Try.prog 48 #[.int .u8 z] w fun e w' => e = .returned (.int .u8 (unescI z)) ∧ w' = w := by
  by_cases h1 : z = 110
  · subst h1
    go_enter Try.func48, Try.ntmps48
    go_wp2
    go_ret
    exact ⟨ret_int (by decide), rfl⟩
  · have b1 : (z == 110) = false := beq_eq_false_iff_ne.2 h1
    by_cases h2 : z = 116
    · subst h2
      go_enter Try.func48, Try.ntmps48
      go_wp2
      go_ret
      exact ⟨ret_int (by decide), rfl⟩
    · have b2 : (z == 116) = false := beq_eq_false_iff_ne.2 h2
      by_cases h3 : z = 114
      · subst h3
        go_enter Try.func48, Try.ntmps48
        go_wp2
        go_ret
        exact ⟨ret_int (by decide), rfl⟩
      · have b3 : (z == 114) = false := beq_eq_false_iff_ne.2 h3
        have e : unescI z = z := by unfold unescI; rw [if_neg h1, if_neg h2, if_neg h3]
        rw [e]
        clear e h1 h2 h3
        go_enter Try.func48, Try.ntmps48
        go_wp2
        go_ret
        exact ⟨rfl, rfl⟩

def unterm : ByteArray := ⟨#[117, 110, 116, 101, 114, 109, 105, 110, 97, 116, 101, 100, 32, 115, 116, 114, 105, 110, 103]⟩

theorem opens_last {w : World} {base n : Nat} {ov : Value} {os : List Op3} {o : Op3} (h : w.ownsRow base 63 3 ov (os ++ [o]).length (openCells (os ++ [o]))) :
    ∃ g cap cur, ov = .slice (some ⟨g, 0, none⟩) (os.length + 1) cap ∧ Blk w g 63 cur ∧ os.length + 1 ≤ cap ∧ w.cell? ⟨g, os.length * 3, none⟩ = some (.int .i64 o.1) := by
  have hl : (os ++ [o]).length = os.length + 1 := by simp
  rcases h.2 with ⟨_, h0⟩ | ⟨g, cap, cur, hv, _, hb, hle, _, hsz, ht⟩
  · simp at h0
  · rw [hl] at hv hle ht
    refine ⟨g, cap, cur, hv, hb, hle, ?_⟩
    rw [(show Blk w g 63 cur from hb).cell]
    have hg := (openCells_get (os ++ [o]) os.length (by simp)).1
    rw [← ht, List.getElem?_take, if_pos (by omega)] at hg
    simpa using hg

set_option maxHeartbeats 1000000 in
theorem f46_any (L : Nat) (v tv ov : Value) (text : ByteArray) (off : Int) (os : List Op3) (o : Op3) (b2 : Nat) (w : World) (hL : Blk w L 66 (lexC v text off tv ov))
    (ho : w.ownsRow b2 63 3 ov (os ++ [o]).length (openCells (os ++ [o]))) (hn : os.length ≤ 1000000) :
    Calls Try.prog 46 #[.pointer (some ⟨L, 0, none⟩)] w fun e w' => ∃ E, e = .returned (.pointer (some ⟨E, 0, none⟩)) ∧ Blk w' E 73 #[.int .i64 o.1, .string unterm] ∧ w.heap.size ≤ E ∧ Keep [] w w' := by
  obtain ⟨g, cap, cur, rfl, hb, hle, hc⟩ := opens_last (n := 0) ho
  have c4 := hL.cell 4
  simp only [List.getElem?_toArray, List.getElem?_cons_zero, List.getElem?_cons_succ] at c4
  have hk0 : (0 : Int) ≤ (os.length : Int) := by omega
  clear hL ho hb
  go_enter Try.func46, Try.ntmps46
  go_wp2_with fail
  go_region
  all_goals go_wp2
  all_goals go_ret
  all_goals exact ⟨_, rfl, Blk.new _ _ _, Nat.le_refl _, (Keep.alloc _ _ _).trans' (Keep.drew _ _)⟩

theorem openCells_snoc (os : List Op3) (o : Op3) : openCells (os ++ [o]) = openCells os ++ [.int .i64 o.1, .int .i64 o.2.1, .int .i64 o.2.2] := by
  simp [openCells]
theorem tokCells_snoc (ts : List Tok) (x : Tok) : tokCells (ts ++ [x]) = tokCells ts ++ [.string x.1, .int .i32 x.2.1, .int .u8 x.2.2] := by
  simp [tokCells]

/-- The lexer, its tokens and its openings. -/
def LexIs (w : World) (L base : Nat) (v : Value) (text : ByteArray) (off : Int) (ts : List Tok) (os : List Op3) : Prop :=
  ∃ tv ov, Blk w L 66 (lexC v text off tv ov) ∧ w.ownsRow base 71 3 tv ts.length (tokCells ts) ∧ w.ownsRow base 63 3 ov os.length (openCells os)

/-- All but the lexer, its tokens' and its openings' rows is as it was: what lies below base, and whatever other block. -/
def Fr (L base : Nat) (w w' : World) : Prop :=
  w'.os = w.os ∧ w'.tape = w.tape ∧ w'.output = w.output ∧ w.heap.size ≤ w'.heap.size ∧ (∀ k t cs, Blk w k t cs → k ≠ L → (k < base ∨ (t ≠ 71 ∧ t ≠ 63)) → Blk w' k t cs) ∧ ∀ k, k < w.heap.size → k < base → k ≠ L → w'.heap[k]? = w.heap[k]?

theorem Fr.refl (L base : Nat) (w : World) : Fr L base w w := ⟨rfl, rfl, rfl, Nat.le_refl _, fun _ _ _ h _ _ => h, fun _ _ _ _ => rfl⟩
theorem Fr.trans {L base : Nat} {a b c : World} (h : Fr L base a b) (k : Fr L base b c) : Fr L base a c :=
  ⟨k.1.trans h.1, k.2.1.trans h.2.1, k.2.2.1.trans h.2.2.1, Nat.le_trans h.2.2.2.1 k.2.2.2.1, fun i t cs hb hn ht => k.2.2.2.2.1 i t cs (h.2.2.2.2.1 i t cs hb hn ht) hn ht, fun i h1 h2 h3 => (k.2.2.2.2.2 i (Nat.lt_of_lt_of_le h1 h.2.2.2.1) h2 h3).trans (h.2.2.2.2.2 i h1 h2 h3)⟩
theorem Keep.fr {L base : Nat} {w w' : World} (h : Keep [L] w w') : Fr L base w w' :=
  ⟨h.os, h.tape, h.output, h.size, fun k t cs hb hn _ => h.blk hb (by simpa using hn), fun k h1 _ h3 => h.block k h1 (by simpa using h3)⟩
theorem Keep.fr0 {L base : Nat} {w w' : World} (h : Keep [] w w') : Fr L base w w' := (h.mono (S' := [L]) (by simp)).fr
theorem Keep.fr_row {L base t : Nat} {w w' : World} {v : Value} {n sz : Nat} {xs : List Value} (h : Keep (L :: v.ownBlock.toList) w w') (ho : w.ownsRow base t sz v n xs) (ht : t = 71 ∨ t = 63) : Fr L base w w' :=
  ⟨h.os, h.tape, h.output, h.size, fun k t' cs hb hn hk => h.blk hb (by
    intro hm
    rcases List.mem_cons.1 hm with h1 | h1
    · exact hn h1
    · have hv : v.ownBlock = some k := by simpa using h1
      rcases hk with hk | ⟨hk1, hk2⟩
      · have := ho.lt k hv; omega
      · refine owns_ne ho hb ?_ hv
        rcases ht with rfl | rfl
        · exact hk1
        · exact hk2), fun k h1 h2 h3 => h.block k h1 (by
    intro hm
    rcases List.mem_cons.1 hm with h4 | h4
    · exact h3 h4
    · have := ho.lt k (by simpa using h4); omega)⟩
theorem Fr.src {L base : Nat} {w w' : World} {v : Value} {bs : List UInt8} (h : Fr L base w w') (hs : Src w v bs) (hL : ∃ cs, Blk w L 66 cs) : Src w' v bs := by
  obtain ⟨cs, hL⟩ := hL
  rcases hs with h1 | ⟨g, cap, c, hv, hle, hb, hc⟩
  · exact .inl h1
  · exact .inr ⟨g, cap, c, hv, hle, h.2.2.2.2.1 g 5 c hb (hb.ne hL (by decide)) (.inr ⟨by decide, by decide⟩), hc⟩
theorem Fr.owns {L base : Nat} {w w' : World} {b t n : Nat} {v : Value} {xs : List Value} (h : Fr L base w w') (ho : w.ownsRow b t 1 v n xs) (h1 : t ≠ 71) (h2 : t ≠ 63) (hL : ∃ cs, Blk w L 66 cs) (h3 : t ≠ 66) : w'.ownsRow b t 1 v n xs := by
  obtain ⟨cs, hL⟩ := hL
  refine ⟨ho.1, ?_⟩
  rcases ho.2 with h' | ⟨g, cap, cur, hv, hb, hg, r⟩
  · exact .inl h'
  · exact .inr ⟨g, cap, cur, hv, hb, h.2.2.2.2.1 g t cur hg (Blk.ne (show Blk w g t cur from hg) hL h3) (.inr ⟨h1, h2⟩), r⟩
theorem LexIs.blk {w : World} {L base : Nat} {v : Value} {text : ByteArray} {off : Int} {ts : List Tok} {os : List Op3} (h : LexIs w L base v text off ts os) : ∃ cs, Blk w L 66 cs := by
  obtain ⟨tv, ov, h, _⟩ := h; exact ⟨_, h⟩
theorem LexIs.lt {w : World} {L base : Nat} {v : Value} {text : ByteArray} {off : Int} {ts : List Tok} {os : List Op3} (h : LexIs w L base v text off ts os) : L < w.heap.size := by
  obtain ⟨tv, ov, h, _⟩ := h; exact h.lt
theorem LexIs.keep0 {w w' : World} {L base : Nat} {v : Value} {text : ByteArray} {off : Int} {ts : List Tok} {os : List Op3} (h : LexIs w L base v text off ts os) (hk : Keep [] w w') : LexIs w' L base v text off ts os := by
  obtain ⟨tv, ov, h1, h2, h3⟩ := h
  exact ⟨tv, ov, hk.blk h1 (by simp), hk.owns h2 (by simp), hk.owns h3 (by simp)⟩
theorem LexIs.drewN {w : World} {L base : Nat} {v : Value} {text : ByteArray} {off : Int} {ts : List Tok} {os : List Op3} (h : LexIs w L base v text off ts os) (n : Nat) : LexIs (w.drewN n) L base v text off ts os := h.keep0 (Keep.drewN _ _ _)
theorem LexIs.setOff {w : World} {L base : Nat} {v : Value} {text : ByteArray} {off : Int} {ts : List Tok} {os : List Op3} (h : LexIs w L base v text off ts os) (o' : Int) : LexIs (w.setCell ⟨L, 2, none⟩ (.int .i64 o')) L base v text o' ts os ∧ Fr L base w (w.setCell ⟨L, 2, none⟩ (.int .i64 o')) := by
  obtain ⟨tv, ov, h1, h2, h3⟩ := h
  have hk : Keep [L] w (w.setCell ⟨L, 2, none⟩ (.int .i64 o')) := Keep.setCell _ _ _ (by simp)
  refine ⟨⟨tv, ov, h1.setOff o', hk.owns h2 ?_, hk.owns h3 ?_⟩, hk.fr⟩
  · intro g hg hm; simp at hm; subst hm; exact owns_ne h2 h1 (by decide) hg
  · intro g hg hm; simp at hm; subst hm; exact owns_ne h3 h1 (by decide) hg

/-- 'emit', on the lexer as it is. -/
theorem emit_is (L base : Nat) (v : Value) (text s : ByteArray) (off at_ kind : Int) (ts : List Tok) (os : List Op3) (w : World) (h : LexIs w L base v text off ts os) (hb : base ≤ w.heap.size) (hn : ts.length ≤ 1000000) (ha : 0 ≤ at_) (ha' : at_ ≤ 100000000) (hk : 0 ≤ kind) (hk' : kind ≤ 255) :
    Calls Try.prog 45 #[.pointer (some ⟨L, 0, none⟩), .int .u8 kind, .int .i64 at_, .string s] w fun e w' => e = .returned (.tuple #[]) ∧ LexIs w' L base v text off (ts ++ [(s, at_, kind)]) os ∧ Fr L base w w' := by
  obtain ⟨tv, ov, hL, ht, ho⟩ := h
  refine (f45_any L base ts.length v tv ov text s off at_ kind (tokCells ts) w hL ht hb (by omega) ha ha' hk hk').mono ?_
  rintro e w' ⟨rfl, g, cap, h1, h2, h3, _⟩
  refine ⟨rfl, ⟨_, ov, h1, ?_, h3.owns ho ?_⟩, h3.fr_row ht (.inl rfl)⟩
  · rw [tokCells_snoc, List.length_append]; exact h2
  · intro g' hg hm
    rcases List.mem_cons.1 hm with e | hm
    · subst e; exact owns_ne ho hL (by decide) hg
    · exact owns_ne2 ho ht (by decide) g' hg (by simpa using hm)

theorem app_step2 {w1 w2 X : World} {L base : Nat} {v : Value} {text : ByteArray} {off : Int} {ts : List Tok} {os : List Op3} {tv ov : Value} {o : Op3} {g cap : Nat}
    (hL : Blk w1 L 66 (lexC v text off tv ov)) (ht : w1.ownsRow base 71 3 tv ts.length (tokCells ts)) (ho : w1.ownsRow base 63 3 ov os.length (openCells os)) (hX : Keep [] w1 X) (hgrow : X.grownBy w2 ov.ownBlock)
    (hown : w2.ownsRow base 63 3 (.slice (some ⟨g, 0, none⟩) (os.length + 1) cap) (os.length + 1) (openCells os ++ [.int .i64 o.1, .int .i64 o.2.1, .int .i64 o.2.2])) :
    LexIs (w2.setCell ⟨L, 4, none⟩ (.slice (some ⟨g, 0, none⟩) (os.length + 1) cap)) L base v text off ts (os ++ [o]) ∧ Fr L base w1 (w2.setCell ⟨L, 4, none⟩ (.slice (some ⟨g, 0, none⟩) (os.length + 1) cap)) := by
  have kk := keep_app hX hgrow
  have hne := owns_far ho hL (by decide)
  have hL2 := kk.blk hL hne
  have hne2 := owns_ne hown hL2 (by decide)
  have hK : Keep (L :: ov.ownBlock.toList) w1 (w2.setCell ⟨L, 4, none⟩ (.slice (some ⟨g, 0, none⟩) (os.length + 1) cap)) :=
    (kk.mono (by intro x hx; left; exact List.mem_cons_of_mem _ hx)).trans' (Keep.setCell _ _ _ (by simp))
  refine ⟨⟨tv, _, hL2.set 4 _, hK.owns ht ?_, ?_⟩, hK.fr_row ho (.inr rfl)⟩
  · intro g' hg hm
    rcases List.mem_cons.1 hm with e | hm
    · subst e; exact owns_ne ht hL (by decide) hg
    · exact owns_ne2 ht ho (by decide) g' hg (by simpa using hm)
  · rw [openCells_snoc, List.length_append]
    exact ownsRow_setCell_other hown hne2 _

set_option maxRecDepth 100000 in
set_option maxHeartbeats 1000000 in
theorem f47_any (L base q : Nat) (v : Value) (text : ByteArray) (ts : List Tok) (os : List Op3) (w : World) (h : LexIs w L base v text q ts os) (hb : base ≤ w.heap.size) (hn : ts.length ≤ 1000000) (hm : os.length ≤ 1000000) (hq : q ≤ 100000000) :
    Calls Try.prog 47 #[.pointer (some ⟨L, 0, none⟩), .int .u8 7] w fun e w' => e = .returned (.tuple #[]) ∧ LexIs w' L base v text q (ts ++ [(⟨#[]⟩, (q : Int), 7)]) (os ++ [((q : Int), 0, 0)]) ∧ Fr L base w w' := by
  have hL0 := h
  obtain ⟨tv0, ov0, hB0, _, _⟩ := hL0
  have c2 := hB0.cell 2
  simp only [List.getElem?_toArray, List.getElem?_cons_zero, List.getElem?_cons_succ] at c2
  obtain ⟨i0, hi, hz0, hz1, hz2⟩ := info_parts info63
  clear hB0
  go_enter Try.func47, Try.ntmps47
  go_wp2_with fail
  refine (emit_is L base v text ⟨#[]⟩ q q 7 ts os _ h hb hn (by omega) (by omega) (by omega) (by omega)).mono ?_
  rintro e w1 ⟨rfl, ⟨tv, ov, hL, ht, ho⟩, hF⟩
  clear c2
  have c2 := hL.cell 2
  have c4 := hL.cell 4
  have f4 := hL.free 4
  simp only [List.getElem?_toArray, List.getElem?_cons_zero, List.getElem?_cons_succ] at c2 c4
  obtain ⟨x0, l0, c0, rfl⟩ := owns_slice ho
  have hsz := hF.2.2.2.1
  have lL := hL.lt
  have n1 := owns_far ho hL (by decide)
  go_upto_region 3 with fail
  go_region_law ((refine step_append_lies _ (by rfl) (.tmp 24) (.tmp 30) 60 (by rfl) base 63 i0 (.agg #[.int .i64 0, .int .i64 0, .int .i64 0]) 3 24 Try.underlying60 hi hz0 hz1 hz2 (by rfl) (by decide) (.slice x0 l0 c0) os.length (openCells os) (by rfl) (by exact (Keep.alloc [] _ _).owns ho (by simp)) ⟨w1.heap.size, 0, none⟩ 1 1 [.int .i64 q, .int .i64 0, .int .i64 0] (by rfl) (by rfl) (by exact World.news_of_block (heap_alloc_new w1 _)) (by intro u hu; simp at hu; rcases hu with rfl | rfl <;> rfl) (by decide) (by unfold maxLen; omega) (by omega) (by simp; omega) (w1.heap.size + 1) (by simp) ?_; intro g cap w2 hown hgrow hat hlt2; have kk := keep_app (by first | exact Keep.alloc _ _ _ | exact (Keep.alloc _ _ _).trans' (Keep.drew _ _)) hgrow; have k1 := (kk.blk hL n1).cell 4; have k2 := (kk.blk hL n1).free 4))
  all_goals
    go_wp2
    go_end0
    have R := app_step2 (o := ((q : Int), 0, 0)) hL ht ho (by first | exact Keep.alloc _ _ _ | exact (Keep.alloc _ _ _).trans' (Keep.drew _ _)) hgrow hown
    exact ⟨rfl, R.1, hF.trans R.2⟩
end Go.Proofs.Qxb6601273a
