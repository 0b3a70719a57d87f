import Derived.Test.Qxb6601273aZStr
namespace Go.Proofs.Qxb6601273a
open Go.RowKit
set_option linter.unusedVariables false

def indStop (bs : List UInt8) (p : Nat) : Bool := decide (byteAt bs p = 39) && decide (byteAt bs (p + 1) = 39)
def indInt (bs : List UInt8) (p : Nat) : Bool := decide (byteAt bs p = 36) && decide (byteAt bs (p + 1) = 123)
def indDol (bs : List UInt8) (p : Nat) : Bool := decide (byteAt bs p = 36) && decide (byteAt bs (p + 1) ≠ 39) && decide (p + 1 < bs.length)

/-- What 'indStringPart' reads from p on, with acc gathered: (0: two quotes | 1: a dollar and a brace | 3: the end, at which place, the text). -/
def indScan (bs : List UInt8) : Nat → Nat → List UInt8 → Nat × Nat × List UInt8
  | 0, p, acc => (3, p, acc)
  | f + 1, p, acc =>
    if bs.length ≤ p then (3, p, acc)
    else if indStop bs p = true then (0, p, acc)
    else if indInt bs p = true then (1, p, acc)
    else if indDol bs p = true then indScan bs f (p + 2) (acc ++ [atU bs p, atU bs (p + 1)])
    else indScan bs f (p + 1) (acc ++ [atU bs p])

theorem ind_end {bs : List UInt8} {f p : Nat} {acc : List UInt8} (h : bs.length ≤ p) : indScan bs (f + 1) p acc = (3, p, acc) := by
  unfold indScan; rw [if_pos h]
theorem ind_stop {bs : List UInt8} {f p : Nat} {acc : List UInt8} (h : p < bs.length) (hs : indStop bs p = true) : indScan bs (f + 1) p acc = (0, p, acc) := by
  unfold indScan; rw [if_neg (by omega), if_pos hs]
theorem ind_int {bs : List UInt8} {f p : Nat} {acc : List UInt8} (h : p < bs.length) (hs : indStop bs p = false) (hi : indInt bs p = true) : indScan bs (f + 1) p acc = (1, p, acc) := by
  unfold indScan; rw [if_neg (by omega), if_neg (by rw [hs]; decide), if_pos hi]
theorem ind_dol {bs : List UInt8} {f p : Nat} {acc : List UInt8} (h : p < bs.length) (hs : indStop bs p = false) (hi : indInt bs p = false) (hd : indDol bs p = true) : indScan bs (f + 1) p acc = indScan bs f (p + 2) (acc ++ [atU bs p, atU bs (p + 1)]) := by
  conv => lhs; unfold indScan
  rw [if_neg (by omega), if_neg (by rw [hs]; decide), if_neg (by rw [hi]; decide), if_pos hd]
theorem ind_oth {bs : List UInt8} {f p : Nat} {acc : List UInt8} (h : p < bs.length) (hs : indStop bs p = false) (hi : indInt bs p = false) (hd : indDol bs p = false) : indScan bs (f + 1) p acc = indScan bs f (p + 1) (acc ++ [atU bs p]) := by
  conv => lhs; unfold indScan
  rw [if_neg (by omega), if_neg (by rw [hs]; decide), if_neg (by rw [hi]; decide), if_neg (by rw [hd]; decide)]

/-- The answer at two quotes that stand at p. -/
def quoAns (bs : List UInt8) (p : Nat) (lt : List Tok) (os : List Op3) (o : Op3) : Ans :=
  if byteAt bs (p + 2) = 39 then ⟨p + 3, lt ++ [((⟨#[39, 39]⟩ : ByteArray), (p : Int), 9)], os ++ [o], false, 0, ⟨#[]⟩⟩
  else if byteAt bs (p + 2) = 36 then ⟨p + 3, lt ++ [((⟨#[36]⟩ : ByteArray), (p : Int), 9)], os ++ [o], false, 0, ⟨#[]⟩⟩
  else if byteAt bs (p + 2) = 92 then
    (if bs.length ≤ p + 3 then ⟨p, lt, os ++ [o], true, o.1, unterm⟩
    else ⟨p + 4, lt ++ [(Utf8.encode (unescI (byteAt bs (p + 3))), (p : Int), 9)], os ++ [o], false, 0, ⟨#[]⟩⟩)
  else ⟨p + 2, lt ++ [((⟨#[]⟩ : ByteArray), (p : Int), 10)], os, false, 0, ⟨#[]⟩⟩

def indAns (bs : List UInt8) (R : Nat × Nat × List UInt8) (off : Nat) (os : List Op3) (o : Op3) : Ans :=
  if R.1 = 0 then quoAns bs R.2.1 (litTok off R.2.2) os o
  else if R.1 = 1 then ⟨R.2.1 + 2, litTok off R.2.2 ++ [((⟨#[]⟩ : ByteArray), (R.2.1 : Int), 7)], os ++ [o] ++ [((R.2.1 : Int), 0, 0)], false, 0, ⟨#[]⟩⟩
  else ⟨R.2.1, [], os ++ [o], true, o.1, unterm⟩

theorem quoAns_small (bs : List UInt8) (p : Nat) (lt : List Tok) (os : List Op3) (o : Op3) (hl : lt.length ≤ 1) (h : os.length ≤ 100000) : (quoAns bs p lt os o).ts.length ≤ 1000000 ∧ (quoAns bs p lt os o).os.length ≤ 1000000 := by
  unfold quoAns
  repeat' split
  all_goals simp only [List.length_append, List.length_cons, List.length_nil]; omega
theorem indAns_small (bs : List UInt8) (R : Nat × Nat × List UInt8) (off : Nat) (os : List Op3) (o : Op3) (h : os.length ≤ 100000) : (indAns bs R off os o).ts.length ≤ 1000000 ∧ (indAns bs R off os o).os.length ≤ 1000000 := by
  have hl := litTok_length off R.2.2
  unfold indAns
  split
  · exact quoAns_small bs _ _ os o hl h
  · split
    · simp only [List.length_append, List.length_cons, List.length_nil]; omega
    · simp only [List.length_append, List.length_cons, List.length_nil]; omega

/-- The three boxes of 'indStringPart': the lexer, the start, the text. -/
def IndBox (wr : World) (b L off : Nat) (tx : Value) : Prop :=
  Blk wr b 50 #[.pointer (some ⟨L, 0, none⟩)] ∧ Blk wr (b + 1) 3 #[.int .i64 off] ∧ Blk wr (b + 2) 22 #[tx]

theorem IndBox.cells {wr : World} {b L off : Nat} {tx : Value} (h : IndBox wr b L off tx) :
    wr.cell? ⟨b, 0, none⟩ = some (.pointer (some ⟨L, 0, none⟩)) ∧ wr.cell? ⟨b + 1, 0, none⟩ = some (.int .i64 off) ∧ wr.cell? ⟨b + 2, 0, none⟩ = some tx ∧ wr.frozen? ⟨b + 2, 0, none⟩ = false :=
  ⟨h.1.cell 0, h.2.1.cell 0, h.2.2.cell 0, h.2.2.free 0⟩
theorem IndBox.drewN {wr : World} {b L off : Nat} {tx : Value} (h : IndBox wr b L off tx) (n : Nat) : IndBox (wr.drewN n) b L off tx := ⟨h.1.drewN n, h.2.1.drewN n, h.2.2.drewN n⟩
theorem IndBox.fr {w w' : World} {b L base off : Nat} {tx : Value} (h : IndBox w b L off tx) (hF : Fr L base w w') (hL : ∃ cs, Blk w L 66 cs) : IndBox w' b L off tx := by
  obtain ⟨cs, hL⟩ := hL
  exact ⟨hF.2.2.2.2.1 _ _ _ h.1 (h.1.ne hL (by decide)) (.inr ⟨by decide, by decide⟩), hF.2.2.2.2.1 _ _ _ h.2.1 (h.2.1.ne hL (by decide)) (.inr ⟨by decide, by decide⟩), hF.2.2.2.2.1 _ _ _ h.2.2 (h.2.2.ne hL (by decide)) (.inr ⟨by decide, by decide⟩)⟩

/-- The loop's relation. -/
def IndRel (w : World) (L base off : Nat) (v : Value) (text : ByteArray) (os : List Op3) (o : Op3) (bs : List UInt8) (A : Ans) (gk : Nat) (wr : World) : Prop :=
  ∃ (p : Nat) (acc : List UInt8) (tx : Value), LexIs wr L base v text (p : Int) [] (os ++ [o]) ∧ IndBox wr w.heap.size L off tx ∧ wr.ownsRow w.heap.size 5 1 tx acc.length (byteCells acc) ∧ Fr L base w wr ∧ p ≤ bs.length ∧ acc.length ≤ p ∧ bs.length < gk + p ∧ indAns bs (indScan bs gk p acc) off os o = A

/-- One round that goes on: the text's row has grown, its box and the offset are stored. -/
theorem indRel_step {w wr X w1 : World} {L base off p p' gk : Nat} {v tx nv : Value} {text : ByteArray} {os : List Op3} {o : Op3} {bs acc news : List UInt8} {A : Ans} {q : Int}
    (hI : LexIs wr L base v text (p : Int) [] (os ++ [o])) (hB : IndBox wr w.heap.size L off tx) (hx : wr.ownsRow w.heap.size 5 1 tx acc.length (byteCells acc)) (hF : Fr L base w wr) (hX : Keep [] wr X) (hgrow : X.grownBy w1 tx.ownBlock)
    (hown : w1.ownsRow w.heap.size 5 1 nv (acc.length + news.length) (byteCells acc ++ byteCells news)) (hq : q = (p' : Int)) (hp : p' ≤ bs.length) (hac : acc.length + news.length ≤ p') (hg : bs.length < gk + p') (hsc : indAns bs (indScan bs gk p' (acc ++ news)) off os o = A) :
    IndRel w L base off v text os o bs A gk ((w1.setCell ⟨w.heap.size + 2, 0, none⟩ nv).setCell ⟨L, 2, none⟩ (.int .i64 q)) := by
  subst hq
  have kk := keep_app hX hgrow
  have h1 := hI.app hx kk
  have far : ∀ {b : Nat} {t : TypeId} {cs : Array Value}, Blk wr b t cs → t ≠ 5 → b ∉ tx.ownBlock.toList := fun hb ht => owns_far hx hb ht
  have b1 := kk.blk hB.1 (far hB.1 (by decide))
  have b2 := kk.blk hB.2.1 (far hB.2.1 (by decide))
  have b3 := kk.blk hB.2.2 (far hB.2.2 (by decide))
  have ks : Keep [w.heap.size + 2] w1 (w1.setCell ⟨w.heap.size + 2, 0, none⟩ nv) := Keep.setCell _ _ _ (by simp)
  have h1' : LexIs (w1.setCell ⟨w.heap.size + 2, 0, none⟩ nv) L base v text (p : Int) [] (os ++ [o]) := by
    obtain ⟨tv, ov, hL, ht, ho⟩ := h1
    refine ⟨tv, ov, ks.blk hL (by simpa using hL.ne b3 (by decide)), ks.owns ht ?_, ks.owns ho ?_⟩
    · intro g hg hm; simp at hm; subst hm; exact owns_ne ht b3 (by decide) hg
    · intro g hg hm; simp at hm; subst hm; exact owns_ne ho b3 (by decide) hg
  have c3 : Blk (w1.setCell ⟨w.heap.size + 2, 0, none⟩ nv) (w.heap.size + 2) 22 #[nv] := b3.set 0 nv
  have hB' : IndBox (w1.setCell ⟨w.heap.size + 2, 0, none⟩ nv) w.heap.size L off nv := ⟨ks.blk b1 (by simp), ks.blk b2 (by simp), c3⟩
  have hown' := ownsRow_setCell_other hown (a := ⟨w.heap.size + 2, 0, none⟩) (owns_ne hown b3 (by decide)) nv
  have hF' : Fr L base w (w1.setCell ⟨w.heap.size + 2, 0, none⟩ nv) := (hF.new kk (owns_new hx)).new ks (by simp)
  have h2 := h1'.setOff (p' : Int)
  obtain ⟨cs, hL1⟩ := h1'.blk
  refine ⟨p', acc ++ news, nv, h2.1, hB'.fr h2.2 ⟨cs, hL1⟩, ?_, hF'.trans h2.2, hp, by rw [List.length_append]; omega, hg, hsc⟩
  rw [List.length_append, byteCells_append]
  exact ownsRow_setCell_other hown' (owns_ne hown' hL1 (by decide)) _

set_option maxRecDepth 100000 in
set_option maxHeartbeats 1000000 in
/-- The closure 'flush': the text token, where there is text. -/
theorem f49_any (b L base off p : Nat) (v tx : Value) (text : ByteArray) (acc : List UInt8) (os : List Op3) (bb : Nat) (w : World) (h : LexIs w L base v text (p : Int) [] os) (hB : IndBox w b L off tx) (hx : w.ownsRow bb 5 1 tx acc.length (byteCells acc)) (hb : base ≤ w.heap.size) (hn : acc.length ≤ 10000000) (ho : off ≤ 10000000) :
    Calls Try.prog 49 #[.pointer (some ⟨b + 2, 0, none⟩), .pointer (some ⟨b, 0, none⟩), .pointer (some ⟨b + 1, 0, none⟩)] w fun e w' => e = .returned (.tuple #[]) ∧ LexIs w' L base v text (p : Int) (litTok off acc) os ∧ Fr L base w w' := by
  obtain ⟨c0, c1, c2, _⟩ := hB.cells
  obtain ⟨x0, l0, cx0, rfl⟩ := owns_slice hx
  have hl0 : (l0 : Nat) = acc.length := by
    rcases hx.2 with ⟨h1, h2⟩ | ⟨g', cap, cur, hv, _⟩
    · simp at h1; omega
    · simp at hv; omega
  subst hl0
  have hsx : Src w (.slice x0 acc.length cx0) acc := Src.of_owns hx
  by_cases hae : acc = []
  · subst hae
    have hr : LexIs w L base v text (p : Int) (litTok off []) os := h
    clear hB hx hsx h
    go_enter Try.func49, Try.ntmps49
    go_wp2
    go_end0
    exact ⟨rfl, hr, Fr.refl _ _ _⟩
  · have hap : (0 : Int) < (acc.length : Int) := by
      have := List.length_pos_iff.2 hae; omega
    have hcv := run_conv_src hsx
    have elit : litTok off acc = [((⟨acc.toArray⟩ : ByteArray), (off : Int), 5)] := by unfold litTok; rw [if_neg hae]
    have Helit : Hid _ := elit
    clear elit hB hx hsx
    go_enter Try.func49, Try.ntmps49
    go_wp2_with fail
    refine (emit_is L base _ text ⟨acc.toArray⟩ p off 5 [] os _ h hb (by simp) (by omega) (by omega) (by omega) (by omega)).mono ?_
    rintro e wn ⟨rfl, hIn, hFn⟩
    have r : LexIs wn L base v text (p : Int) (litTok off acc) os := by rw [Helit.out]; exact hIn
    clear hIn hcv
    go_wp2
    go_end0
    exact ⟨rfl, r, hFn⟩
end Go.Proofs.Qxb6601273a
