import Derived.Test.Qxb6601273aStrA
namespace Go.Proofs.Qxb6601273a
open Go.RowKit
set_option linter.unusedVariables false

def unescU (b : UInt8) : UInt8 := if b = 110 then 10 else if b = 116 then 9 else if b = 114 then 13 else b
theorem unescU_nat (b : UInt8) : ((unescU b).toNat : Int) = unescI (b.toNat : Int) := by
  have key : ∀ k : UInt8, ¬ b = k → ¬ ((b.toNat : Int) = (k.toNat : Int)) := fun k h e => h (UInt8.toNat_inj.1 (by omega))
  unfold unescU unescI
  by_cases h1 : b = 110
  · subst h1; rfl
  · have g1 : ¬ ((b.toNat : Int) = 110) := key 110 h1
    by_cases h2 : b = 116
    · subst h2; rfl
    · have g2 : ¬ ((b.toNat : Int) = 116) := key 116 h2
      by_cases h3 : b = 114
      · subst h3; rfl
      · have g3 : ¬ ((b.toNat : Int) = 114) := key 114 h3
        simp only [if_neg h1, if_neg h2, if_neg h3, if_neg g1, if_neg g2, if_neg g3]

def stopB (bs : List UInt8) (p : Nat) : Bool := decide (byteAt bs p = 34) || (decide (byteAt bs p = 36) && decide (byteAt bs (p + 1) = 123))
def escB (bs : List UInt8) (p : Nat) : Bool := decide (byteAt bs p = 92) && decide (p + 1 < bs.length)
def dolB (bs : List UInt8) (p : Nat) : Bool := decide (byteAt bs p = 36) && decide (byteAt bs (p + 1) ≠ 34) && decide (byteAt bs (p + 1) ≠ 92) && decide (p + 1 < bs.length)

/-- The byte at p (0 behind the end). -/
def atU (bs : List UInt8) (p : Nat) : UInt8 := bs.getD p 0
theorem atU_nat (bs : List UInt8) (p : Nat) : ((atU bs p).toNat : Int) = byteAt bs p := rfl

/-- What 'stringPart' reads from p on, with acc gathered: (0: a quote | 1: a dollar and a brace | 3: the end, at which place, the text). -/
def strScan (bs : List UInt8) : Nat → Nat → List UInt8 → Nat × Nat × List UInt8
  | 0, p, acc => (3, p, acc)
  | f + 1, p, acc =>
    if bs.length ≤ p then (3, p, acc)
    else if stopB bs p = true then (if byteAt bs p = 34 then (0, p, acc) else (1, p, acc))
    else if escB bs p = true then strScan bs f (p + 2) (acc ++ [unescU (atU bs (p + 1))])
    else if dolB bs p = true then strScan bs f (p + 2) (acc ++ [atU bs p, atU bs (p + 1)])
    else strScan bs f (p + 1) (acc ++ [atU bs p])

theorem scan_end {bs : List UInt8} {f p : Nat} {acc : List UInt8} (h : bs.length ≤ p) : strScan bs (f + 1) p acc = (3, p, acc) := by
  unfold strScan; rw [if_pos h]
theorem scan_close {bs : List UInt8} {f p : Nat} {acc : List UInt8} (h : p < bs.length) (hs : stopB bs p = true) (h1 : byteAt bs p = 34) : strScan bs (f + 1) p acc = (0, p, acc) := by
  unfold strScan; rw [if_neg (by omega), if_pos hs, if_pos h1]
theorem scan_interp {bs : List UInt8} {f p : Nat} {acc : List UInt8} (h : p < bs.length) (hs : stopB bs p = true) (h1 : byteAt bs p ≠ 34) : strScan bs (f + 1) p acc = (1, p, acc) := by
  unfold strScan; rw [if_neg (by omega), if_pos hs, if_neg h1]
theorem scan_esc {bs : List UInt8} {f p : Nat} {acc : List UInt8} (h : p < bs.length) (hs : stopB bs p = false) (he : escB bs p = true) : strScan bs (f + 1) p acc = strScan bs f (p + 2) (acc ++ [unescU (atU bs (p + 1))]) := by
  conv => lhs; unfold strScan
  rw [if_neg (by omega), if_neg (by rw [hs]; decide), if_pos he]
theorem scan_dol {bs : List UInt8} {f p : Nat} {acc : List UInt8} (h : p < bs.length) (hs : stopB bs p = false) (he : escB bs p = false) (hd : dolB bs p = true) : strScan bs (f + 1) p acc = strScan bs f (p + 2) (acc ++ [atU bs p, atU bs (p + 1)]) := by
  conv => lhs; unfold strScan
  rw [if_neg (by omega), if_neg (by rw [hs]; decide), if_neg (by rw [he]; decide), if_pos hd]
theorem scan_oth {bs : List UInt8} {f p : Nat} {acc : List UInt8} (h : p < bs.length) (hs : stopB bs p = false) (he : escB bs p = false) (hd : dolB bs p = false) : strScan bs (f + 1) p acc = strScan bs f (p + 1) (acc ++ [atU bs p]) := by
  conv => lhs; unfold strScan
  rw [if_neg (by omega), if_neg (by rw [hs]; decide), if_neg (by rw [he]; decide), if_neg (by rw [hd]; decide)]

/-- The text token, where there is text. -/
def litTok (off : Nat) (acc : List UInt8) : List Tok := if acc = [] then [] else [((⟨acc.toArray⟩ : ByteArray), (off : Int), 5)]

/-- What the lexer holds behind 'stringPart', from what was read. -/
def StrPost (w : World) (L base off : Nat) (v : Value) (text : ByteArray) (os : List Op3) (o : Op3) (R : Nat × Nat × List UInt8) (e : Ending) (w' : World) : Prop :=
  Fr L base w w' ∧
  ((R.1 = 0 ∧ e = .returned (.pointer none) ∧ LexIs w' L base v text ((R.2.1 + 1 : Nat) : Int) (litTok off R.2.2 ++ [((⟨#[]⟩ : ByteArray), (R.2.1 : Int), 6)]) os) ∨
   (R.1 = 1 ∧ e = .returned (.pointer none) ∧ LexIs w' L base v text ((R.2.1 + 2 : Nat) : Int) (litTok off R.2.2 ++ [((⟨#[]⟩ : ByteArray), (R.2.1 : Int), 7)]) (os ++ [o] ++ [((R.2.1 : Int), 0, 0)])) ∨
   (R.1 = 3 ∧ LexIs w' L base v text (R.2.1 : Int) [] (os ++ [o]) ∧ ∃ E, e = .returned (.pointer (some ⟨E, 0, none⟩)) ∧ Blk w' E 73 #[.int .i64 o.1, .string unterm] ∧ w.heap.size ≤ E))

theorem Fr.new {L base : Nat} {w wr w1 : World} {S : List Nat} (h : Fr L base w wr) (hk : Keep S wr w1) (hS : ∀ x ∈ S, w.heap.size ≤ x) : Fr L base w w1 :=
  ⟨hk.os.trans h.1, hk.tape.trans h.2.1, hk.output.trans h.2.2.1, Nat.le_trans h.2.2.2.1 hk.size, fun k t cs hb hn ht => hk.blk (h.2.2.2.2.1 k t cs hb hn ht) (fun hm => by have := hS k hm; have := hb.lt; omega), fun k h1 h2 h3 => (hk.block k (Nat.lt_of_lt_of_le h1 h.2.2.2.1) (fun hm => by have := hS k hm; omega)).trans (h.2.2.2.2.2 k h1 h2 h3)⟩
theorem LexIs.app {w w' : World} {L base : Nat} {v : Value} {text : ByteArray} {off : Int} {ts : List Tok} {os : List Op3} {b n : Nat} {tx : Value} {xs : List Value} (h : LexIs w L base v text off ts os) (hx : w.ownsRow b 5 1 tx n xs) (hk : Keep tx.ownBlock.toList w w') : LexIs w' L base v text off ts os := by
  obtain ⟨tv, ov, h1, h2, h3⟩ := h
  refine ⟨tv, ov, hk.blk h1 (owns_far hx h1 (by decide)), hk.owns h2 ?_, hk.owns h3 ?_⟩
  · intro g hg hm; exact owns_ne2 h2 hx (by decide) g hg (by simpa using hm)
  · intro g hg hm; exact owns_ne2 h3 hx (by decide) g hg (by simpa using hm)
theorem owns_new {w : World} {base : Nat} {e : TypeId} {size : Nat} {v : Value} {n : Nat} {xs : List Value} (h : w.ownsRow base e size v n xs) : ∀ x ∈ v.ownBlock.toList, base ≤ x := fun x hx => (h.lt x (by simpa using hx)).1

theorem Src.cells {w : World} {sa : Option Addr} {sl sc : Nat} {bs : List UInt8} (h : Src w (.slice sa sl sc) bs) {p : Nat} (hp : p < bs.length) : ∃ g, sa = some ⟨g, 0, none⟩ ∧ ∀ k, k < bs.length → w.cell? ⟨g, k, none⟩ = some (.int .u8 (byteAt bs k)) := by
  rcases h with ⟨_, rfl⟩ | ⟨g, cap, cs, hv, _, hb, hc⟩
  · simp at hp
  · simp at hv
    exact ⟨g, hv.1, fun k hk => by rw [hb.cell, hc k hk]⟩

/-- The loop's relation. -/
def StrRel (w : World) (L base off : Nat) (v : Value) (text : ByteArray) (os : List Op3) (bs : List UInt8) (R : Nat × Nat × List UInt8) (gk : Nat) (tx : Value) (wr : World) : Prop :=
  ∃ (p : Nat) (acc : List UInt8), LexIs wr L base v text (p : Int) [] os ∧ wr.ownsRow w.heap.size 5 1 tx acc.length (byteCells acc) ∧ Fr L base w wr ∧ p ≤ bs.length ∧ acc.length ≤ p ∧ bs.length < gk + p ∧ strScan bs gk p acc = R

/-- One round that goes on. -/
theorem hidden {p : Prop} (h : p) : Hid p := h
theorem strRel_step {w wr X w1 : World} {L base off p p' gk : Nat} {v tx nv : Value} {text : ByteArray} {os : List Op3} {bs acc news : List UInt8} {R : Nat × Nat × List UInt8} {q : Int}
    (hI : LexIs wr L base v text (p : Int) [] os) (hx : wr.ownsRow w.heap.size 5 1 tx acc.length (byteCells acc)) (hF : Fr L base w wr) (hX : Keep [] wr X) (hgrow : X.grownBy w1 tx.ownBlock)
    (hown : w1.ownsRow w.heap.size 5 1 nv (acc.length + news.length) (byteCells acc ++ byteCells news)) (hq : q = (p' : Int)) (hp : p' ≤ bs.length) (hac : acc.length + news.length ≤ p') (hg : bs.length < gk + p') (hsc : strScan bs gk p' (acc ++ news) = R) :
    StrRel w L base off v text os bs R gk nv (w1.setCell ⟨L, 2, none⟩ (.int .i64 q)) := by
  subst hq
  have kk := keep_app hX hgrow
  have h1 := hI.app hx kk
  have h2 := h1.setOff (p' : Int)
  obtain ⟨cs, hL1⟩ := h1.blk
  refine ⟨p', acc ++ news, h2.1, ?_, (hF.new kk (owns_new hx)).trans h2.2, hp, by rw [List.length_append]; omega, hg, hsc⟩
  rw [List.length_append, byteCells_append]
  exact ownsRow_setCell_other hown (owns_ne hown hL1 (by decide)) _
/-- The innermost opening popped: 'l.open = l.open[:len(l.open)-1]'. -/
theorem lex_pop {w : World} {L base og oc : Nat} {v tv : Value} {text : ByteArray} {off : Int} {ts : List Tok} {os : List Op3} {o : Op3}
    (hL : Blk w L 66 (lexC v text off tv (.slice (some ⟨og, 0, none⟩) (os.length + 1) oc))) (ht : w.ownsRow base 71 3 tv ts.length (tokCells ts)) (ho : w.ownsRow base 63 3 (.slice (some ⟨og, 0, none⟩) (os.length + 1) oc) (os ++ [o]).length (openCells (os ++ [o]))) :
    LexIs (w.setCell ⟨L, 4, none⟩ (.slice (some ⟨og, 0, none⟩) os.length oc)) L base v text off ts os ∧ Fr L base w (w.setCell ⟨L, 4, none⟩ (.slice (some ⟨og, 0, none⟩) os.length oc)) := by
  have hk : Keep [L] w (w.setCell ⟨L, 4, none⟩ (.slice (some ⟨og, 0, none⟩) os.length oc)) := Keep.setCell _ _ _ (by simp)
  have hlen : (os ++ [o]).length = os.length + 1 := by simp
  have hne := owns_ne ho hL (by decide)
  rw [hlen] at ho
  obtain ⟨cur, hb, hsz, htk, hbs⟩ := owns_blk ho
  have hcap : os.length + 1 ≤ oc ∧ oc ≤ maxLen := by
    rcases ho.2 with ⟨h1, _⟩ | ⟨g', cap', cur', hv, _, _, h1, h2, _⟩
    · cases h1
    · simp at hv; obtain ⟨_, rfl⟩ := hv; exact ⟨h1, h2⟩
  have hown : w.ownsRow base 63 3 (.slice (some ⟨og, 0, none⟩) os.length oc) os.length (openCells os) := by
    refine ⟨openCells_length os, .inr ⟨og, oc, cur, rfl, hbs, hb, by omega, hcap.2, hsz, ?_⟩⟩
    have e : openCells os = (openCells (os ++ [o])).take (os.length * 3) := by
      rw [openCells_snoc, List.take_left' (openCells_length os)]
    rw [e, ← htk, List.take_take]
    congr 1; omega
  refine ⟨⟨tv, _, hL.set 4 _, hk.owns ht ?_, ownsRow_setCell_other hown (by simpa [Value.ownBlock] using hne) _⟩, hk.fr⟩
  intro g' hg hm; simp at hm; subst hm; exact owns_ne ht hL (by decide) hg
theorem LexIs.cells {w : World} {L base : Nat} {v : Value} {text : ByteArray} {off : Int} {ts : List Tok} {os : List Op3} (h : LexIs w L base v text off ts os) : w.cell? ⟨L, 0, none⟩ = some v ∧ w.cell? ⟨L, 2, none⟩ = some (.int .i64 off) ∧ w.frozen? ⟨L, 2, none⟩ = false := by
  obtain ⟨tv, ov, h1, _⟩ := h
  exact ⟨h1.cell 0, h1.cell 2, h1.free 2⟩

end Go.Proofs.Qxb6601273a
