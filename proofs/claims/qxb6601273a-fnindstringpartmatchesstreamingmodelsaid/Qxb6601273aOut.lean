import Derived.Test.Qxb6601273aLexer
import Derived.Deep.DeepCutAuto
import Derived.Deep.RegionLaw
namespace Go.Proofs.Qxb6601273a
open Go.RowKit
set_option linter.unusedVariables false

abbrev Tok := ByteArray × Int × Int
def tokCells (ts : List Tok) : List Value := ts.flatMap fun t => [.string t.1, .int .i32 t.2.1, .int .u8 t.2.2]
def kindCells (ts : List Tok) : List Value := ts.map fun t => .int .u8 t.2.2
def offCells (ts : List Tok) : List Value := ts.map fun t => .int .i32 t.2.1
def textCells (ts : List Tok) : List Value := ts.map fun t => .string t.1

theorem tokCells_length (ts : List Tok) : (tokCells ts).length = ts.length * 3 := by
  induction ts with
  | nil => rfl
  | cons o os ih => simp [tokCells] at ih ⊢; omega
theorem tokCells_get : ∀ (ts : List Tok) (j : Nat) (h : j < ts.length), (tokCells ts)[j * 3]? = some (.string ts[j].1) ∧ (tokCells ts)[j * 3 + 1]? = some (.int .i32 ts[j].2.1) ∧ (tokCells ts)[j * 3 + 2]? = some (.int .u8 ts[j].2.2)
  | [], j, h => by simp at h
  | o :: os, 0, _ => by simp [tokCells]
  | o :: os, j + 1, h => by
    have ih := tokCells_get os j (by simpa using h)
    have e : tokCells (o :: os) = [.string o.1, .int .i32 o.2.1, .int .u8 o.2.2] ++ tokCells os := rfl
    rw [e]
    refine ⟨?_, ?_, ?_⟩
    · rw [List.getElem?_append_right (by simp; omega)]
      simpa [show (j + 1) * 3 - 3 = j * 3 by omega] using ih.1
    · rw [List.getElem?_append_right (by simp; omega)]
      simpa [show (j + 1) * 3 + 1 - 3 = j * 3 + 1 by omega] using ih.2.1
    · rw [List.getElem?_append_right (by simp; omega)]
      simpa [show (j + 1) * 3 + 2 - 3 = j * 3 + 2 by omega] using ih.2.2

theorem Keep.owns {S : List Nat} {w w' : World} {base : Nat} {e : TypeId} {size : Nat} {v : Value} {n : Nat} {xs : List Value} (h : Keep S w w') (ho : w.ownsRow base e size v n xs) (hn : ∀ g, v.ownBlock = some g → g ∉ S) : w'.ownsRow base e size v n xs := by
  refine ⟨ho.1, ?_⟩
  rcases ho.2 with h1 | ⟨g, cap, cur, hv, hb, hg, r⟩
  · exact .inl h1
  · exact .inr ⟨g, cap, cur, hv, hb, h.blk (show Blk w g e cur from hg) (hn g (by rw [hv]; rfl)), r⟩

theorem owns_ne2 {w : World} {base : Nat} {e : TypeId} {size : Nat} {v : Value} {n : Nat} {xs : List Value} {base' : Nat} {e' : TypeId} {size' : Nat} {v' : Value} {n' : Nat} {xs' : List Value}
    (h : w.ownsRow base e size v n xs) (h' : w.ownsRow base' e' size' v' n' xs') (hne : e ≠ e') : ∀ g, v.ownBlock = some g → v'.ownBlock ≠ some g := by
  intro g hg
  rcases h.2 with ⟨rfl, _⟩ | ⟨g1, cap, cur, rfl, _, hb, _⟩
  · simp [Value.ownBlock] at hg
  · simp [Value.ownBlock] at hg
    subst hg
    exact owns_ne h' (show Blk w g1 e cur from hb) hne

theorem keep_app {wr X w1 : World} {row : Option Nat} (hX : Keep [] wr X) (hg : X.grownBy w1 row) : Keep row.toList wr w1 :=
  (hX.mono (by simp)).trans' (Keep.grown hg (by intro k hk; rw [hk]; simp))
theorem owns_low {w : World} {base : Nat} {e : TypeId} {size : Nat} {v : Value} {n : Nat} {xs : List Value} (h : w.ownsRow base e size v n xs) {b : Nat} (hb : b < base) : b ∉ v.ownBlock.toList := by
  intro hm
  have := h.lt b (by simpa using hm)
  omega
theorem owns_far {w : World} {base : Nat} {e : TypeId} {size : Nat} {v : Value} {n : Nat} {xs : List Value} (h : w.ownsRow base e size v n xs) {b : Nat} {t : TypeId} {cs : Array Value} (hb : Blk w b t cs) (hne : t ≠ e) : b ∉ v.ownBlock.toList := by
  intro hm
  exact owns_ne h hb hne (by simpa using hm)

/-- One element more in the row that a struct's field holds: the block of the struct, the row, all else. -/
theorem app_step {wr X w1 : World} {B Ob j n t : Nat} {Kv newK : Value} {xs : List Value} {x : Value} {cs : Array Value} (hO : Blk wr Ob 29 cs) (hK : wr.ownsRow B t 1 Kv n xs) (ht : (29 : Nat) ≠ t)
    (hX : Keep [] wr X) (hgrow : X.grownBy w1 Kv.ownBlock) (hown : w1.ownsRow B t 1 newK (n + 1) (xs ++ [x])) :
    Blk (w1.setCell ⟨Ob, j, none⟩ newK) Ob 29 (cs.setIfInBounds j newK) ∧ (w1.setCell ⟨Ob, j, none⟩ newK).ownsRow B t 1 newK (n + 1) (xs ++ [x]) ∧ Keep (Ob :: Kv.ownBlock.toList) wr (w1.setCell ⟨Ob, j, none⟩ newK) ∧ Blk w1 Ob 29 cs := by
  have hne := owns_ne hK hO ht
  have hXo : Blk X Ob 29 cs := hX.blk hO (by simp)
  have hKg : Keep Kv.ownBlock.toList X w1 := Keep.grown hgrow (by intro k hk; rw [hk]; simp)
  have h1o : Blk w1 Ob 29 cs := hKg.blk hXo (by intro h; exact hne (by simpa using h))
  have hne2 := owns_ne hown h1o ht
  refine ⟨h1o.set j _, ownsRow_setCell_other hown hne2 _, ?_, h1o⟩
  refine ((hX.mono (S' := Ob :: Kv.ownBlock.toList) (by simp)).trans (hKg.mono (S' := Ob :: Kv.ownBlock.toList) (by intro x hx; left; simp at hx ⊢; right; exact hx)) (fun _ h => .inl h)).trans' (Keep.setCell _ _ _ (by simp))

theorem info5' : (Try.prog.info? 5).map (fun i => (i.zero, i.size, i.bytes)) = some (some (.int .u8 0), 1, 1) := by kernel_rfl
theorem info21 : (Try.prog.info? 21).map (fun i => (i.zero, i.size, i.bytes)) = some (some (.int .i32 0), 1, 4) := by kernel_rfl
theorem info9 : (Try.prog.info? 9).map (fun i => (i.zero, i.size, i.bytes)) = some (some (.string ⟨#[]⟩), 1, 16) := by kernel_rfl
theorem info3 : (Try.prog.info? 3).map (fun i => (i.zero, i.size, i.bytes)) = some (some (.int .i64 0), 1, 8) := by kernel_rfl

theorem Blk.newAt {w : World} {t : TypeId} {cs : Array Value} {n : Nat} (h : w.heap.size = n) : Blk (w.alloc (.cells cs t)) n t cs := by subst h; exact Blk.new w t cs

/-- The answer's ten cells. -/
abbrev outC (off : Int) (a b c d e f : Value) (er : Bool) (eo : Int) (em : ByteArray) : Array Value := #[.int .i64 off, a, b, c, d, e, f, .bool er, .int .i64 eo, .string em]
abbrev nilS : Value := .slice none 0 0

abbrev zeroOut : Array Value := outC 0 nilS nilS nilS nilS nilS nilS false 0 ⟨#[]⟩

/-- The tokens gathered so far. -/
def OutA (w wr : World) (B Ob : Nat) (off : Int) (ts : List Tok) (k1 k2 k3 : Nat) : Prop :=
  ∃ a b c, Blk wr Ob 29 (outC off a b c nilS nilS nilS false 0 ⟨#[]⟩) ∧ wr.ownsRow B 5 1 a k1 (kindCells (ts.take k1)) ∧ wr.ownsRow B 21 1 b k2 (offCells (ts.take k2)) ∧ wr.ownsRow B 9 1 c k3 (textCells (ts.take k3)) ∧ Blk wr B 29 zeroOut ∧ Keep [] w wr

section
variable {w wr W : World} {B Ob t n : Nat} {a newK : Value} {xs : List Value} {cs : Array Value}
/-- Another row stays owned. -/
theorem row_after (hO : Blk wr Ob 29 cs) (ha : wr.ownsRow B t 1 a n xs) (s3 : Keep (Ob :: a.ownBlock.toList) wr W) {b : Value} {t' m : Nat} {ys : List Value} (hb : wr.ownsRow B t' 1 b m ys) (h1 : t' ≠ t) (h2 : (29 : Nat) ≠ t') : W.ownsRow B t' 1 b m ys := by
  refine s3.owns hb fun g hg hm => ?_
  rcases List.mem_cons.1 hm with rfl | hm
  · exact owns_ne hb hO h2 hg
  · exact owns_ne2 hb ha h1 g hg (by simpa using hm)
theorem blk_after (hO : Blk wr Ob 29 cs) (ha : wr.ownsRow B t 1 a n xs) (s3 : Keep (Ob :: a.ownBlock.toList) wr W) {b t' : Nat} {ds : Array Value} (hZ : Blk wr b t' ds) (hne : b ≠ Ob) (h2 : t' ≠ t) : Blk W b t' ds := by
  refine s3.blk hZ fun hm => ?_
  rcases List.mem_cons.1 hm with h | hm
  · exact hne h
  · exact owns_far ha hZ h2 hm
theorem keep_after (ha : wr.ownsRow B t 1 a n xs) (s3 : Keep (Ob :: a.ownBlock.toList) wr W) (hK : Keep [] w wr) (h1 : w.heap.size ≤ Ob) (h2 : w.heap.size ≤ B) : Keep [] w W := by
  refine hK.trans s3 fun x hx => .inr ?_
  rcases List.mem_cons.1 hx with h | hx
  · omega
  · have := ha.lt x (by simpa using hx); omega
end

theorem take_more {α β : Type} (f : α → β) (ts : List α) (k : Nat) (h : k < ts.length) : (ts.take (k + 1)).map f = (ts.take k).map f ++ [f ts[k]] := by
  rw [List.take_succ_eq_append_getElem h]; simp only [List.map_append, List.map_cons, List.map_nil]

theorem outA_1 {w wr W : World} {B k : Nat} {a b c newV : Value} {off : Int} {ts : List Tok} (hlt : k < ts.length) (hB : w.heap.size ≤ B) (hK : Keep [] w wr) (hZ : Blk wr B 29 zeroOut) (hO : Blk wr (B + 1) 29 (outC off a b c nilS nilS nilS false 0 ⟨#[]⟩)) (ha : wr.ownsRow B 5 1 a k (kindCells (ts.take k))) (hb : wr.ownsRow B 21 1 b k (offCells (ts.take k))) (hc : wr.ownsRow B 9 1 c k (textCells (ts.take k)))
    (s1 : Blk W (B + 1) 29 ((outC off a b c nilS nilS nilS false 0 ⟨#[]⟩).setIfInBounds 1 newV)) (s2 : W.ownsRow B 5 1 newV (k + 1) (kindCells (ts.take k) ++ [.int .u8 ts[k].2.2])) (s3 : Keep ((B + 1) :: a.ownBlock.toList) wr W) :
    OutA w W B (B + 1) off ts (k + 1) k k :=
  ⟨newV, b, c, s1, by unfold kindCells at s2 ⊢; rw [take_more _ _ _ hlt]; exact s2, row_after hO ha s3 hb (by decide) (by decide), row_after hO ha s3 hc (by decide) (by decide), blk_after hO ha s3 hZ (by omega) (by decide), keep_after ha s3 hK (by omega) hB⟩
theorem outA_2 {w wr W : World} {B k : Nat} {a b c newV : Value} {off : Int} {ts : List Tok} (hlt : k < ts.length) (hB : w.heap.size ≤ B) (hK : Keep [] w wr) (hZ : Blk wr B 29 zeroOut) (hO : Blk wr (B + 1) 29 (outC off a b c nilS nilS nilS false 0 ⟨#[]⟩)) (ha : wr.ownsRow B 5 1 a (k + 1) (kindCells (ts.take (k + 1)))) (hb : wr.ownsRow B 21 1 b k (offCells (ts.take k))) (hc : wr.ownsRow B 9 1 c k (textCells (ts.take k)))
    (s1 : Blk W (B + 1) 29 ((outC off a b c nilS nilS nilS false 0 ⟨#[]⟩).setIfInBounds 2 newV)) (s2 : W.ownsRow B 21 1 newV (k + 1) (offCells (ts.take k) ++ [.int .i32 ts[k].2.1])) (s3 : Keep ((B + 1) :: b.ownBlock.toList) wr W) :
    OutA w W B (B + 1) off ts (k + 1) (k + 1) k :=
  ⟨a, newV, c, s1, row_after hO hb s3 ha (by decide) (by decide), by unfold offCells at s2 ⊢; rw [take_more _ _ _ hlt]; exact s2, row_after hO hb s3 hc (by decide) (by decide), blk_after hO hb s3 hZ (by omega) (by decide), keep_after hb s3 hK (by omega) hB⟩
theorem outA_3 {w wr W : World} {B k : Nat} {a b c newV : Value} {off : Int} {ts : List Tok} (hlt : k < ts.length) (hB : w.heap.size ≤ B) (hK : Keep [] w wr) (hZ : Blk wr B 29 zeroOut) (hO : Blk wr (B + 1) 29 (outC off a b c nilS nilS nilS false 0 ⟨#[]⟩)) (ha : wr.ownsRow B 5 1 a (k + 1) (kindCells (ts.take (k + 1)))) (hb : wr.ownsRow B 21 1 b (k + 1) (offCells (ts.take (k + 1)))) (hc : wr.ownsRow B 9 1 c k (textCells (ts.take k)))
    (s1 : Blk W (B + 1) 29 ((outC off a b c nilS nilS nilS false 0 ⟨#[]⟩).setIfInBounds 3 newV)) (s2 : W.ownsRow B 9 1 newV (k + 1) (textCells (ts.take k) ++ [.string ts[k].1])) (s3 : Keep ((B + 1) :: c.ownBlock.toList) wr W) :
    OutA w W B (B + 1) off ts (k + 1) (k + 1) (k + 1) :=
  ⟨a, b, newV, s1, row_after hO hc s3 ha (by decide) (by decide), row_after hO hc s3 hb (by decide) (by decide), by unfold textCells at s2 ⊢; rw [take_more _ _ _ hlt]; exact s2, blk_after hO hc s3 hZ (by omega) (by decide), keep_after hc s3 hK (by omega) hB⟩

theorem owns_slice {w : World} {base : Nat} {e : TypeId} {size : Nat} {v : Value} {n : Nat} {xs : List Value} (h : w.ownsRow base e size v n xs) : ∃ x l c, v = .slice x l c := by
  rcases h.2 with ⟨h, _⟩ | ⟨g, cap, cur, h, _⟩
  · exact ⟨_, _, _, h⟩
  · exact ⟨_, _, _, h⟩

/-- Two rows do not share a block. -/
def Dj (d e : Value) : Prop := ∀ g, d.ownBlock = some g → e.ownBlock ≠ some g
theorem Dj.symm {d e : Value} (h : Dj d e) : Dj e d := fun g hg hd => h g hd hg
theorem Dj.nil (e : Value) : Dj nilS e := fun g hg => by simp [Value.ownBlock] at hg
theorem Dj.new {w : World} {base t n : Nat} {d e : Value} {xs : List Value} {g l c : Nat} (h : Dj d e) (he : w.ownsRow base t 1 e n xs) (hg : d.ownBlock = some g ∨ w.heap.size ≤ g) : Dj (.slice (some ⟨g, 0, none⟩) l c) e := by
  intro g' hg' hh
  simp [Value.ownBlock] at hg'
  subst hg'
  rcases hg with hg | hg
  · exact h _ hg hh
  · have := he.lt _ hh; omega
theorem row_afterD {wr W : World} {B Ob t n : Nat} {a : Value} {cs : Array Value} (hO : Blk wr Ob 29 cs) (s3 : Keep (Ob :: a.ownBlock.toList) wr W) {b : Value} {t' m : Nat} {ys : List Value} (hb : wr.ownsRow B t' 1 b m ys) (h1 : Dj b a) (h2 : (29 : Nat) ≠ t') : W.ownsRow B t' 1 b m ys := by
  refine s3.owns hb fun g hg hm => ?_
  rcases List.mem_cons.1 hm with rfl | hm
  · exact owns_ne hb hO h2 hg
  · exact h1 g hg (by simpa using hm)

def o1Cells (os : List Op3) : List Value := os.map fun o => .int .i64 o.1
def o2Cells (os : List Op3) : List Value := os.map fun o => .int .i64 o.2.1
def o3Cells (os : List Op3) : List Value := os.map fun o => .int .i64 o.2.2

/-- The tokens and the openings gathered so far. -/
def OutB (w wr : World) (B Ob : Nat) (off : Int) (ts : List Tok) (os : List Op3) (k1 k2 k3 : Nat) : Prop :=
  ∃ a b c d e f, Blk wr Ob 29 (outC off a b c d e f false 0 ⟨#[]⟩) ∧ wr.ownsRow B 5 1 a ts.length (kindCells ts) ∧ wr.ownsRow B 21 1 b ts.length (offCells ts) ∧ wr.ownsRow B 9 1 c ts.length (textCells ts) ∧
    wr.ownsRow B 3 1 d k1 (o1Cells (os.take k1)) ∧ wr.ownsRow B 3 1 e k2 (o2Cells (os.take k2)) ∧ wr.ownsRow B 3 1 f k3 (o3Cells (os.take k3)) ∧ Dj d e ∧ Dj d f ∧ Dj e f ∧ Blk wr B 29 zeroOut ∧ Keep [] w wr

theorem outB_1 {w wr W : World} {B k : Nat} {a b c d e f : Value} {off : Int} {ts : List Tok} {os : List Op3} {g cp : Nat} (hlt : k < os.length) (hB : w.heap.size ≤ B) (hK : Keep [] w wr) (hZ : Blk wr B 29 zeroOut) (hO : Blk wr (B + 1) 29 (outC off a b c d e f false 0 ⟨#[]⟩)) (ha : wr.ownsRow B 5 1 a ts.length (kindCells ts)) (hb : wr.ownsRow B 21 1 b ts.length (offCells ts)) (hc : wr.ownsRow B 9 1 c ts.length (textCells ts)) (j1 : Dj d e) (j2 : Dj d f) (j3 : Dj e f) (hd : wr.ownsRow B 3 1 d k (o1Cells (os.take k))) (he : wr.ownsRow B 3 1 e k (o2Cells (os.take k))) (hf : wr.ownsRow B 3 1 f k (o3Cells (os.take k)))
    (s1 : Blk W (B + 1) 29 ((outC off a b c d e f false 0 ⟨#[]⟩).setIfInBounds 4 (.slice (some ⟨g, 0, none⟩) (k + 1) cp))) (s2 : W.ownsRow B 3 1 (.slice (some ⟨g, 0, none⟩) (k + 1) cp) (k + 1) (o1Cells (os.take k) ++ [.int .i64 os[k].1])) (s3 : Keep ((B + 1) :: d.ownBlock.toList) wr W) (hg : d.ownBlock = some g ∨ wr.heap.size ≤ g) :
    OutB w W B (B + 1) off ts os (k + 1) k k :=
  ⟨a, b, c, (.slice (some ⟨g, 0, none⟩) (k + 1) cp), e, f, s1, row_after hO hd s3 ha (by decide) (by decide), row_after hO hd s3 hb (by decide) (by decide), row_after hO hd s3 hc (by decide) (by decide), by unfold o1Cells at s2 ⊢; rw [take_more _ _ _ hlt]; exact s2, row_afterD (n := 0) (t := 0) hO s3 he j1.symm (by decide), row_afterD (n := 0) (t := 0) hO s3 hf j2.symm (by decide), j1.new he hg, j2.new hf hg, j3, blk_after hO hd s3 hZ (by omega) (by decide), keep_after hd s3 hK (by omega) hB⟩
theorem outB_2 {w wr W : World} {B k : Nat} {a b c d e f : Value} {off : Int} {ts : List Tok} {os : List Op3} {g cp : Nat} (hlt : k < os.length) (hB : w.heap.size ≤ B) (hK : Keep [] w wr) (hZ : Blk wr B 29 zeroOut) (hO : Blk wr (B + 1) 29 (outC off a b c d e f false 0 ⟨#[]⟩)) (ha : wr.ownsRow B 5 1 a ts.length (kindCells ts)) (hb : wr.ownsRow B 21 1 b ts.length (offCells ts)) (hc : wr.ownsRow B 9 1 c ts.length (textCells ts)) (j1 : Dj d e) (j2 : Dj d f) (j3 : Dj e f) (hd : wr.ownsRow B 3 1 d (k + 1) (o1Cells (os.take (k + 1)))) (he : wr.ownsRow B 3 1 e k (o2Cells (os.take k))) (hf : wr.ownsRow B 3 1 f k (o3Cells (os.take k)))
    (s1 : Blk W (B + 1) 29 ((outC off a b c d e f false 0 ⟨#[]⟩).setIfInBounds 5 (.slice (some ⟨g, 0, none⟩) (k + 1) cp))) (s2 : W.ownsRow B 3 1 (.slice (some ⟨g, 0, none⟩) (k + 1) cp) (k + 1) (o2Cells (os.take k) ++ [.int .i64 os[k].2.1])) (s3 : Keep ((B + 1) :: e.ownBlock.toList) wr W) (hg : e.ownBlock = some g ∨ wr.heap.size ≤ g) :
    OutB w W B (B + 1) off ts os (k + 1) (k + 1) k :=
  ⟨a, b, c, d, (.slice (some ⟨g, 0, none⟩) (k + 1) cp), f, s1, row_after hO he s3 ha (by decide) (by decide), row_after hO he s3 hb (by decide) (by decide), row_after hO he s3 hc (by decide) (by decide), row_afterD (n := 0) (t := 0) hO s3 hd j1 (by decide), by unfold o2Cells at s2 ⊢; rw [take_more _ _ _ hlt]; exact s2, row_afterD (n := 0) (t := 0) hO s3 hf j3.symm (by decide), (j1.symm.new hd hg).symm, j2, j3.new hf hg, blk_after hO he s3 hZ (by omega) (by decide), keep_after he s3 hK (by omega) hB⟩
theorem outB_3 {w wr W : World} {B k : Nat} {a b c d e f : Value} {off : Int} {ts : List Tok} {os : List Op3} {g cp : Nat} (hlt : k < os.length) (hB : w.heap.size ≤ B) (hK : Keep [] w wr) (hZ : Blk wr B 29 zeroOut) (hO : Blk wr (B + 1) 29 (outC off a b c d e f false 0 ⟨#[]⟩)) (ha : wr.ownsRow B 5 1 a ts.length (kindCells ts)) (hb : wr.ownsRow B 21 1 b ts.length (offCells ts)) (hc : wr.ownsRow B 9 1 c ts.length (textCells ts)) (j1 : Dj d e) (j2 : Dj d f) (j3 : Dj e f) (hd : wr.ownsRow B 3 1 d (k + 1) (o1Cells (os.take (k + 1)))) (he : wr.ownsRow B 3 1 e (k + 1) (o2Cells (os.take (k + 1)))) (hf : wr.ownsRow B 3 1 f k (o3Cells (os.take k)))
    (s1 : Blk W (B + 1) 29 ((outC off a b c d e f false 0 ⟨#[]⟩).setIfInBounds 6 (.slice (some ⟨g, 0, none⟩) (k + 1) cp))) (s2 : W.ownsRow B 3 1 (.slice (some ⟨g, 0, none⟩) (k + 1) cp) (k + 1) (o3Cells (os.take k) ++ [.int .i64 os[k].2.2])) (s3 : Keep ((B + 1) :: f.ownBlock.toList) wr W) (hg : f.ownBlock = some g ∨ wr.heap.size ≤ g) :
    OutB w W B (B + 1) off ts os (k + 1) (k + 1) (k + 1) :=
  ⟨a, b, c, d, e, (.slice (some ⟨g, 0, none⟩) (k + 1) cp), s1, row_after hO hf s3 ha (by decide) (by decide), row_after hO hf s3 hb (by decide) (by decide), row_after hO hf s3 hc (by decide) (by decide), row_afterD (n := 0) (t := 0) hO s3 hd j2 (by decide), row_afterD (n := 0) (t := 0) hO s3 he j3 (by decide), by unfold o3Cells at s2 ⊢; rw [take_more _ _ _ hlt]; exact s2, j1, (j2.symm.new hd hg).symm, (j3.symm.new he hg).symm, blk_after hO hf s3 hZ (by omega) (by decide), keep_after hf s3 hK (by omega) hB⟩

theorem ten_sets {w : World} {b t : Nat} {y0 y1 y2 y3 y4 y5 y6 y7 y8 y9 : Value} (h : Blk w b t #[y0, y1, y2, y3, y4, y5, y6, y7, y8, y9]) (x0 x1 x2 x3 x4 x5 x6 x7 x8 x9 : Value) :
    Blk ((((((((((w.setCell ⟨b, 0, none⟩ x0).setCell ⟨b, 1, none⟩ x1).setCell ⟨b, 2, none⟩ x2).setCell ⟨b, 3, none⟩ x3).setCell ⟨b, 4, none⟩ x4).setCell ⟨b, 5, none⟩ x5).setCell ⟨b, 6, none⟩ x6).setCell ⟨b, 7, none⟩ x7).setCell ⟨b, 8, none⟩ x8).setCell ⟨b, 9, none⟩ x9) b t #[x0, x1, x2, x3, x4, x5, x6, x7, x8, x9] ∧
    Keep [b] w ((((((((((w.setCell ⟨b, 0, none⟩ x0).setCell ⟨b, 1, none⟩ x1).setCell ⟨b, 2, none⟩ x2).setCell ⟨b, 3, none⟩ x3).setCell ⟨b, 4, none⟩ x4).setCell ⟨b, 5, none⟩ x5).setCell ⟨b, 6, none⟩ x6).setCell ⟨b, 7, none⟩ x7).setCell ⟨b, 8, none⟩ x8).setCell ⟨b, 9, none⟩ x9) := by
  constructor
  · have h0 : Blk _ b t #[x0, y1, y2, y3, y4, y5, y6, y7, y8, y9] := h.set 0 x0
    have h1 : Blk _ b t #[x0, x1, y2, y3, y4, y5, y6, y7, y8, y9] := h0.set 1 x1
    have h2 : Blk _ b t #[x0, x1, x2, y3, y4, y5, y6, y7, y8, y9] := h1.set 2 x2
    have h3 : Blk _ b t #[x0, x1, x2, x3, y4, y5, y6, y7, y8, y9] := h2.set 3 x3
    have h4 : Blk _ b t #[x0, x1, x2, x3, x4, y5, y6, y7, y8, y9] := h3.set 4 x4
    have h5 : Blk _ b t #[x0, x1, x2, x3, x4, x5, y6, y7, y8, y9] := h4.set 5 x5
    have h6 : Blk _ b t #[x0, x1, x2, x3, x4, x5, x6, y7, y8, y9] := h5.set 6 x6
    have h7 : Blk _ b t #[x0, x1, x2, x3, x4, x5, x6, x7, y8, y9] := h6.set 7 x7
    have h8 : Blk _ b t #[x0, x1, x2, x3, x4, x5, x6, x7, x8, y9] := h7.set 8 x8
    have h9 : Blk _ b t #[x0, x1, x2, x3, x4, x5, x6, x7, x8, x9] := h8.set 9 x9
    exact h9
  · exact (((((((((Keep.setCell _ _ _ (by simp)).trans' (Keep.setCell _ _ _ (by simp))).trans' (Keep.setCell _ _ _ (by simp))).trans' (Keep.setCell _ _ _ (by simp))).trans' (Keep.setCell _ _ _ (by simp))).trans' (Keep.setCell _ _ _ (by simp))).trans' (Keep.setCell _ _ _ (by simp))).trans' (Keep.setCell _ _ _ (by simp))).trans' (Keep.setCell _ _ _ (by simp))).trans' (Keep.setCell _ _ _ (by simp))

/-- What 'zzOut' answers: the ten fields, the rows where they lie. -/
def OutIs (w : World) (r : Value) (off : Int) (ts : List Tok) (os : List Op3) (er : Bool) (eo : Int) (em : ByteArray) : Prop :=
  ∃ a b c d e f, r = .agg (outC off a b c d e f er eo em) ∧ RowAt w 5 a (kindCells ts) ∧ RowAt w 21 b (offCells ts) ∧ RowAt w 9 c (textCells ts) ∧ RowAt w 3 d (o1Cells os) ∧ RowAt w 3 e (o2Cells os) ∧ RowAt w 3 f (o3Cells os)

set_option maxRecDepth 100000 in
set_option maxHeartbeats 4000000 in
theorem f34_any (L : Nat) (v tv ov ep : Value) (text : ByteArray) (off : Int) (ts : List Tok) (os : List Op3) (er : Bool) (eo : Int) (em : ByteArray) (b1 b2 : Nat) (w : World) (hL : Blk w L 66 (lexC v text off tv ov))
    (ht : w.ownsRow b1 71 3 tv ts.length (tokCells ts)) (ho : w.ownsRow b2 63 3 ov os.length (openCells os)) (hn : ts.length ≤ 1000000) (hm : os.length ≤ 1000000)
    (hep : Hid ((ep = .pointer none ∧ er = false ∧ eo = 0 ∧ em = ⟨#[]⟩) ∨ (er = true ∧ ∃ E, ep = .pointer (some ⟨E, 0, none⟩) ∧ Blk w E 73 #[.int .i64 eo, .string em]))) :
    Calls Try.prog 34 #[.pointer (some ⟨L, 0, none⟩), ep] w fun e w' => ∃ r, e = .returned r ∧ OutIs w' r off ts os er eo em ∧ Keep [] w w' := by
  have cL2 := hL.cell 2
  simp only [List.getElem?_toArray, List.getElem?_cons_zero, List.getElem?_cons_succ] at cL2
  have hlL := hL.lt
  go_enter Try.func34, Try.ntmps34
  go_wp2_with fail
  go_loopg [6] ts.length (fun gk i wr => ∃ k : Nat, gk + k = ts.length ∧ i = .int .i64 k ∧ OutA w wr w.heap.size (w.heap.size + 1) off ts k k k)
  case atStart =>
    exact ⟨0, rfl, rfl, _, _, _, Blk.newAt (by simp), World.ownsRow_nil _ _ _ _, World.ownsRow_nil _ _ _ _, World.ownsRow_nil _ _ _ _, (Blk.new _ _ _).alloc _, (Keep.alloc _ _ _).trans' (Keep.alloc _ _ _)⟩
  case round =>
    obtain ⟨k, hk, rfl, hA⟩ := hrel
    by_cases hlt : k < ts.length
    · obtain ⟨tg, tc, rfl, _, _⟩ := ht.form (by omega)
      obtain ⟨tcur, hT, hTs, hTt, _⟩ := owns_blk ht
      have hget := tokCells_get ts k hlt
      have hk0 : (0 : Int) ≤ (k : Int) := by omega
      have hk1 : (k : Int) < (ts.length : Int) := by omega
      have cT : w.cell? ⟨tg, k * 3, none⟩ = some (.string ts[k].1) ∧ w.cell? ⟨tg, k * 3 + 1, none⟩ = some (.int .i32 ts[k].2.1) ∧ w.cell? ⟨tg, k * 3 + 2, none⟩ = some (.int .u8 ts[k].2.2) := by
        rw [hT.cell, hT.cell, hT.cell]
        rw [← hTt] at hget
        simp only [List.getElem?_take] at hget
        rw [if_pos (by omega), if_pos (by omega), if_pos (by omega)] at hget
        simpa using hget
      have cL3 := hL.cell 3
      simp only [List.getElem?_toArray, List.getElem?_cons_zero, List.getElem?_cons_succ] at cL3
      have hTl := hT.lt
      clear hget hTs hTt cL2 hT
      have HT : Hid _ := cT
      have HL3 : Hid _ := cL3
      clear cT cL3
      obtain ⟨a, b, c, hO, ha, hb, hc, hZ, hK⟩ := hA
      have hpL : wr.cell? ⟨L, 3, none⟩ = some (.slice (some ⟨tg, 0, none⟩) ts.length tc) := hK.cell HL3.out (by simp)
      obtain ⟨x0, l0, c0, rfl⟩ := owns_slice ha
      have hpa : wr.cell? ⟨w.heap.size + 1, 1, none⟩ = some (.slice x0 l0 c0) := hO.cell 1
      have hfa : wr.frozen? ⟨w.heap.size + 1, 1, none⟩ = false := hO.free 1
      have hpt : wr.cell? ⟨tg, k * 3 + 2, none⟩ = some (.int .u8 ts[k].2.2) := hK.cell HT.out.2.2 (by simp)
      obtain ⟨i0, hi, hz0, hz1, hz2⟩ := info_parts info5'
      generalize hz : ts[k].2.2 = z at hpt
      have Hz : Hid (ts[k].2.2 = z) := hz
      clear hz
      have hwl := hK.size
      have l1 := hO.lt
      have l2 : L < wr.heap.size := by omega
      have l3 : tg < wr.heap.size := by omega
      have n1 := owns_far ha hO (by decide)
      have n2 := owns_low ha hlL
      have n3 := owns_low ha hTl
      go_upto_region 6 with fail
      go_cut [] (fun wx => OutA w wx w.heap.size (w.heap.size + 1) off ts (k + 1) k k)
      case first =>
        go_region_law ((refine step_append_lies _ (by rfl) (.tmp 23) (.tmp 32) 22 (by rfl) w.heap.size 5 i0 (.int .u8 0) 1 1 Try.underlying22 hi hz0 hz1 hz2 (by rfl) (by decide) (.slice x0 l0 c0) k (kindCells (ts.take k)) (by rfl) (by exact (Keep.alloc [] _ _).owns ha (by simp)) ⟨wr.heap.size, 0, none⟩ 1 1 [.int .u8 z] (by rfl) (by rfl) (by exact World.news_of_block (heap_alloc_new wr _)) (by intro u hu; simp at hu; subst hu; rfl) (by decide) (by unfold maxLen; omega) (by omega) (by simp; omega) (wr.heap.size + 1) (by simp) ?_; intro g cap w1 hown hgrow hat hlt2; have kk := keep_app (by first | exact Keep.alloc _ _ _ | exact (Keep.alloc _ _ _).trans' (Keep.drew _ _)) hgrow; have k1 := kk.cell hpa n1; have k2 := kk.cell hpL n2; have k3 := kk.cell hpt n3; have k4 := (kk.blk hO n1).free 1))
        all_goals
          go_wp2_with fail
          go_meet
          case rel =>
            obtain ⟨s1, s2, s3, s4⟩ := app_step (j := 1) hO ha (by decide) (by first | exact Keep.alloc _ _ _ | exact (Keep.alloc _ _ _).trans' (Keep.drew _ _)) hgrow hown
            exact outA_1 hlt (Nat.le_refl _) hK hZ hO ha hb hc s1 (by rw [Hz.out]; exact s2) s3
      case rest =>
      have hA := hcut
      clear hcut hpL hpa hfa hpt hwl l1 l2 l3 n1 n2 n3 hi hz0 hz1 hz2 Hz hO hK hZ ha hb hc
      obtain ⟨a, b, c, hO, ha, hb, hc, hZ, hK⟩ := hA
      have hpL : wc.cell? ⟨L, 3, none⟩ = some (.slice (some ⟨tg, 0, none⟩) ts.length tc) := hK.cell HL3.out (by simp)
      obtain ⟨x0, l0, c0, rfl⟩ := owns_slice hb
      have hpa : wc.cell? ⟨w.heap.size + 1, 2, none⟩ = some (.slice x0 l0 c0) := hO.cell 2
      have hfa : wc.frozen? ⟨w.heap.size + 1, 2, none⟩ = false := hO.free 2
      have hpt : wc.cell? ⟨tg, k * 3 + 1, none⟩ = some (.int .i32 ts[k].2.1) := hK.cell HT.out.2.1 (by simp)
      obtain ⟨i0, hi, hz0, hz1, hz2⟩ := info_parts info21
      generalize hz : ts[k].2.1 = z at hpt
      have Hz : Hid (ts[k].2.1 = z) := hz
      clear hz
      have hwl := hK.size
      have l1 := hO.lt
      have l2 : L < wc.heap.size := by omega
      have l3 : tg < wc.heap.size := by omega
      have n1 := owns_far hb hO (by decide)
      have n2 := owns_low hb hlL
      have n3 := owns_low hb hTl
      go_upto_region 7 with fail
      go_cut [] (fun wx => OutA w wx w.heap.size (w.heap.size + 1) off ts (k + 1) (k + 1) k)
      case first =>
        go_region_law ((refine step_append_lies _ (by rfl) (.tmp 36) (.tmp 45) 25 (by rfl) w.heap.size 21 i0 (.int .i32 0) 1 4 Try.underlying25 hi hz0 hz1 hz2 (by rfl) (by decide) (.slice x0 l0 c0) k (offCells (ts.take k)) (by rfl) (by exact (Keep.alloc [] _ _).owns hb (by simp)) ⟨wc.heap.size, 0, none⟩ 1 1 [.int .i32 z] (by rfl) (by rfl) (by exact World.news_of_block (heap_alloc_new wc _)) (by intro u hu; simp at hu; subst hu; rfl) (by decide) (by unfold maxLen; omega) (by omega) (by simp; omega) (wc.heap.size + 1) (by simp) ?_; intro g cap w1 hown hgrow hat hlt2; have kk := keep_app (by first | exact Keep.alloc _ _ _ | exact (Keep.alloc _ _ _).trans' (Keep.drew _ _)) hgrow; have k1 := kk.cell hpa n1; have k2 := kk.cell hpL n2; have k3 := kk.cell hpt n3; have k4 := (kk.blk hO n1).free 2))
        all_goals
          go_wp2_with fail
          go_meet
          case rel =>
            obtain ⟨s1, s2, s3, s4⟩ := app_step (j := 2) hO hb (by decide) (by first | exact Keep.alloc _ _ _ | exact (Keep.alloc _ _ _).trans' (Keep.drew _ _)) hgrow hown
            exact outA_2 hlt (Nat.le_refl _) hK hZ hO ha hb hc s1 (by rw [Hz.out]; exact s2) s3
      case rest =>
      have hA := hcut
      clear hcut hpL hpa hfa hpt hwl l1 l2 l3 n1 n2 n3 hi hz0 hz1 hz2 Hz hO hK hZ ha hb hc
      obtain ⟨a, b, c, hO, ha, hb, hc, hZ, hK⟩ := hA
      have hpL : wc.cell? ⟨L, 3, none⟩ = some (.slice (some ⟨tg, 0, none⟩) ts.length tc) := hK.cell HL3.out (by simp)
      obtain ⟨x0, l0, c0, rfl⟩ := owns_slice hc
      have hpa : wc.cell? ⟨w.heap.size + 1, 3, none⟩ = some (.slice x0 l0 c0) := hO.cell 3
      have hfa : wc.frozen? ⟨w.heap.size + 1, 3, none⟩ = false := hO.free 3
      have hpt : wc.cell? ⟨tg, k * 3, none⟩ = some (.string ts[k].1) := hK.cell HT.out.1 (by simp)
      obtain ⟨i0, hi, hz0, hz1, hz2⟩ := info_parts info9
      generalize hz : ts[k].1 = z at hpt
      have Hz : Hid (ts[k].1 = z) := hz
      clear hz
      have hwl := hK.size
      have l1 := hO.lt
      have l2 : L < wc.heap.size := by omega
      have l3 : tg < wc.heap.size := by omega
      have n1 := owns_far hc hO (by decide)
      have n2 := owns_low hc hlL
      have n3 := owns_low hc hTl
      go_upto_region 8 with fail
      go_region_law ((refine step_append_lies _ (by rfl) (.tmp 49) (.tmp 58) 26 (by rfl) w.heap.size 9 i0 (.string ⟨#[]⟩) 1 16 Try.underlying26 hi hz0 hz1 hz2 (by rfl) (by decide) (.slice x0 l0 c0) k (textCells (ts.take k)) (by rfl) (by exact (Keep.alloc [] _ _).owns hc (by simp)) ⟨wc.heap.size, 0, none⟩ 1 1 [.string z] (by rfl) (by rfl) (by exact World.news_of_block (heap_alloc_new wc _)) (by intro u hu; simp at hu; subst hu; rfl) (by decide) (by unfold maxLen; omega) (by omega) (by simp; omega) (wc.heap.size + 1) (by simp) ?_; intro g cap w1 hown hgrow hat hlt2; have kk := keep_app (by first | exact Keep.alloc _ _ _ | exact (Keep.alloc _ _ _).trans' (Keep.drew _ _)) hgrow; have k1 := kk.cell hpa n1; have k2 := kk.cell hpL n2; have k3 := kk.cell hpt n3; have k4 := (kk.blk hO n1).free 3))
      all_goals
        go_wp2_with fail
        go_roundg (gk - 1)
        case measure => omega
        case rel =>
            obtain ⟨s1, s2, s3, s4⟩ := app_step (j := 3) hO hc (by decide) (by first | exact Keep.alloc _ _ _ | exact (Keep.alloc _ _ _).trans' (Keep.drew _ _)) hgrow hown
            exact ⟨k + 1, by omega, by go_num, outA_3 hlt (Nat.le_refl _) hK hZ hO ha hb hc s1 (by rw [Hz.out]; exact s2) s3⟩
    · have ek : k = ts.length := by omega
      subst ek
      obtain ⟨a, b, c, hO, ha, hb, hc, hZ, hK⟩ := hA
      simp only [List.take_length] at ha hb hc
      have cL3 : wr.cell? ⟨L, 3, none⟩ = some tv := hK.cell (hL.cell 3) (by simp)
      have hB0 : OutB w wr w.heap.size (w.heap.size + 1) off ts os 0 0 0 := ⟨a, b, c, nilS, nilS, nilS, hO, ha, hb, hc, World.ownsRow_nil _ _ _ _, World.ownsRow_nil _ _ _ _, World.ownsRow_nil _ _ _ _, Dj.nil _, Dj.nil _, Dj.nil _, hZ, hK⟩
      clear hO ha hb hc hZ hK cL2
      obtain ⟨tx, tl, tcc, rfl⟩ := owns_slice ht
      have htl : (tl : Int) = (ts.length : Int) := by
        rcases ht.2 with ⟨h, h0⟩ | ⟨g, cap, cur, h, _⟩
        · simp at h; omega
        · simp at h; omega
      have htb : decide ((ts.length : Int) < (tl : Int)) = false := by simp; omega
      have htn : ¬ ((ts.length : Int) < (tl : Int)) := by omega
      have Htl : Hid _ := htl
      clear htl
      go_wp2_with fail
      clear cL3 htb htn
      go_loopg [7] os.length (fun gk i wr => ∃ k : Nat, gk + k = os.length ∧ i = .int .i64 k ∧ OutB w wr w.heap.size (w.heap.size + 1) off ts os k k k)
      case atStart => exact ⟨0, rfl, rfl, hB0⟩
      case round =>
      clear hB0
      obtain ⟨k, hk, rfl, hA⟩ := hrel
      by_cases hlt : k < os.length
      · obtain ⟨og, oc, rfl, _, _⟩ := ho.form (by omega)
        obtain ⟨tcur, hT, hTs, hTt, _⟩ := owns_blk ho
        have hget := openCells_get os k hlt
        have hk0 : (0 : Int) ≤ (k : Int) := by omega
        have hk1 : (k : Int) < (os.length : Int) := by omega
        have cT : w.cell? ⟨og, k * 3, none⟩ = some (.int .i64 os[k].1) ∧ w.cell? ⟨og, k * 3 + 1, none⟩ = some (.int .i64 os[k].2.1) ∧ w.cell? ⟨og, k * 3 + 2, none⟩ = some (.int .i64 os[k].2.2) := by
          rw [hT.cell, hT.cell, hT.cell]
          rw [← hTt] at hget
          simp only [List.getElem?_take] at hget
          rw [if_pos (by omega), if_pos (by omega), if_pos (by omega)] at hget
          simpa using hget
        have cL4 := hL.cell 4
        simp only [List.getElem?_toArray, List.getElem?_cons_zero, List.getElem?_cons_succ] at cL4
        have hTl := hT.lt
        clear hget hTs hTt hT
        have HT : Hid _ := cT
        have HL4 : Hid _ := cL4
        clear cT cL4
        obtain ⟨a, b, c, d, e, f, hO, ha, hb, hc, hd, he, hf, j1, j2, j3, hZ, hK⟩ := hA
        have hpL : wr.cell? ⟨L, 4, none⟩ = some (.slice (some ⟨og, 0, none⟩) os.length oc) := hK.cell HL4.out (by simp)
        obtain ⟨x0, l0, c0, rfl⟩ := owns_slice hd
        have hpa : wr.cell? ⟨w.heap.size + 1, 4, none⟩ = some (.slice x0 l0 c0) := hO.cell 4
        have hfa : wr.frozen? ⟨w.heap.size + 1, 4, none⟩ = false := hO.free 4
        have hpt : wr.cell? ⟨og, k * 3, none⟩ = some (.int .i64 os[k].1) := hK.cell HT.out.1 (by simp)
        obtain ⟨i0, hi, hz0, hz1, hz2⟩ := info_parts info3
        generalize hz : os[k].1 = z at hpt
        have Hz : Hid (os[k].1 = z) := hz
        clear hz
        have hwl := hK.size
        have l1 := hO.lt
        have l2 : L < wr.heap.size := by omega
        have l3 : og < wr.heap.size := by omega
        have n1 := owns_far hd hO (by decide)
        have n2 := owns_low hd hlL
        have n3 := owns_low hd hTl
        go_upto_region 12 with fail
        go_cut [] (fun wx => OutB w wx w.heap.size (w.heap.size + 1) off ts os (k + 1) k k)
        case first =>
          go_region_law ((refine step_append_lies _ (by rfl) (.tmp 71) (.tmp 80) 27 (by rfl) w.heap.size 3 i0 (.int .i64 0) 1 8 Try.underlying27 hi hz0 hz1 hz2 (by rfl) (by decide) (.slice x0 l0 c0) k (o1Cells (os.take k)) (by rfl) (by exact (Keep.alloc [] _ _).owns hd (by simp)) ⟨wr.heap.size, 0, none⟩ 1 1 [.int .i64 z] (by rfl) (by rfl) (by exact World.news_of_block (heap_alloc_new wr _)) (by intro u hu; simp at hu; subst hu; rfl) (by decide) (by unfold maxLen; omega) (by omega) (by simp; omega) (wr.heap.size + 1) (by simp) ?_; intro g cap w1 hown hgrow hat hlt2; have kk := keep_app (by first | exact Keep.alloc _ _ _ | exact (Keep.alloc _ _ _).trans' (Keep.drew _ _)) hgrow; have k1 := kk.cell hpa n1; have k2 := kk.cell hpL n2; have k3 := kk.cell hpt n3; have k4 := (kk.blk hO n1).free 4))
          all_goals
            go_wp2_with fail
            go_meet
            case rel =>
              obtain ⟨s1, s2, s3, s4⟩ := app_step (j := 4) hO hd (by decide) (by first | exact Keep.alloc _ _ _ | exact (Keep.alloc _ _ _).trans' (Keep.drew _ _)) hgrow hown
              exact outB_1 hlt (Nat.le_refl _) hK hZ hO ha hb hc j1 j2 j3 hd he hf s1 (by rw [Hz.out]; exact s2) s3 (hat.imp id (by omega))
        case rest =>
        have hA := hcut
        clear hcut hpL hpa hfa hpt hwl l1 l2 l3 n1 n2 n3 hi hz0 hz1 hz2 Hz hO hK hZ ha hb hc hd he hf j1 j2 j3
        obtain ⟨a, b, c, d, e, f, hO, ha, hb, hc, hd, he, hf, j1, j2, j3, hZ, hK⟩ := hA
        have hpL : wc.cell? ⟨L, 4, none⟩ = some (.slice (some ⟨og, 0, none⟩) os.length oc) := hK.cell HL4.out (by simp)
        obtain ⟨x0, l0, c0, rfl⟩ := owns_slice he
        have hpa : wc.cell? ⟨w.heap.size + 1, 5, none⟩ = some (.slice x0 l0 c0) := hO.cell 5
        have hfa : wc.frozen? ⟨w.heap.size + 1, 5, none⟩ = false := hO.free 5
        have hpt : wc.cell? ⟨og, k * 3 + 1, none⟩ = some (.int .i64 os[k].2.1) := hK.cell HT.out.2.1 (by simp)
        obtain ⟨i0, hi, hz0, hz1, hz2⟩ := info_parts info3
        generalize hz : os[k].2.1 = z at hpt
        have Hz : Hid (os[k].2.1 = z) := hz
        clear hz
        have hwl := hK.size
        have l1 := hO.lt
        have l2 : L < wc.heap.size := by omega
        have l3 : og < wc.heap.size := by omega
        have n1 := owns_far he hO (by decide)
        have n2 := owns_low he hlL
        have n3 := owns_low he hTl
        go_upto_region 13 with fail
        go_cut [] (fun wx => OutB w wx w.heap.size (w.heap.size + 1) off ts os (k + 1) (k + 1) k)
        case first =>
          go_region_law ((refine step_append_lies _ (by rfl) (.tmp 84) (.tmp 93) 27 (by rfl) w.heap.size 3 i0 (.int .i64 0) 1 8 Try.underlying27 hi hz0 hz1 hz2 (by rfl) (by decide) (.slice x0 l0 c0) k (o2Cells (os.take k)) (by rfl) (by exact (Keep.alloc [] _ _).owns he (by simp)) ⟨wc.heap.size, 0, none⟩ 1 1 [.int .i64 z] (by rfl) (by rfl) (by exact World.news_of_block (heap_alloc_new wc _)) (by intro u hu; simp at hu; subst hu; rfl) (by decide) (by unfold maxLen; omega) (by omega) (by simp; omega) (wc.heap.size + 1) (by simp) ?_; intro g cap w1 hown hgrow hat hlt2; have kk := keep_app (by first | exact Keep.alloc _ _ _ | exact (Keep.alloc _ _ _).trans' (Keep.drew _ _)) hgrow; have k1 := kk.cell hpa n1; have k2 := kk.cell hpL n2; have k3 := kk.cell hpt n3; have k4 := (kk.blk hO n1).free 5))
          all_goals
            go_wp2_with fail
            go_meet
            case rel =>
              obtain ⟨s1, s2, s3, s4⟩ := app_step (j := 5) hO he (by decide) (by first | exact Keep.alloc _ _ _ | exact (Keep.alloc _ _ _).trans' (Keep.drew _ _)) hgrow hown
              exact outB_2 hlt (Nat.le_refl _) hK hZ hO ha hb hc j1 j2 j3 hd he hf s1 (by rw [Hz.out]; exact s2) s3 (hat.imp id (by omega))
        case rest =>
        have hA := hcut
        clear hcut hpL hpa hfa hpt hwl l1 l2 l3 n1 n2 n3 hi hz0 hz1 hz2 Hz hO hK hZ ha hb hc hd he hf j1 j2 j3
        obtain ⟨a, b, c, d, e, f, hO, ha, hb, hc, hd, he, hf, j1, j2, j3, hZ, hK⟩ := hA
        have hpL : wc.cell? ⟨L, 4, none⟩ = some (.slice (some ⟨og, 0, none⟩) os.length oc) := hK.cell HL4.out (by simp)
        obtain ⟨x0, l0, c0, rfl⟩ := owns_slice hf
        have hpa : wc.cell? ⟨w.heap.size + 1, 6, none⟩ = some (.slice x0 l0 c0) := hO.cell 6
        have hfa : wc.frozen? ⟨w.heap.size + 1, 6, none⟩ = false := hO.free 6
        have hpt : wc.cell? ⟨og, k * 3 + 2, none⟩ = some (.int .i64 os[k].2.2) := hK.cell HT.out.2.2 (by simp)
        obtain ⟨i0, hi, hz0, hz1, hz2⟩ := info_parts info3
        generalize hz : os[k].2.2 = z at hpt
        have Hz : Hid (os[k].2.2 = z) := hz
        clear hz
        have hwl := hK.size
        have l1 := hO.lt
        have l2 : L < wc.heap.size := by omega
        have l3 : og < wc.heap.size := by omega
        have n1 := owns_far hf hO (by decide)
        have n2 := owns_low hf hlL
        have n3 := owns_low hf hTl
        go_upto_region 14 with fail
        go_region_law ((refine step_append_lies _ (by rfl) (.tmp 97) (.tmp 106) 27 (by rfl) w.heap.size 3 i0 (.int .i64 0) 1 8 Try.underlying27 hi hz0 hz1 hz2 (by rfl) (by decide) (.slice x0 l0 c0) k (o3Cells (os.take k)) (by rfl) (by exact (Keep.alloc [] _ _).owns hf (by simp)) ⟨wc.heap.size, 0, none⟩ 1 1 [.int .i64 z] (by rfl) (by rfl) (by exact World.news_of_block (heap_alloc_new wc _)) (by intro u hu; simp at hu; subst hu; rfl) (by decide) (by unfold maxLen; omega) (by omega) (by simp; omega) (wc.heap.size + 1) (by simp) ?_; intro g cap w1 hown hgrow hat hlt2; have kk := keep_app (by first | exact Keep.alloc _ _ _ | exact (Keep.alloc _ _ _).trans' (Keep.drew _ _)) hgrow; have k1 := kk.cell hpa n1; have k2 := kk.cell hpL n2; have k3 := kk.cell hpt n3; have k4 := (kk.blk hO n1).free 6))
        all_goals
          go_wp2_with fail
          go_roundg (gk - 1)
          case measure => omega
          case rel =>
              obtain ⟨s1, s2, s3, s4⟩ := app_step (j := 6) hO hf (by decide) (by first | exact Keep.alloc _ _ _ | exact (Keep.alloc _ _ _).trans' (Keep.drew _ _)) hgrow hown
              exact ⟨k + 1, by omega, by go_num, outB_3 hlt (Nat.le_refl _) hK hZ hO ha hb hc j1 j2 j3 hd he hf s1 (by rw [Hz.out]; exact s2) s3 (hat.imp id (by omega))⟩
      · have ek : k = os.length := by omega
        subst ek
        obtain ⟨a, b, c, d, e, f, hO, ha, hb, hc, hd, he, hf, j1, j2, j3, hZ, hK⟩ := hA
        simp only [List.take_length] at hd he hf
        have cL4 : wr.cell? ⟨L, 4, none⟩ = some ov := hK.cell (hL.cell 4) (by simp)
        obtain ⟨ox, ol, occ, rfl⟩ := owns_slice ho
        have hol : ((ol : Nat) : Int) = (os.length : Int) := by
          rcases ho.2 with ⟨h, h0⟩ | ⟨g, cap, cur, h, _⟩
          · simp at h; omega
          · simp at h; omega
        have hon : ¬ ((os.length : Int) < (ol : Int)) := by omega
        have Hol : Hid _ := hol
        clear hol
        obtain ⟨a0, a1, a2, rfl⟩ := owns_slice ha
        obtain ⟨b0, b1, b2, rfl⟩ := owns_slice hb
        obtain ⟨c0, c1, c2, rfl⟩ := owns_slice hc
        obtain ⟨d0, d1, d2, rfl⟩ := owns_slice hd
        obtain ⟨e0, e1, e2, rfl⟩ := owns_slice he
        obtain ⟨f0, f1, f2, rfl⟩ := owns_slice hf
        have fin : ∀ W, Keep [w.heap.size, w.heap.size + 1] wr W → OutIs W (.agg (outC off (.slice a0 a1 a2) (.slice b0 b1 b2) (.slice c0 c1 c2) (.slice d0 d1 d2) (.slice e0 e1 e2) (.slice f0 f1 f2) er eo em)) off ts os er eo em ∧ Keep [] w W := by
          intro W hW
          have go1 : ∀ {t n : Nat} {v : Value} {xs : List Value}, wr.ownsRow w.heap.size t 1 v n xs → (29 : Nat) ≠ t → RowAt W t v xs := by
            intro t n v xs h hne
            refine RowAt.of_owns (hW.owns h fun g hg hm => ?_)
            simp at hm
            rcases hm with rfl | rfl
            · exact owns_ne h hZ hne hg
            · exact owns_ne h hO hne hg
          exact ⟨⟨_, _, _, _, _, _, rfl, go1 ha (by decide), go1 hb (by decide), go1 hc (by decide), go1 hd (by decide), go1 he (by decide), go1 hf (by decide)⟩, hK.trans hW (by intro x hx; right; simp at hx; omega)⟩
        have Hfin : Hid _ := fin
        clear fin
        rcases hep.out with ⟨rfl, rfl, rfl, rfl⟩ | ⟨rfl, E, rfl, hE⟩
        · have o0 := hO.cell 0
          have o1 := hO.cell 1
          have o2 := hO.cell 2
          have o3 := hO.cell 3
          have o4 := hO.cell 4
          have o5 := hO.cell 5
          have o6 := hO.cell 6
          have o7 := hO.cell 7
          have o8 := hO.cell 8
          have o9 := hO.cell 9
          have z0 := hZ.cell 0
          have z1 := hZ.cell 1
          have z2 := hZ.cell 2
          have z3 := hZ.cell 3
          have z4 := hZ.cell 4
          have z5 := hZ.cell 5
          have z6 := hZ.cell 6
          have z7 := hZ.cell 7
          have z8 := hZ.cell 8
          have z9 := hZ.cell 9
          have hfz := hZ.free
          simp only [List.getElem?_toArray, List.getElem?_cons_zero, List.getElem?_cons_succ] at o0 o1 o2 o3 o4 o5 o6 o7 o8 o9 z0 z1 z2 z3 z4 z5 z6 z7 z8 z9
          have HZ : Hid _ := hZ
          clear hO hZ ha hb hc hd he hf j1 j2 j3 hK hlt ho ht hL
          go_wp2
          obtain ⟨q, qk⟩ := ten_sets (w := wr) (b := w.heap.size) (t := 29) HZ.out (.int .i64 off) (.slice a0 a1 a2) (.slice b0 b1 b2) (.slice c0 c1 c2) (.slice d0 d1 d2) (.slice e0 e1 e2) (.slice f0 f1 f2) (.bool false) (.int .i64 0) (.string ⟨#[]⟩)
          have hfin := Hfin.out _ (qk.mono (by simp))
          clear Hfin HZ qk
          generalize ((((((((((wr.setCell ⟨w.heap.size, 0, none⟩ (.int .i64 off)).setCell ⟨w.heap.size, 1, none⟩ (.slice a0 a1 a2)).setCell ⟨w.heap.size, 2, none⟩ (.slice b0 b1 b2)).setCell ⟨w.heap.size, 3, none⟩ (.slice c0 c1 c2)).setCell ⟨w.heap.size, 4, none⟩ (.slice d0 d1 d2)).setCell ⟨w.heap.size, 5, none⟩ (.slice e0 e1 e2)).setCell ⟨w.heap.size, 6, none⟩ (.slice f0 f1 f2)).setCell ⟨w.heap.size, 7, none⟩ (.bool false)).setCell ⟨w.heap.size, 8, none⟩ (.int .i64 0)).setCell ⟨w.heap.size, 9, none⟩ (.string ⟨#[]⟩)) = W at *
          have q0 := q.cell 0
          have q1 := q.cell 1
          have q2 := q.cell 2
          have q3 := q.cell 3
          have q4 := q.cell 4
          have q5 := q.cell 5
          have q6 := q.cell 6
          have q7 := q.cell 7
          have q8 := q.cell 8
          have q9 := q.cell 9
          simp only [List.getElem?_toArray, List.getElem?_cons_zero, List.getElem?_cons_succ] at q0 q1 q2 q3 q4 q5 q6 q7 q8 q9
          refine bodyPost_ret (v := .agg (outC off (.slice a0 a1 a2) (.slice b0 b1 b2) (.slice c0 c1 c2) (.slice d0 d1 d2) (.slice e0 e1 e2) (.slice f0 f1 f2) false 0 ⟨#[]⟩)) ?_ rfl ⟨_, rfl, hfin⟩
          simp [results, Try.results34, go_sem, q0, q1, q2, q3, q4, q5, q6, q7, q8, q9]
        · have o0 := hO.cell 0
          have o1 := hO.cell 1
          have o2 := hO.cell 2
          have o3 := hO.cell 3
          have o4 := hO.cell 4
          have o5 := hO.cell 5
          have o6 := hO.cell 6
          have o7 := hO.cell 7
          have o8 := hO.cell 8
          have o9 := hO.cell 9
          have z0 := hZ.cell 0
          have z1 := hZ.cell 1
          have z2 := hZ.cell 2
          have z3 := hZ.cell 3
          have z4 := hZ.cell 4
          have z5 := hZ.cell 5
          have z6 := hZ.cell 6
          have z7 := hZ.cell 7
          have z8 := hZ.cell 8
          have z9 := hZ.cell 9
          have hfz := hZ.free
          simp only [List.getElem?_toArray, List.getElem?_cons_zero, List.getElem?_cons_succ] at o0 o1 o2 o3 o4 o5 o6 o7 o8 o9 z0 z1 z2 z3 z4 z5 z6 z7 z8 z9
          have hfo := hO.free
          have hEl := hE.lt
          have ee0 : wr.cell? ⟨E, 0, none⟩ = some (.int .i64 eo) := hK.cell (hE.cell 0) (by simp)
          have ee1 : wr.cell? ⟨E, 1, none⟩ = some (.string em) := hK.cell (hE.cell 1) (by simp)
          have hZ2 : Blk (((wr.setCell ⟨w.heap.size + 1, 7, none⟩ (.bool true)).setCell ⟨w.heap.size + 1, 8, none⟩ (.int .i64 eo)).setCell ⟨w.heap.size + 1, 9, none⟩ (.string em)) w.heap.size 29 zeroOut := ((hZ.other _ _ (by show w.heap.size ≠ w.heap.size + 1; omega)).other _ _ (by show w.heap.size ≠ w.heap.size + 1; omega)).other _ _ (by show w.heap.size ≠ w.heap.size + 1; omega)
          have hK2 : Keep [w.heap.size, w.heap.size + 1] wr (((wr.setCell ⟨w.heap.size + 1, 7, none⟩ (.bool true)).setCell ⟨w.heap.size + 1, 8, none⟩ (.int .i64 eo)).setCell ⟨w.heap.size + 1, 9, none⟩ (.string em)) := ((Keep.setCell _ _ _ (by simp)).trans' (Keep.setCell _ _ _ (by simp))).trans' (Keep.setCell _ _ _ (by simp))
          have HZ : Hid _ := hZ2
          have HK2 : Hid _ := hK2
          clear hZ2 hK2 hO hZ ha hb hc hd he hf j1 j2 j3 hK hlt ho ht hL hE
          go_wp2
          obtain ⟨q, qk⟩ := ten_sets (w := ((wr.setCell ⟨w.heap.size + 1, 7, none⟩ (.bool true)).setCell ⟨w.heap.size + 1, 8, none⟩ (.int .i64 eo)).setCell ⟨w.heap.size + 1, 9, none⟩ (.string em)) (b := w.heap.size) (t := 29) HZ.out (.int .i64 off) (.slice a0 a1 a2) (.slice b0 b1 b2) (.slice c0 c1 c2) (.slice d0 d1 d2) (.slice e0 e1 e2) (.slice f0 f1 f2) (.bool true) (.int .i64 eo) (.string em)
          have hfin := Hfin.out _ (Keep.trans' HK2.out (qk.mono (by simp)))
          clear Hfin HZ qk
          generalize (((((((((((((wr.setCell ⟨w.heap.size + 1, 7, none⟩ (.bool true)).setCell ⟨w.heap.size + 1, 8, none⟩ (.int .i64 eo)).setCell ⟨w.heap.size + 1, 9, none⟩ (.string em)).setCell ⟨w.heap.size, 0, none⟩ (.int .i64 off)).setCell ⟨w.heap.size, 1, none⟩ (.slice a0 a1 a2)).setCell ⟨w.heap.size, 2, none⟩ (.slice b0 b1 b2)).setCell ⟨w.heap.size, 3, none⟩ (.slice c0 c1 c2)).setCell ⟨w.heap.size, 4, none⟩ (.slice d0 d1 d2)).setCell ⟨w.heap.size, 5, none⟩ (.slice e0 e1 e2)).setCell ⟨w.heap.size, 6, none⟩ (.slice f0 f1 f2)).setCell ⟨w.heap.size, 7, none⟩ (.bool true)).setCell ⟨w.heap.size, 8, none⟩ (.int .i64 eo)).setCell ⟨w.heap.size, 9, none⟩ (.string em)) = W at *
          have q0 := q.cell 0
          have q1 := q.cell 1
          have q2 := q.cell 2
          have q3 := q.cell 3
          have q4 := q.cell 4
          have q5 := q.cell 5
          have q6 := q.cell 6
          have q7 := q.cell 7
          have q8 := q.cell 8
          have q9 := q.cell 9
          simp only [List.getElem?_toArray, List.getElem?_cons_zero, List.getElem?_cons_succ] at q0 q1 q2 q3 q4 q5 q6 q7 q8 q9
          refine bodyPost_ret (v := .agg (outC off (.slice a0 a1 a2) (.slice b0 b1 b2) (.slice c0 c1 c2) (.slice d0 d1 d2) (.slice e0 e1 e2) (.slice f0 f1 f2) true eo em)) ?_ rfl ⟨_, rfl, hfin⟩
          simp [results, Try.results34, go_sem, q0, q1, q2, q3, q4, q5, q6, q7, q8, q9]
end Go.Proofs.Qxb6601273a
