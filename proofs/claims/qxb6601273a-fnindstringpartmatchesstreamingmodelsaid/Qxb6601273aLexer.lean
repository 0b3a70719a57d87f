import Derived.Test.Qxb6601273aLeaf
import Derived.Test.Qxb6601273aEmit
import Derived.Deep.OwnRows
import Derived.Deep.AppendLies
import Derived.Deep.RegionHeld3
import Derived.Laws.IdiomStrings
import Derived.Laws.BytesArg
namespace Go.Proofs.Qxb6601273a
open Go.RowKit
set_option linter.unusedVariables false

/-- v is a slice of the cells cs, one an element, of type t: nil, or at the head of a block. -/
def RowAt (w : World) (t : TypeId) (v : Value) (cs : List Value) : Prop :=
  (v = .slice none 0 0 ∧ cs = []) ∨ ∃ g cap cur, v = .slice (some ⟨g, 0, none⟩) cs.length cap ∧ cs.length ≤ cap ∧ Blk w g t cur ∧ ∀ k, k < cs.length → cur[k]? = cs[k]?

theorem RowAt.open {w : World} {t : TypeId} {v : Value} {cs : List Value} (h : RowAt w t v cs) :
    ∃ ao cap, v = .slice ao cs.length cap ∧ cs.length ≤ cap ∧ ∀ k, k < cs.length → ∃ g cur, ao = some ⟨g, 0, none⟩ ∧ Blk w g t cur ∧ w.cell? ⟨g, k, none⟩ = cs[k]? := by
  rcases h with ⟨rfl, rfl⟩ | ⟨g, cap, cur, rfl, hle, hb, hc⟩
  · exact ⟨none, 0, rfl, Nat.le_refl _, fun k hk => by simp at hk⟩
  · exact ⟨_, cap, rfl, hle, fun k hk => ⟨g, cur, rfl, hb, by rw [hb.cell, hc k hk]⟩⟩

theorem RowAt.of_owns {w : World} {base : Nat} {t : TypeId} {v : Value} {cs : List Value} {n : Nat} (h : w.ownsRow base t 1 v n cs) : RowAt w t v cs := by
  have hn : cs.length = n := by simpa using h.1
  subst hn
  rcases h.2 with ⟨hv, hn⟩ | ⟨g, cap, cur, hv, _, hg, hle, _, hsz, ht⟩
  · exact .inl ⟨hv, List.eq_nil_of_length_eq_zero hn⟩
  · refine .inr ⟨g, cap, cur, hv, hle, hg, fun k hk => ?_⟩
    rw [← ht, List.getElem?_take, if_pos (by omega)]
    simp

theorem Keep.row {S : List Nat} {w w' : World} {t : TypeId} {v : Value} {cs : List Value} (h : Keep S w w') (hs : RowAt w t v cs) (hn : ∀ g, v.ownBlock = some g → g ∉ S) : RowAt w' t v cs := by
  rcases hs with h1 | ⟨g, cap, cur, hv, hle, hb, hc⟩
  · exact .inl h1
  · exact .inr ⟨g, cap, cur, hv, hle, h.blk hb (hn g (by rw [hv]; rfl)), hc⟩

abbrev Op3 := Int × Int × Int
def openCells (os : List Op3) : List Value := os.flatMap fun o => [.int .i64 o.1, .int .i64 o.2.1, .int .i64 o.2.2]
theorem openCells_length (os : List Op3) : (openCells os).length = os.length * 3 := by
  induction os with
  | nil => rfl
  | cons o os ih => simp [openCells] at ih ⊢; omega

theorem openCells_get : ∀ (os : List Op3) (j : Nat) (h : j < os.length), (openCells os)[j * 3]? = some (.int .i64 os[j].1) ∧ (openCells os)[j * 3 + 1]? = some (.int .i64 os[j].2.1) ∧ (openCells os)[j * 3 + 2]? = some (.int .i64 os[j].2.2)
  | [], j, h => by simp at h
  | o :: os, 0, _ => by simp [openCells]
  | o :: os, j + 1, h => by
    have ih := openCells_get os j (by simpa using h)
    have e : openCells (o :: os) = [.int .i64 o.1, .int .i64 o.2.1, .int .i64 o.2.2] ++ openCells os := rfl
    rw [e]
    refine ⟨?_, ?_, ?_⟩
    · rw [List.getElem?_append_right (by simp; omega)]
      simpa [show (j + 1) * 3 - 3 = j * 3 by omega] using ih.1
    · rw [List.getElem?_append_right (by simp; omega)]
      simpa [show (j + 1) * 3 + 1 - 3 = j * 3 + 1 by omega] using ih.2.1
    · rw [List.getElem?_append_right (by simp; omega)]
      simpa [show (j + 1) * 3 + 2 - 3 = j * 3 + 2 by omega] using ih.2.2

/-- The row's cells hold the first k openings. -/
def OpensTo (cur : Array Value) (os : List Op3) (k : Nat) : Prop :=
  ∀ j (h : j < os.length), j < k → cur[j * 3]? = some (.int .i64 os[j].1) ∧ cur[j * 3 + 1]? = some (.int .i64 os[j].2.1) ∧ cur[j * 3 + 2]? = some (.int .i64 os[j].2.2)

theorem opens_all {cur : Array Value} {os : List Op3} (hsz : cur.size = os.length * 3) (h : OpensTo cur os os.length) : cur.toList = openCells os := by
  apply List.ext_getElem?
  intro i
  by_cases hi : i < os.length * 3
  · have hj : i / 3 < os.length := by omega
    obtain ⟨a0, a1, a2⟩ := h (i / 3) hj hj
    obtain ⟨b0, b1, b2⟩ := openCells_get os (i / 3) hj
    rw [Array.getElem?_toList]
    have hm : i % 3 = 0 ∨ i % 3 = 1 ∨ i % 3 = 2 := by omega
    rcases hm with hm | hm | hm
    · have e : i = i / 3 * 3 := by omega
      rw [e, a0, b0]
    · have e : i = i / 3 * 3 + 1 := by omega
      rw [e, a1, b1]
    · have e : i = i / 3 * 3 + 2 := by omega
      rw [e, a2, b2]
  · rw [List.getElem?_eq_none (by simpa using (by omega)), List.getElem?_eq_none (by rw [openCells_length]; omega)]

theorem open_step {w wr : World} {G k : Nat} {cur : Array Value} {os : List Op3} (hB : Blk wr G 63 cur) (hsz : cur.size = os.length * 3) (hcur : OpensTo cur os k) (hlt : k < os.length) (hK : Keep [] w wr) (hG : w.heap.size ≤ G) :
    ∃ cur', Blk (((wr.setCell ⟨G, k * 3, none⟩ (.int .i64 os[k].1)).setCell ⟨G, k * 3 + 1, none⟩ (.int .i64 os[k].2.1)).setCell ⟨G, k * 3 + 2, none⟩ (.int .i64 os[k].2.2)).drew G 63 cur' ∧ cur'.size = os.length * 3 ∧ OpensTo cur' os (k + 1) ∧
      Keep [] w (((wr.setCell ⟨G, k * 3, none⟩ (.int .i64 os[k].1)).setCell ⟨G, k * 3 + 1, none⟩ (.int .i64 os[k].2.1)).setCell ⟨G, k * 3 + 2, none⟩ (.int .i64 os[k].2.2)).drew := by
  refine ⟨_, (((hB.set (k * 3) _).set (k * 3 + 1) _).set (k * 3 + 2) _).drew, by simpa using hsz, fun j h hj => ?_, ?_⟩
  · simp only [Array.getElem?_setIfInBounds, Array.size_setIfInBounds]
    by_cases e : j = k
    · subst e
      refine ⟨?_, ?_, ?_⟩
      · rw [if_neg (by omega), if_neg (by omega), if_pos rfl, if_pos (by omega)]
      · rw [if_neg (by omega), if_pos rfl, if_pos (by omega)]
      · rw [if_pos rfl, if_pos (by omega)]
    · obtain ⟨a0, a1, a2⟩ := hcur j h (by omega)
      refine ⟨?_, ?_, ?_⟩
      · rw [if_neg (by omega), if_neg (by omega), if_neg (by omega), a0]
      · rw [if_neg (by omega), if_neg (by omega), if_neg (by omega), a1]
      · rw [if_neg (by omega), if_neg (by omega), if_neg (by omega), a2]
  · refine hK.trans (S' := [G]) ?_ (by intro x hx; right; simp at hx; omega)
    exact (((Keep.setCell _ _ _ (by simp)).trans' (Keep.setCell _ _ _ (by simp))).trans' (Keep.setCell _ _ _ (by simp))).trans' (Keep.drew _ _)

theorem run_conv_src {w : World} {v : Value} {bs : List UInt8} (h : Src w v bs) : (convert 22 9 v).run Try.prog w = .ok (.string ⟨bs.toArray⟩) w := by
  rcases h with ⟨rfl, rfl⟩ | ⟨g, cap, cs, rfl, hle, hb, hc⟩
  · exact run_convert_bytes_nil w 22 5 Try.underlying22 Try.underlying5 0 0 9 Try.underlying9
  · refine run_convert_bytes_back w 22 9 5 ⟨g, 0, none⟩ cap bs Try.underlying22 Try.underlying5 Try.underlying9 fun j hj => ?_
    have hadd : (⟨g, 0, none⟩ : Addr).add j = ⟨g, j, none⟩ := by unfold Addr.add; split <;> simp_all
    rw [hadd, hb.cell, hc j hj, byteAt_in hj]

theorem Src.form {w : World} {v : Value} {bs : List UInt8} (h : Src w v bs) : ∃ a c, v = .slice a bs.length c := by
  rcases h with ⟨rfl, rfl⟩ | ⟨g, cap, cs, rfl, _⟩
  · exact ⟨_, _, rfl⟩
  · exact ⟨_, _, rfl⟩

theorem info63 : (Try.prog.info? 63).map (fun i => (i.zero, i.size, i.bytes)) = some (some (.agg #[.int .i64 0, .int .i64 0, .int .i64 0]), 3, 24) := by kernel_rfl
theorem owns_blk {w : World} {base : Nat} {e : TypeId} {size g n cap : Nat} {xs : List Value} (h : w.ownsRow base e size (.slice (some ⟨g, 0, none⟩) n cap) n xs) : ∃ cur, Blk w g e cur ∧ cur.size = cap * size ∧ cur.toList.take (n * size) = xs ∧ base ≤ g := by
  rcases h.2 with ⟨h1, _⟩ | ⟨g', cap', cur, hv, hb, hg, _, _, hs, ht⟩
  · cases h1
  · simp at hv
    obtain ⟨rfl, rfl⟩ := hv
    exact ⟨cur, hg, hs, ht, hb⟩

set_option maxHeartbeats 1000000 in
theorem f32_any (v vo vk vb : Value) (bs : List UInt8) (off : Int) (os : List Op3) (w : World) (hs : Src w v bs) (ho : RowAt w 3 vo (os.map fun o => .int .i64 o.1)) (hk : RowAt w 3 vk (os.map fun o => .int .i64 o.2.1)) (hb : RowAt w 3 vb (os.map fun o => .int .i64 o.2.2))
    (hn : os.length ≤ 1000000) :
    Calls Try.prog 32 #[v, .int .i64 off, vo, vk, vb] w fun e w' => ∃ L ov, e = .returned (.pointer (some ⟨L, 0, none⟩)) ∧ Blk w' L 66 (lexC v ⟨bs.toArray⟩ off (.slice none 0 0) ov) ∧ w'.ownsRow w.heap.size 63 3 ov os.length (openCells os) ∧ w.heap.size ≤ L ∧ Keep [] w w' := by
  obtain ⟨ao, co, rfl, hlo, hco⟩ := ho.open
  obtain ⟨ak, ck, rfl, hlk, hck⟩ := hk.open
  obtain ⟨ab, cb, rfl, hlb, hcb⟩ := hb.open
  simp only [List.length_map] at *
  obtain ⟨sa, sc, rfl⟩ := hs.form
  obtain ⟨i0, hi, hz0, hz1, hz2⟩ := info_parts info63
  go_enter Try.func32, Try.ntmps32
  go_wp2_with (at_make; refine wpList_make_full _ rfl (.tmp 14) (.tmp 14) 60 rfl w.heap.size 63 i0 (.agg #[.int .i64 0, .int .i64 0, .int .i64 0]) 3 Try.underlying60 hi hz0 hz1 .i64 .i64 _ _ os.length rfl rfl rfl rfl ?c1 ?c2 ?c3 ?_)
  case c1 => rw [hz2]; omega
  case c2 => unfold maxLen; omega
  case c3 => exact Nat.le_refl _
  intro w1 hown hgrow
  obtain ⟨cur0, hB0, hsz0, _, _⟩ := owns_blk hown
  have hK0 : Keep [] w w1 := Keep.grown hgrow (by intro k hk; cases hk)
  clear hown hgrow hi hz0 hz1 hz2
  go_wp2
  go_loopw [12] (fun i wr => ∃ (k : Nat) (cur : Array Value), k ≤ os.length ∧ i = .int .i64 k ∧ Blk wr w.heap.size 63 cur ∧ cur.size = os.length * 3 ∧ OpensTo cur os k ∧ Keep [] w wr) (fun i _ => os.length - (intOf i).toNat)
  case atStart => exact ⟨0, cur0, Nat.zero_le _, rfl, hB0, hsz0, fun j _ h => by omega, hK0⟩
  case round =>
    clear hB0 hK0 hsz0
    obtain ⟨k, cur, hk, rfl, hB, hsz, hcur, hK⟩ := hrel
    by_cases hlt : k < os.length
    · obtain ⟨go, cuo, rfl, hBo, hco'⟩ := hco k hlt
      obtain ⟨gk, cuk, rfl, hBk, hck'⟩ := hck k hlt
      obtain ⟨gb, cub, rfl, hBb, hcb'⟩ := hcb k hlt
      rw [List.getElem?_map, List.getElem?_eq_getElem hlt] at hco' hck' hcb'
      have eo : wr.cell? ⟨go, k, none⟩ = some (.int .i64 (os[k]).1) := hK.cell hco' (by simp)
      have ek : wr.cell? ⟨gk, k, none⟩ = some (.int .i64 (os[k]).2.1) := hK.cell hck' (by simp)
      have eb : wr.cell? ⟨gb, k, none⟩ = some (.int .i64 (os[k]).2.2) := hK.cell hcb' (by simp)
      obtain ⟨old0, hG0⟩ : ∃ old, wr.cell? ⟨w.heap.size, k * 3, none⟩ = some old := ⟨_, by rw [hB.cell]; exact Array.getElem?_eq_getElem (by omega)⟩
      obtain ⟨old1, hG1⟩ : ∃ old, wr.cell? ⟨w.heap.size, k * 3 + 1, none⟩ = some old := ⟨_, by rw [hB.cell]; exact Array.getElem?_eq_getElem (by omega)⟩
      obtain ⟨old2, hG2⟩ : ∃ old, wr.cell? ⟨w.heap.size, k * 3 + 2, none⟩ = some old := ⟨_, by rw [hB.cell]; exact Array.getElem?_eq_getElem (by omega)⟩
      have hF0 := hB.free (k * 3)
      have hF1 := hB.free (k * 3 + 1)
      have hF2 := hB.free (k * 3 + 2)
      have hk0 : (0 : Int) ≤ (k : Int) := by omega
      have hk1 : (k : Int) < (os.length : Int) := by omega
      have R := open_step hB hsz hcur hlt hK (Nat.le_refl _)
      have HR : Hid _ := R
      clear R
      generalize (os[k]).1 = zo at *
      generalize (os[k]).2.1 = zk at *
      generalize (os[k]).2.2 = zb at *
      clear hcb hco hck ho hb hs hK hB hcur hBo hBk hBb hco' hck' hcb' hsz
      go_wp2
      go_region
      all_goals go_wp2
      all_goals go_roundw
      case rel =>
        obtain ⟨cur', r1, r2, r3, r4⟩ := HR.out
        exact ⟨k + 1, cur', by omega, by simp, r1, r2, r3, r4⟩
      case measure => simp [intOf]; omega
    · have ek : k = os.length := by omega
      subst ek
      have hown : wr.ownsRow w.heap.size 63 3 (.slice (some ⟨w.heap.size, 0, none⟩) os.length os.length) os.length (openCells os) :=
        ⟨openCells_length os, .inr ⟨w.heap.size, os.length, cur, rfl, Nat.le_refl _, hB, Nat.le_refl _, by unfold maxLen; omega, by omega, by rw [opens_all hsz hcur, List.take_of_length_le (by rw [openCells_length]; omega)]⟩⟩
      have hcv := run_conv_src (hK.src hs (by simp))
      have hlw := hK.size
      have Hown : Hid _ := hown
      have HK : Hid _ := hK
      clear hown hcb hco hck ho hb hs hB hcur hsz hK hk
      go_wp2
      go_ret
      refine ⟨_, _, rfl, Blk.new _ _ _, World.ownsRow.alloc Hown.out _, hlw, HK.out.trans' (Keep.alloc _ _ _)⟩
end Go.Proofs.Qxb6601273a
