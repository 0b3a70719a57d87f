import Derived.Test.Qxb6601273aLeaf
import Derived.Deep.AppendLies
namespace Go.Proofs.Qxb6601273a
open Go.RowKit
set_option linter.unusedVariables false

theorem info71 : (Try.prog.info? 71).map (fun i => (i.zero, i.size, i.bytes)) = some (some (.agg #[.string ⟨#[]⟩, .int .i32 0, .int .u8 0]), 3, 24) := by kernel_rfl

theorem owns_ne {w : World} {base : Nat} {e : TypeId} {size : Nat} {v : Value} {n : Nat} {xs : List Value} (h : w.ownsRow base e size v n xs) {b : Nat} {t : TypeId} {cs : Array Value} (hb : Blk w b t cs) (hne : t ≠ e) : v.ownBlock ≠ some b := by
  intro hv
  rcases h.2 with ⟨rfl, _⟩ | ⟨g, cap, cur, rfl, _, hg, _⟩
  · simp [Value.ownBlock] at hv
  · simp [Value.ownBlock] at hv
    subst hv
    exact (Blk.ne (show Blk w g e cur from hg) hb (Ne.symm hne)) rfl

set_option maxHeartbeats 1000000 in
theorem f45_any (L base n : Nat) (v tv ov : Value) (text s : ByteArray) (off : Int) (at_ kind : Int) (xs : List Value) (w : World) (hL : Blk w L 66 (lexC v text off tv ov))
    (ht : w.ownsRow base 71 3 tv n xs) (hbase : base ≤ w.heap.size) (hn : n ≤ 100000000) (ha : 0 ≤ at_) (ha' : at_ ≤ 100000000) (hk : 0 ≤ kind) (hk' : kind ≤ 255) :
    Calls Try.prog 45 #[.pointer (some ⟨L, 0, none⟩), .int .u8 kind, .int .i64 at_, .string s] w fun e w' => e = .returned (.tuple #[]) ∧
      ∃ g cap, Blk w' L 66 (lexC v text off (.slice (some ⟨g, 0, none⟩) (n + 1) cap) ov) ∧ w'.ownsRow base 71 3 (.slice (some ⟨g, 0, none⟩) (n + 1) cap) (n + 1) (xs ++ [.string s, .int .i32 at_, .int .u8 kind]) ∧
        Keep (L :: tv.ownBlock.toList) w w' ∧ (tv.ownBlock = some g ∨ w.heap.size ≤ g) := by
  have c3 : w.cell? ⟨L, 3, none⟩ = some tv := hL.cell 3
  have f3 : w.frozen? ⟨L, 3, none⟩ = false := hL.free 3
  obtain ⟨i0, hi, hz0, hz1, hz2⟩ := info_parts info71
  have tvs : ∃ a l c, tv = .slice a l c := by
    rcases ht.2 with ⟨h, _⟩ | ⟨g, cap, cur, h, _⟩
    · exact ⟨_, _, _, h⟩
    · exact ⟨_, _, _, h⟩
  obtain ⟨ta, tl, tc, htv⟩ := tvs
  subst htv
  go_enter Try.func45, Try.ntmps45
  go_wp2_with (at_builtin; refine wpList_append_lies _ rfl (.tmp 12) (.tmp 18) 64 rfl base 71 i0 (.agg #[.string ⟨#[]⟩, .int .i32 0, .int .u8 0]) 3 24 Try.underlying64 hi hz0 hz1 hz2 rfl (by decide) (.slice ta tl tc) n xs rfl (ht.alloc _) ⟨w.heap.size, 0, none⟩ 1 1 [.string s, .int .i32 at_, .int .u8 kind] rfl rfl ?c1 ?c2 (by decide) ?c3 ?c4 ?c5 (w.heap.size + 1) ?c6 ?_)
  case c1 => exact World.news_of_block (heap_alloc_new w _)
  case c2 => intro u hu; simp at hu; rcases hu with rfl | rfl | rfl <;> rfl
  case c3 => unfold maxLen; omega
  case c4 => omega
  case c5 => simp; omega
  case c6 => simp
  intro g cap w1 hown hgrow hat hlt
  have hne : (Value.slice ta tl tc).ownBlock ≠ some L := owns_ne ht hL (by decide)
  have hK1 : Keep (L :: (Value.slice ta tl tc).ownBlock.toList) w w1 :=
    (Keep.alloc _ _ _).trans' (Keep.grown hgrow (by intro k hk; rw [hk]; simp))
  have hL1 : Blk w1 L 66 (lexC v text off (.slice ta tl tc) ov) :=
    (Keep.grown (S := (Value.slice ta tl tc).ownBlock.toList) hgrow (by intro k hk; rw [hk]; simp)).blk (hL.alloc _) (by intro h; exact hne (by simpa using h))
  have hne2 : (Value.slice (some ⟨g, 0, none⟩) (n + 1) cap).ownBlock ≠ some L := owns_ne hown hL1 (by decide)
  clear hgrow hL ht c3 f3
  have c3 : w1.cell? ⟨L, 3, none⟩ = some (.slice ta tl tc) := hL1.cell 3
  have f3 : w1.frozen? ⟨L, 3, none⟩ = false := hL1.free 3
  have fin : ∃ g' cap', Blk (w1.setCell ⟨L, 3, none⟩ (.slice (some ⟨g, 0, none⟩) (n + 1) cap)) L 66 (lexC v text off (.slice (some ⟨g', 0, none⟩) (n + 1) cap') ov) ∧ (w1.setCell ⟨L, 3, none⟩ (.slice (some ⟨g, 0, none⟩) (n + 1) cap)).ownsRow base 71 3 (.slice (some ⟨g', 0, none⟩) (n + 1) cap') (n + 1) (xs ++ [.string s, .int .i32 at_, .int .u8 kind]) ∧
        Keep (L :: (Value.slice ta tl tc).ownBlock.toList) w (w1.setCell ⟨L, 3, none⟩ (.slice (some ⟨g, 0, none⟩) (n + 1) cap)) ∧ ((Value.slice ta tl tc).ownBlock = some g' ∨ w.heap.size ≤ g') :=
    ⟨g, cap, hL1.set 3 _, ownsRow_setCell_other hown hne2 _, hK1.trans' (Keep.setCell _ _ _ (by simp)), hat.imp id (by omega)⟩
  have Hfin : Hid _ := fin
  clear fin hat hlt hown hne hK1 hL1 hne2
  go_wp2
  go_end0
  exact ⟨rfl, Hfin.out⟩
end Go.Proofs.Qxb6601273a
