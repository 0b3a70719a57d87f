import Derived.Test.Qxb6601273aOut
import Derived.Test.Qxb6601273aClone
namespace Go.Proofs.Qxb6601273a
open Go.RowKit
set_option linter.unusedVariables false

/-- b is what v has become by appends: v's own row and new blocks alone were written. -/
def Grow (v : Value) (w : World) (b : Value) (wr : World) : Prop := Keep v.ownBlock.toList w wr ∧ ∀ g, b.ownBlock = some g → v.ownBlock = some g ∨ w.heap.size ≤ g

theorem Grow.refl (v : Value) (w : World) : Grow v w v w := ⟨Keep.refl _ _, fun g h => .inl h⟩
theorem Grow.trans {v b c : Value} {w w1 w2 : World} (h : Grow v w b w1) (h' : Grow b w1 c w2) : Grow v w c w2 := by
  refine ⟨h.1.trans h'.1 (fun x hx => ?_), fun g hg => ?_⟩
  · rcases h.2 x (by simpa using hx) with h1 | h1
    · left; simpa using h1
    · exact .inr h1
  · rcases h'.2 g hg with h1 | h1
    · exact h.2 g h1
    · right; have := h.1.size; omega
theorem Grow.app {wr X w1 : World} {v : Value} {g l c : Nat} (hX : Keep [] wr X) (hg : X.grownBy w1 v.ownBlock) (hat : v.ownBlock = some g ∨ wr.heap.size ≤ g) : Grow v wr (.slice (some ⟨g, 0, none⟩) l c) w1 :=
  ⟨keep_app hX hg, fun g' h => by simp [Value.ownBlock] at h; subst h; exact hat⟩
theorem byteCells_append (a b : List UInt8) : byteCells (a ++ b) = byteCells a ++ byteCells b := by simp [byteCells]

set_option maxHeartbeats 1000000 in
theorem f21_any (v : Value) (bs : List UInt8) (s : ByteArray) (base : Nat) (w : World) (h : w.ownsRow base 5 1 v bs.length (byteCells bs)) (hb : base ≤ w.heap.size) (hn : bs.length ≤ 10000000) (hs : s.size ≤ 10000000) :
    Calls Try.prog 21 #[v, .string s] w fun e w' => ∃ v', e = .returned v' ∧ w'.ownsRow base 5 1 v' (bs ++ s.data.toList).length (byteCells (bs ++ s.data.toList)) ∧ Grow v w v' w' := by
  obtain ⟨i0, hi, hz0, hz1, hz2⟩ := info_parts info5
  go_enter Try.func21, Try.ntmps21
  go_wp2
  go_loopw [0, 5] (fun b i wr => ∃ k : Nat, k ≤ s.size ∧ i = .int .i64 k ∧ wr.ownsRow base 5 1 b (bs.length + k) (byteCells (bs ++ s.data.toList.take k)) ∧ Grow v w b wr) (fun _ i _ => s.size - (intOf i).toNat)
  case atStart => exact ⟨0, Nat.zero_le _, rfl, by simpa using h, Grow.refl _ _⟩
  case round =>
    obtain ⟨k, hk, rfl, hown, hG⟩ := hrel
    by_cases hlt : k < s.size
    · obtain ⟨x0, l0, c0, rfl⟩ := owns_slice hown
      have hsz := hG.1.size
      have hnext : ∀ g cap w1, w1.ownsRow base 5 1 (.slice (some ⟨g, 0, none⟩) (bs.length + k + 1) cap) (bs.length + k + 1) (byteCells (bs ++ s.data.toList.take k) ++ [.int .u8 (s[k].toNat : Int)]) → Grow (.slice x0 l0 c0) wr (.slice (some ⟨g, 0, none⟩) (bs.length + k + 1) cap) w1 →
          ∃ k' : Nat, k' ≤ s.size ∧ Value.int .i64 ((k : Int) + 1) = .int .i64 k' ∧ w1.ownsRow base 5 1 (.slice (some ⟨g, 0, none⟩) (bs.length + k + 1) cap) (bs.length + k') (byteCells (bs ++ s.data.toList.take k')) ∧ Grow v w (.slice (some ⟨g, 0, none⟩) (bs.length + k + 1) cap) w1 := by
        intro g cap w1 h1 h2
        refine ⟨k + 1, by omega, by simp, ?_, hG.trans h2⟩
        have e : bs ++ s.data.toList.take (k + 1) = (bs ++ s.data.toList.take k) ++ [s[k]] := by
          rw [List.take_succ_eq_append_getElem (by exact hlt), List.append_assoc]; rfl
        rw [e, byteCells_append]
        exact h1
      have Hnext : Hid _ := hnext
      clear hnext hG h
      go_wp2_with (at_builtin; refine wpList_append_lies _ rfl (.tmp 12) (.tmp 16) 22 rfl base 5 i0 (.int .u8 0) 1 1 Try.underlying22 hi hz0 hz1 hz2 rfl (by decide) (.slice x0 l0 c0) (bs.length + k) (byteCells (bs ++ s.data.toList.take k)) rfl (hown.alloc _) ⟨wr.heap.size, 0, none⟩ 1 1 [.int .u8 (s[k].toNat : Int)] rfl rfl ?c1 ?c2 (by decide) ?c3 ?c4 ?c5 (wr.heap.size + 1) ?c6 ?_)
      case c1 => exact World.news_of_block (heap_alloc_new wr _)
      case c2 => intro u hu; simp at hu; subst hu; rfl
      case c3 => unfold maxLen; omega
      case c4 => omega
      case c5 => simp; omega
      case c6 => simp
      intro g cap w1 hown1 hgrow hat hlt1
      have R := Hnext.out g cap w1 hown1 (Grow.app (Keep.alloc _ _ _) hgrow (hat.imp id (by omega)))
      have HR : Hid _ := R
      clear R hgrow hat hown1 hown
      go_wp2
      go_roundw
      case rel => exact HR.out
      case measure => simp [intOf]; omega
    · have ek : k = s.size := by omega
      subst ek
      obtain ⟨x0, l0, c0, rfl⟩ := owns_slice hown
      have e : s.data.toList.take s.size = s.data.toList := List.take_of_length_le (by exact Nat.le_refl _)
      rw [e] at hown
      have hln : (bs ++ s.data.toList).length = bs.length + s.size := by rw [List.length_append]; rfl
      rw [← hln] at hown
      have Hown : Hid _ := hown
      clear hown h e hln
      go_wp2
      go_ret
      exact ⟨_, rfl, Hown.out, hG⟩

set_option maxHeartbeats 1000000 in
theorem f16_any (s : ByteArray) (w : World) (hs : s.size ≤ 10000000) :
    Calls Try.prog 16 #[.string s] w fun e w' => ∃ v', e = .returned v' ∧ w'.ownsRow w.heap.size 5 1 v' s.data.toList.length (byteCells s.data.toList) ∧ Keep [] w w' := by
  obtain ⟨i0, hi, hz0, hz1, hz2⟩ := info_parts info5
  go_enter Try.func16, Try.ntmps16
  go_wp2_with (at_make; refine wpList_make_own _ rfl (.const (.int .i64 0)) (.tmp 4) 22 rfl w.heap.size 5 i0 (.int .u8 0) 1 Try.underlying22 hi hz0 hz1 .i64 .i64 _ s.size rfl rfl rfl ?c1 ?c2 ?c3 ?_)
  case c1 => rw [hz2]; omega
  case c2 => unfold maxLen; omega
  case c3 => exact Nat.le_refl _
  intro w1 hown hgrow
  have hK1 : Keep [] w w1 := Keep.grown hgrow (by intro k hk; cases hk)
  clear hgrow hi hz0 hz1 hz2
  go_wp2_with fail
  refine (f21_any _ [] s w.heap.size _ hown hK1.size (by simp) hs).mono ?_
  rintro e w2 ⟨v', rfl, h1, h2⟩
  obtain ⟨x0, l0, c0, rfl⟩ := owns_slice h1
  have hf : w2.ownsRow w.heap.size 5 1 (.slice x0 l0 c0) s.data.toList.length (byteCells s.data.toList) ∧ Keep [] w w2 :=
    ⟨h1, hK1.trans h2.1 (by intro x hx; right; simp [Value.ownBlock] at hx; omega)⟩
  have Hf : Hid _ := hf
  clear hf h1 h2 hown hK1
  go_wp2
  go_ret
  exact ⟨_, rfl, Hf.out⟩

def le20 (n : Nat) : Bool := decide (n ≤ 1048576)
set_option maxHeartbeats 400000 in
theorem f15_any (a : Option Addr) (len cap : Nat) (i : Int) (w : World) (h : len ≤ maxLen) :
    Calls Try.prog 15 #[.slice a len cap, .int .i64 i] w fun e w' => e = .returned (.bool (le20 len)) ∧ w' = w := by
  unfold maxLen at h
  go_enter Try.func15, Try.ntmps15
  go_wp2
  all_goals
    go_ret
    exact ⟨ret_bool (by unfold le20; simp; omega), rfl⟩
set_option maxHeartbeats 400000 in
theorem f10_any (a : Option Addr) (len cap : Nat) (i : Int) (w : World) (h : len ≤ maxLen) :
    Calls Try.prog 10 #[.slice a len cap, .int .i64 i] w fun e w' => e = .returned (.bool (le20 len)) ∧ w' = w := by
  unfold maxLen at h
  go_enter Try.func10, Try.ntmps10
  go_wp2
  all_goals
    go_ret
    exact ⟨ret_bool (by unfold le20; simp; omega), rfl⟩
end Go.Proofs.Qxb6601273a
