import Derived.Test.Qxb6601273aZStr
import Derived.Test.Qxb6601273aSame
namespace Go.Proofs.Qxb6601273a
open Go.RowKit
set_option linter.unusedVariables false


set_option maxHeartbeats 1000000 in
theorem f24_some (x : Addr) (len cap : Nat) (zs : List Int) (w : World) (hle : len ≤ cap) (hz : zs.length = cap) (hlen : len ≤ 100000000) (hc : ∀ i, i < zs.length → w.cell? (x.add i) = some (.int .i64 (zs.getD i 0))) :
    Calls Try.prog 24 #[.slice (some x) len cap] w fun e w' => e = .returned (.slice (some ⟨w.heap.size, 0, none⟩) len len) ∧ ∃ cur, Blk w' w.heap.size 3 cur ∧ cur.size = len ∧ (∀ j, j < len → cur[j]? = some (.int .i64 (zs.getD j 0))) ∧ Keep [] w w' := by
  have hmk := run_make_row' (P := Try.prog) 27 3 (.int .i64 0) 8 Try.underlying27 info3 rfl .i64 .i64 len (by omega) (by omega)
  have heq := fun (W : World) => Lib.run_eql_slice_nil (P := Try.prog) W 27 3 (some x) len cap 0 0 Try.underlying27
  go_enter Try.func24, Try.ntmps24
  go_wp2
  clear hmk heq
  go_loopw [4] (fun i wr => ∃ (k : Nat) (cur : Array Value), k ≤ len ∧ i = .int .i64 k ∧ Blk wr w.heap.size 3 cur ∧ cur.size = len ∧ (∀ j, j < k → cur[j]? = some (.int .i64 (zs.getD j 0))) ∧ Keep [] w wr) (fun i _ => len - (intOf i).toNat)
  case atStart => exact ⟨0, _, Nat.zero_le _, rfl, Blk.new w 3 _, madeCells_size _ _, fun j h => by omega, Keep.alloc _ _ _⟩
  case round =>
    obtain ⟨k, cur, hk, rfl, hB, hsz, hcur, hK⟩ := hrel
    by_cases hlt : k < len
    · obtain ⟨b, off, rfl, hcb⟩ := ints_at hc (by omega)
      have hck : wr.cell? ⟨b, off + k, none⟩ = some (.int .i64 (zs.getD k 0)) := hK.cell (hcb k (by omega)) (by simp)
      obtain ⟨old, hG⟩ : ∃ old, wr.cell? ⟨w.heap.size, k, none⟩ = some old := ⟨_, by rw [hB.cell]; exact Array.getElem?_eq_getElem (by omega)⟩
      have hF := hB.free k
      have R : ∃ (k' : Nat) (cur' : Array Value), k' ≤ len ∧ Value.int .i64 ((k : Int) + 1) = .int .i64 k' ∧ Blk (wr.setCell ⟨w.heap.size, k, none⟩ (.int .i64 (zs.getD k 0))) w.heap.size 3 cur' ∧ cur'.size = len ∧ (∀ j, j < k' → cur'[j]? = some (.int .i64 (zs.getD j 0))) ∧ Keep [] w (wr.setCell ⟨w.heap.size, k, none⟩ (.int .i64 (zs.getD k 0))) := by
        refine ⟨k + 1, cur.setIfInBounds k (.int .i64 (zs.getD k 0)), by omega, by simp, hB.set k _, by simpa using hsz, fun j hj => ?_, hK.trans (Keep.setCell (S := [w.heap.size]) _ _ _ (by simp)) (by intro x hx; right; simp at hx; omega)⟩
        rw [Array.getElem?_setIfInBounds]
        by_cases e : k = j
        · subst e; rw [if_pos rfl, if_pos (by omega)]
        · rw [if_neg e]; exact hcur j (by omega)
      have HR : Hid _ := R
      clear R hcur hK hB hcb hc hsz
      generalize zs.getD k 0 = z at *
      go_wp2
      go_roundw
      case rel => exact HR.out
      case measure => simp [intOf]; omega
    · clear hc
      go_wp2
      go_ret
      exact ⟨rfl, cur, hB, hsz, fun j hj => hcur j (by omega), hK⟩

set_option maxHeartbeats 400000 in
theorem f24_none (w : World) :
    Calls Try.prog 24 #[.slice none 0 0] w fun e w' => e = .returned (.slice none 0 0) ∧ w' = w := by
  have heq := fun (W : World) => Lib.run_eql_slice_nil (P := Try.prog) W 27 3 none 0 0 0 0 Try.underlying27
  go_enter Try.func24, Try.ntmps24
  go_wp2
  go_ret
  exact ⟨rfl, rfl⟩

/-- The copy of whatever slice of ints came in. -/
theorem f24_any (a : Option Addr) (len cap : Nat) (zs : List Int) (w : World) (h : CameRow .i64 w a len cap zs) (hlen : len ≤ 1000000) :
    Calls Try.prog 24 #[.slice a len cap] w fun e w' => ∃ v, e = .returned v ∧ (zs.take len).length = len ∧ RowAt w' 3 v ((zs.take len).map fun z => .int .i64 z) ∧ Keep [] w w' := by
  rcases h with ⟨rfl, rfl, rfl, rfl⟩ | ⟨x, rfl, hle, hcm, hz, hc, hwf⟩
  · exact (f24_none w).mono fun e w' ⟨he, hw⟩ => ⟨_, he, rfl, .inl ⟨rfl, rfl⟩, by rw [hw]; exact Keep.refl _ _⟩
  · refine (f24_some x len cap zs w hle hz (by omega) hc).mono fun e w' ⟨he, cur, hB, hsz, hcur, hK⟩ => ?_
    have hl : (zs.take len).length = len := by simp; omega
    refine ⟨_, he, hl, .inr ⟨w.heap.size, len, cur, by rw [List.length_map, hl], by rw [List.length_map, hl]; exact Nat.le_refl _, hB, fun k hk => ?_⟩, hK⟩
    rw [List.length_map, hl] at hk
    rw [hcur k hk, List.getElem?_map, List.getElem?_take, if_pos hk, List.getElem?_eq_getElem (by omega)]
    simp [List.getD_eq_getElem?_getD, List.getElem?_eq_getElem (show k < zs.length by omega)]

/-- The sum of the lengths lies within 1<<20. -/
def le20s (a b c d : Nat) : Bool := decide (a + b + c + d ≤ 1048576)
set_option maxHeartbeats 1000000 in
theorem f23_any (a b c d : Option Addr) (la ca lb cb lc cc ld cd : Nat) (i : Int) (w : World) (h1 : la ≤ maxLen) (h2 : lb ≤ maxLen) (h3 : lc ≤ maxLen) (h4 : ld ≤ maxLen) :
    Calls Try.prog 23 #[.slice a la ca, .int .i64 i, .slice b lb cb, .slice c lc cc, .slice d ld cd] w fun e w' => e = .returned (.bool (le20s la lb lc ld)) ∧ w' = w := by
  unfold maxLen at h1 h2 h3 h4
  go_enter Try.func23, Try.ntmps23
  go_wp2
  all_goals
    go_ret
    exact ⟨ret_bool (by unfold le20s; simp; omega), rfl⟩
set_option maxHeartbeats 1000000 in
theorem f28_any (a b c d : Option Addr) (la ca lb cb lc cc ld cd : Nat) (i : Int) (w : World) (h1 : la ≤ maxLen) (h2 : lb ≤ maxLen) (h3 : lc ≤ maxLen) (h4 : ld ≤ maxLen) :
    Calls Try.prog 28 #[.slice a la ca, .int .i64 i, .slice b lb cb, .slice c lc cc, .slice d ld cd] w fun e w' => e = .returned (.bool (le20s la lb lc ld)) ∧ w' = w := by
  unfold maxLen at h1 h2 h3 h4
  go_enter Try.func28, Try.ntmps28
  go_wp2
  all_goals
    go_ret
    exact ⟨ret_bool (by unfold le20s; simp; omega), rfl⟩
set_option maxHeartbeats 1000000 in
theorem f30_any (a b c d : Option Addr) (la ca lb cb lc cc ld cd : Nat) (i : Int) (w : World) (h1 : la ≤ maxLen) (h2 : lb ≤ maxLen) (h3 : lc ≤ maxLen) (h4 : ld ≤ maxLen) :
    Calls Try.prog 30 #[.slice a la ca, .int .i64 i, .slice b lb cb, .slice c lc cc, .slice d ld cd] w fun e w' => e = .returned (.bool (le20s la lb lc ld)) ∧ w' = w := by
  unfold maxLen at h1 h2 h3 h4
  go_enter Try.func30, Try.ntmps30
  go_wp2
  all_goals
    go_ret
    exact ⟨ret_bool (by unfold le20s; simp; omega), rfl⟩
end Go.Proofs.Qxb6601273a
