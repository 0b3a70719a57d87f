import Derived.Test.Qxb6601273aLeaf
import Derived.OpenShut
import Derived.Deep.OwnRows
import Derived.Deep.AppendLies
namespace Go.Proofs.Qxb6601273a
open Go.RowKit
set_option linter.unusedVariables false

theorem info5 : (Try.prog.info? 5).map (fun i => (i.zero, i.size, i.bytes)) = some (some (.int .u8 0), 1, 1) := by kernel_rfl

/-- A slice of integers that came in (as the shells say it). -/
def CameRow (k : IntKind) (w : World) (a : Option Addr) (len cap : Nat) (zs : List Int) : Prop :=
  (a = none ∧ len = 0 ∧ cap = 0 ∧ zs = []) ∨
  ∃ x, a = some x ∧ len ≤ cap ∧ cap ≤ maxLen ∧ zs.length = cap ∧ (∀ i, i < zs.length → w.cell? (x.add i) = some (.int k (zs.getD i 0))) ∧ ∀ n ∈ zs, (Lit.int k n).wf = true

theorem madeCells_size (z : Array Value) (n : Nat) : (madeCells z n).size = n := by simp [madeCells]

set_option maxHeartbeats 1000000 in
theorem f11_some (x : Addr) (len cap : Nat) (zs : List Int) (w : World) (hle : len ≤ cap) (hz : zs.length = cap) (hlen : len ≤ 100000000) (hc : ∀ i, i < zs.length → w.cell? (x.add i) = some (.int .u8 (zs.getD i 0))) :
    Calls Try.prog 11 #[.slice (some x) len cap] w fun e w' => e = .returned (.slice (some ⟨w.heap.size, 0, none⟩) len len) ∧ ∃ cur, Blk w' w.heap.size 5 cur ∧ cur.size = len ∧ (∀ j, j < len → cur[j]? = some (.int .u8 (zs.getD j 0))) ∧ Keep [] w w' := by
  have hmk := run_make_row' (P := Try.prog) 22 5 (.int .u8 0) 1 Try.underlying22 info5 rfl .i64 .i64 len (by omega) (by omega)
  have heq := fun (W : World) => Lib.run_eql_slice_nil (P := Try.prog) W 22 5 (some x) len cap 0 0 Try.underlying22
  go_enter Try.func11, Try.ntmps11
  go_wp2
  clear hmk heq
  go_loopw [4] (fun i wr => ∃ (k : Nat) (cur : Array Value), k ≤ len ∧ i = .int .i64 k ∧ Blk wr w.heap.size 5 cur ∧ cur.size = len ∧ (∀ j, j < k → cur[j]? = some (.int .u8 (zs.getD j 0))) ∧ Keep [] w wr) (fun i _ => len - (intOf i).toNat)
  case atStart => exact ⟨0, _, Nat.zero_le _, rfl, Blk.new w 5 _, madeCells_size _ _, fun j h => by omega, Keep.alloc _ _ _⟩
  case round =>
    obtain ⟨k, cur, hk, rfl, hB, hsz, hcur, hK⟩ := hrel
    by_cases hlt : k < len
    · obtain ⟨b, off, rfl, hcb⟩ := ints_at hc (by omega)
      have hck : wr.cell? ⟨b, off + k, none⟩ = some (.int .u8 (zs.getD k 0)) := hK.cell (hcb k (by omega)) (by simp)
      obtain ⟨old, hG⟩ : ∃ old, wr.cell? ⟨w.heap.size, k, none⟩ = some old := ⟨_, by rw [hB.cell]; exact Array.getElem?_eq_getElem (by omega)⟩
      have hF := hB.free k
      have R : ∃ (k' : Nat) (cur' : Array Value), k' ≤ len ∧ Value.int .i64 ((k : Int) + 1) = .int .i64 k' ∧ Blk (wr.setCell ⟨w.heap.size, k, none⟩ (.int .u8 (zs.getD k 0))) w.heap.size 5 cur' ∧ cur'.size = len ∧ (∀ j, j < k' → cur'[j]? = some (.int .u8 (zs.getD j 0))) ∧ Keep [] w (wr.setCell ⟨w.heap.size, k, none⟩ (.int .u8 (zs.getD k 0))) := by
        refine ⟨k + 1, cur.setIfInBounds k (.int .u8 (zs.getD k 0)), by omega, by simp, hB.set k _, by simpa using hsz, fun j hj => ?_, hK.trans (Keep.setCell (S := [w.heap.size]) _ _ _ (by simp)) (by intro x hx; right; simp at hx; omega)⟩
        rw [Array.getElem?_setIfInBounds]
        by_cases e : k = j
        · subst e; rw [if_pos rfl, if_pos (by omega)]
        · rw [if_neg e]; exact hcur j (by omega)
      have HR : Hid _ := R
      clear R hcur hK hB hcb hc hsz
      generalize zs.getD k 0 = z at *
      go_wp2
      go_roundw
      case rel => exact HR.out
      case measure => simp [intOf]; omega
    · clear hc
      go_wp2
      go_ret
      exact ⟨rfl, cur, hB, hsz, fun j hj => hcur j (by omega), hK⟩

set_option maxHeartbeats 400000 in
theorem f11_none (w : World) :
    Calls Try.prog 11 #[.slice none 0 0] w fun e w' => e = .returned (.slice none 0 0) ∧ w' = w := by
  have heq := fun (W : World) => Lib.run_eql_slice_nil (P := Try.prog) W 22 5 none 0 0 0 0 Try.underlying22
  go_enter Try.func11, Try.ntmps11
  go_wp2
  go_ret
  exact ⟨rfl, rfl⟩

theorem bytes_of {zs : List Int} (h : ∀ n ∈ zs, (Lit.int .u8 n).wf = true) : ∃ bs : List UInt8, bs.length = zs.length ∧ ∀ j, j < zs.length → byteAt bs j = zs.getD j 0 := by
  refine ⟨zs.map fun z => UInt8.ofNat z.toNat, by simp, fun j hj => ?_⟩
  have hb := bounds_u8 (h zs[j] (List.getElem_mem hj))
  rw [byteAt_in (by simpa using hj)]
  simp only [List.getElem_map, List.getD_eq_getElem?_getD, List.getElem?_eq_getElem hj, Option.getD_some]
  rw [UInt8.toNat_ofNat_of_lt' (by show _ < 256; omega)]
  omega

/-- The copy of whatever slice of bytes came in: some bytes, in new memory. -/
theorem f11_any (a : Option Addr) (len cap : Nat) (zs : List Int) (w : World) (h : CameRow .u8 w a len cap zs) (hlen : len ≤ 100000000) :
    Calls Try.prog 11 #[.slice a len cap] w fun e w' => ∃ v bs, e = .returned v ∧ bs.length = len ∧ w'.ownsRow w.heap.size 5 1 v len (byteCells bs) ∧ Keep [] w w' := by
  rcases h with ⟨rfl, rfl, rfl, rfl⟩ | ⟨x, rfl, hle, hcm, hz, hc, hwf⟩
  · exact (f11_none w).mono fun e w' ⟨he, hw⟩ => ⟨_, [], he, rfl, by rw [hw]; exact World.ownsRow_nil _ _ _ _, by rw [hw]; exact Keep.refl _ _⟩
  · refine (f11_some x len cap zs w hle hz hlen hc).mono fun e w' ⟨he, cur, hB, hsz, hcur, hK⟩ => ?_
    obtain ⟨bs, hbl, hbz⟩ := bytes_of hwf
    refine ⟨_, bs.take len, he, by simp; omega, ⟨by simp [byteCells_length]; omega, .inr ⟨w.heap.size, len, cur, rfl, Nat.le_refl _, hB, Nat.le_refl _, by unfold maxLen; omega, by omega, ?_⟩⟩, hK⟩
    apply List.ext_getElem?
    intro j
    rw [List.getElem?_take]
    by_cases hj : j < len
    · rw [if_pos (by omega), Array.getElem?_toList, hcur j hj, byteCells_get (by simp; omega)]
      congr 2
      rw [← hbz j (by omega)]
      unfold byteAt
      simp [List.getD_eq_getElem?_getD, hj]
    · rw [if_neg (by omega), List.getElem?_eq_none]
      simp [byteCells_length]; omega
end Go.Proofs.Qxb6601273a
