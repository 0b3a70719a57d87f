import Derived.Test.Qxb6601273aIndLaw
import Derived.Test.Qxb6601273aSame
import Derived.Test.Qxb6601273aRelex
import Derived.Test.Qxb6601273aDecStr
namespace Go.Proofs.Qxb6601273a
open Go.RowKit
set_option linter.unusedVariables false

/-- What 'ZZIndStringPart' answers, for whatever it is handed. -/
def S20 : Prop := ∀ (v vo vk vb : Value) (bs : List UInt8) (off : Nat) (os : List Op3) (o : Op3) (w : World), Src w v bs → RowAt w 3 vo (o1Cells (os ++ [o])) → RowAt w 3 vk (o2Cells (os ++ [o])) → RowAt w 3 vb (o3Cells (os ++ [o])) →
  os.length ≤ 100000 → off ≤ bs.length → bs.length ≤ 10000000 →
  Calls Try.prog 20 #[v, .int .i64 off, vo, vk, vb] w fun e w' => ∃ r, e = .returned r ∧ OutIs w' r ((indAns bs (indScan bs (bs.length - off + 1) off []) off os o).off : Int) (indAns bs (indScan bs (bs.length - off + 1) off []) off os o).ts (indAns bs (indScan bs (bs.length - off + 1) off []) off os o).os
    (indAns bs (indScan bs (bs.length - off + 1) off []) off os o).er (indAns bs (indScan bs (bs.length - off + 1) off []) off os o).eo (indAns bs (indScan bs (bs.length - off + 1) off []) off os o).em ∧ Keep [] w w'

set_option maxHeartbeats 1000000 in
/-- sameBytes, at two slices of the same bytes. -/
theorem f22_same (u v : Value) (bs : List UInt8) (w : World) (hu : Src w u bs) (hv : Src w v bs) (h2 : bs.length ≤ 10000000) :
    Calls Try.prog 22 #[u, v] w fun e w' => e = .returned (.bool true) ∧ ∃ m, w' = w.drewN m := by
  obtain ⟨ua, uc, rfl⟩ := hu.form
  obtain ⟨va, vc, rfl⟩ := hv.form
  go_enter Try.func22, Try.ntmps22
  go_wp2_with fail
  go_loopw [5] (fun i wr => ∃ k m : Nat, k ≤ bs.length ∧ i = .int .i64 k ∧ wr = w.drewN m) (fun i _ => bs.length - (intOf i).toNat)
  case atStart => exact ⟨0, 0, Nat.zero_le _, rfl, rfl⟩
  case round =>
    obtain ⟨k, m, hk, rfl, rfl⟩ := hrel
    by_cases hlt : k < bs.length
    · obtain ⟨g, rfl, hcs⟩ := hu.cellsT hlt
      obtain ⟨g', rfl, hcs'⟩ := hv.cellsT hlt
      have ck := hcs k hlt
      have ck' := hcs' k hlt
      have i1 : (k : Int) < (bs.length : Int) := by omega
      have i0 : (0 : Int) ≤ (k : Int) := by omega
      clear hcs hcs' hu hv
      go_wp2_with fail
      go_quiet (fail)
      go_wp2_with fail
      go_roundw
      case rel => exact ⟨k + 1, _, by omega, by go_num, rfl⟩
      case measure => simp [intOf]; omega
    · go_wp2_with fail
      go_ret
      exact ⟨rfl, _, rfl⟩

theorem OutIs.gen {w : World} {r : Value} {off : Int} {ts : List Tok} {os : List Op3} {er : Bool} {eo : Int} {em : ByteArray} (h : OutIs w r off ts os er eo em) (hts : ts ≠ []) :
    ∃ ga ca gb cb gc cc d0 d2 e0 e2 f0 f2, r = .agg #[.int .i64 off, .slice (some ⟨ga, 0, none⟩) ts.length ca, .slice (some ⟨gb, 0, none⟩) ts.length cb, .slice (some ⟨gc, 0, none⟩) ts.length cc, .slice d0 os.length d2, .slice e0 os.length e2, .slice f0 os.length f2, .bool er, .int .i64 eo, .string em] ∧
      (∀ k (hk : k < ts.length), w.cell? ⟨ga, k, none⟩ = some (.int .u8 ts[k].2.2) ∧ w.cell? ⟨gb, k, none⟩ = some (.int .i32 ts[k].2.1) ∧ w.cell? ⟨gc, k, none⟩ = some (.string ts[k].1)) ∧ ga < w.heap.size ∧ gb < w.heap.size ∧ gc < w.heap.size := by
  obtain ⟨a, b', c, d, e, f, hr, h1, h2, h3, h4, h5, h6⟩ := h
  have key : ∀ {t : TypeId} {v : Value} {F : Tok → Value}, RowAt w t v (ts.map F) → ∃ g cap, v = .slice (some ⟨g, 0, none⟩) ts.length cap ∧ (∀ k (hk : k < ts.length), w.cell? ⟨g, k, none⟩ = some (F ts[k])) ∧ g < w.heap.size := by
    intro t v F hR
    rcases hR with ⟨_, h0⟩ | ⟨g, cap, cur, hv, _, hb, hc⟩
    · exact absurd (List.map_eq_nil_iff.1 h0) hts
    · refine ⟨g, cap, by rw [hv, List.length_map], fun k hk => ?_, hb.lt⟩
      rw [hb.cell, hc k (by simpa using hk), List.getElem?_map, List.getElem?_eq_getElem hk]
      rfl
  obtain ⟨ga, ca, ea, ha, la⟩ := key h1
  obtain ⟨gb, cb, eb, hb, lb⟩ := key h2
  obtain ⟨gc, cc, ec, hc, lc⟩ := key h3
  obtain ⟨d0, d2, ed⟩ := h4.slice
  obtain ⟨e0, e2, ee⟩ := h5.slice
  obtain ⟨f0, f2, ef⟩ := h6.slice
  simp only [o1Cells, o2Cells, o3Cells, List.length_map] at ed ee ef
  exact ⟨ga, ca, gb, cb, gc, cc, d0, d2, e0, e2, f0, f2, by rw [hr, ea, eb, ec, ed, ee, ef], fun k hk => ⟨ha k hk, hb k hk, hc k hk⟩, la, lb, lc⟩

def enc1 (c : UInt8) : List UInt8 := if c = 39 then [39, 39, 92, 39] else if c = 36 then [39, 39, 36] else [c]
theorem encI_snoc (t : List UInt8) (c : UInt8) : encI (t ++ [c]) = encI t ++ enc1 c := by
  rw [encI_append]; simp [encI, enc1]

/-- The encoding so far. -/
def EncIRel (w1 : World) (t : List UInt8) (s : Value) (k : Nat) (wr : World) : Prop :=
  wr.ownsRow w1.heap.size 5 1 s (encI (t.take k)).length (byteCells (encI (t.take k))) ∧ Keep [] w1 wr

/-- What has been read back so far. -/
def GotRel (w2 : World) (t : List UInt8) (gk : Nat) (got off call : Value) (wr : World) : Prop :=
  ∃ (pre rest : List UInt8) (c : Nat), t = pre ++ rest ∧ off = .int .i64 ((encI pre).length : Nat) ∧ call = .int .i64 (c : Nat) ∧ c ≤ pre.length ∧ gk = rest.length + 1 ∧ wr.ownsRow w2.heap.size 5 1 got pre.length (byteCells pre) ∧ Keep [] w2 wr

theorem rows3 (wn : World) : ∃ W, W = ((wn.alloc (.cells #[.int .i64 0] 3)).alloc (.cells #[.int .i64 0] 3)).alloc (.cells #[.int .i64 0] 3) ∧ Keep [] wn W ∧
    RowAt W 3 (.slice (some ⟨wn.heap.size, 0, none⟩) 1 1) (o1Cells ([] ++ [(0, 0, 0)])) ∧ RowAt W 3 (.slice (some ⟨wn.heap.size + 1, 0, none⟩) 1 1) (o2Cells ([] ++ [(0, 0, 0)])) ∧ RowAt W 3 (.slice (some ⟨wn.heap.size + 2, 0, none⟩) 1 1) (o3Cells ([] ++ [(0, 0, 0)])) := by
  refine ⟨_, rfl, ((Keep.alloc _ _ _).trans' (Keep.alloc _ _ _)).trans' (Keep.alloc _ _ _), ?_, ?_, ?_⟩
  · exact .inr ⟨_, 1, _, rfl, Nat.le_refl _, ((Blk.new wn 3 #[.int .i64 0]).alloc _).alloc _, fun k hk => by simp [o1Cells] at hk; subst hk; rfl⟩
  · exact .inr ⟨_, 1, _, rfl, Nat.le_refl _, (Blk.newAt (cs := #[.int .i64 0]) (by simp)).alloc _, fun k hk => by simp [o2Cells] at hk; subst hk; rfl⟩
  · exact .inr ⟨_, 1, _, rfl, Nat.le_refl _, Blk.newAt (cs := #[.int .i64 0]) (by simp), fun k hk => by simp [o3Cells] at hk; subst hk; rfl⟩
end Go.Proofs.Qxb6601273a
