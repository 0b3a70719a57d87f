import Derived.Test.Qxb6601273aOut
import Derived.Test.Qxb6601273aNumber
import Derived.Test.Qxb6601273aClone
namespace Go.Proofs.Qxb6601273a
open Go.RowKit
set_option linter.unusedVariables false

theorem RowAt.after {w W : World} {t t' : TypeId} {v : Value} {cs : List Value} {b : Nat} {ds : Array Value} (h : RowAt w t v cs) (hK : Keep [b] w W) (hb : Blk w b t' ds) (hne : t ≠ t') : RowAt W t v cs := by
  refine hK.row h fun g hg hm => ?_
  simp at hm
  rcases h with ⟨rfl, _⟩ | ⟨g', cap, cur, rfl, _, hb', _⟩
  · simp [Value.ownBlock] at hg
  · simp [Value.ownBlock] at hg
    exact hb'.ne hb hne (hg.trans hm)

theorem OutIs.after {w W : World} {r : Value} {off : Int} {ts : List Tok} {os : List Op3} {er : Bool} {eo : Int} {em : ByteArray} (h : OutIs w r off ts os er eo em) {b : Nat} {ds : Array Value} (hK : Keep [b] w W) (hb : Blk w b 29 ds) : OutIs W r off ts os er eo em := by
  obtain ⟨a, b', c, d, e, f, hr, h1, h2, h3, h4, h5, h6⟩ := h
  exact ⟨a, b', c, d, e, f, hr, h1.after hK hb (by decide), h2.after hK hb (by decide), h3.after hK hb (by decide), h4.after hK hb (by decide), h5.after hK hb (by decide), h6.after hK hb (by decide)⟩

theorem OutIs.keep {w W : World} {r : Value} {off : Int} {ts : List Tok} {os : List Op3} {er : Bool} {eo : Int} {em : ByteArray} (h : OutIs w r off ts os er eo em) (hK : Keep [] w W) : OutIs W r off ts os er eo em := by
  obtain ⟨a, b', c, d, e, f, hr, h1, h2, h3, h4, h5, h6⟩ := h
  exact ⟨a, b', c, d, e, f, hr, hK.row h1 (by simp), hK.row h2 (by simp), hK.row h3 (by simp), hK.row h4 (by simp), hK.row h5 (by simp), hK.row h6 (by simp)⟩

theorem RowAt.slice {w : World} {t : TypeId} {v : Value} {cs : List Value} (h : RowAt w t v cs) : ∃ x c, v = .slice x cs.length c := by
  rcases h with ⟨rfl, rfl⟩ | ⟨g, cap, cur, rfl, _⟩
  · exact ⟨_, _, rfl⟩
  · exact ⟨_, _, rfl⟩

/-- The answer's fields, each written out. -/
theorem OutIs.form {w : World} {r : Value} {off : Int} {ts : List Tok} {os : List Op3} {er : Bool} {eo : Int} {em : ByteArray} (h : OutIs w r off ts os er eo em) {n m : Nat} (hn : ts.length = n) (hm : os.length = m) :
    ∃ a0 a2 b0 b2 c0 c2 d0 d2 e0 e2 f0 f2, r = .agg #[.int .i64 off, .slice a0 n a2, .slice b0 n b2, .slice c0 n c2, .slice d0 m d2, .slice e0 m e2, .slice f0 m f2, .bool er, .int .i64 eo, .string em] := by
  subst hn hm
  obtain ⟨a, b', c, d, e, f, hr, h1, h2, h3, h4, h5, h6⟩ := h
  obtain ⟨a0, a2, ea⟩ := h1.slice
  obtain ⟨b0, b2, eb⟩ := h2.slice
  obtain ⟨c0, c2, ec⟩ := h3.slice
  obtain ⟨d0, d2, ed⟩ := h4.slice
  obtain ⟨e0, e2, ee⟩ := h5.slice
  obtain ⟨f0, f2, ef⟩ := h6.slice
  simp only [kindCells, offCells, textCells, o1Cells, o2Cells, o3Cells, List.length_map] at ea eb ec ed ee ef
  exact ⟨a0, a2, b0, b2, c0, c2, d0, d2, e0, e2, f0, f2, by rw [hr, ea, eb, ec, ed, ee, ef]⟩

/-- The one token that 'number' reads. -/
def numTok (bs : List UInt8) (off : Nat) : Tok := ((⟨bs.toArray⟩ : ByteArray).extract off (numEnd bs off), (off : Int), numKind bs off)

theorem cells10 {w : World} {b : Nat} {y0 y1 y2 y3 y4 y5 y6 y7 y8 y9 : Value} (h : Blk w b 29 #[y0, y1, y2, y3, y4, y5, y6, y7, y8, y9]) :
    w.cell? ⟨b, 0, none⟩ = some y0 ∧ w.cell? ⟨b, 1, none⟩ = some y1 ∧ w.cell? ⟨b, 2, none⟩ = some y2 ∧ w.cell? ⟨b, 3, none⟩ = some y3 ∧ w.cell? ⟨b, 4, none⟩ = some y4 ∧ w.cell? ⟨b, 5, none⟩ = some y5 ∧ w.cell? ⟨b, 6, none⟩ = some y6 ∧ w.cell? ⟨b, 7, none⟩ = some y7 ∧ w.cell? ⟨b, 8, none⟩ = some y8 ∧ w.cell? ⟨b, 9, none⟩ = some y9 :=
  ⟨h.cell 0, h.cell 1, h.cell 2, h.cell 3, h.cell 4, h.cell 5, h.cell 6, h.cell 7, h.cell 8, h.cell 9⟩

set_option maxRecDepth 100000 in
set_option maxHeartbeats 1000000 in
theorem f12_any (v : Value) (bs : List UInt8) (off : Nat) (w : World) (hs : Src w v bs) (ho : off ≤ bs.length) (hn : bs.length ≤ 10000000) :
    Calls Try.prog 12 #[v, .int .i64 off] w fun e w' => ∃ r, e = .returned r ∧ OutIs w' r (numEnd bs off : Nat) [numTok bs off] [] false 0 ⟨#[]⟩ ∧ Keep [] w w' := by
  have hs0 : Src (w.alloc (.cells zeroOut 29)) v bs := (Keep.alloc [] _ _).src hs (by simp)
  have hZ0 := Blk.new w 29 zeroOut
  have hsz : (w.alloc (.cells zeroOut 29)).heap.size = w.heap.size + 1 := by simp
  have Hsz : Hid _ := hsz
  clear hsz
  go_enter Try.func12, Try.ntmps12
  go_wp2_with fail
  refine (f32_any v nilS nilS nilS bs off [] _ hs0 (.inl ⟨rfl, rfl⟩) (.inl ⟨rfl, rfl⟩) (.inl ⟨rfl, rfl⟩) (by simp)).mono ?_
  rintro e w1 ⟨L, ov, rfl, hL, hov, hLs, hK1⟩
  have hs1 := hK1.src hs0 (by simp)
  have hZ1 := hK1.blk hZ0 (by simp)
  rw [Hsz.out] at hLs
  go_wp2_with fail
  refine (f33_any L off v ov bs ⟨bs.toArray⟩ _ hL hs1 rfl ho hn).mono ?_
  rintro e w2 ⟨rfl, g, cap, hL2, hto, hK2⟩
  have hZ2 := hK2.blk hZ1 (by simp; omega)
  have hov2 := hK2.owns hov (by intro g hg hm; simp at hm; subst hm; exact owns_ne hov hL (by decide) hg)
  go_wp2_with fail
  refine (f34_any L v _ ov (.pointer none) ⟨bs.toArray⟩ _ [numTok bs off] [] false 0 ⟨#[]⟩ w1.heap.size _ _ hL2 hto hov2 (by simp) (by simp) (.inl ⟨rfl, rfl, rfl, rfl⟩)).mono ?_
  rintro e w3 ⟨r, rfl, hout, hK3⟩
  have hZ3 := hK3.blk hZ2 (by simp)
  obtain ⟨a0, a2, b0, b2, c0, c2, d0, d2, e0, e2, f0, f2, rfl⟩ := hout.form (n := 1) (m := 0) rfl rfl
  obtain ⟨z0, z1, z2, z3, z4, z5, z6, z7, z8, z9⟩ := cells10 hZ3
  have hfz := hZ3.free
  have hfin : ∀ W, Keep [w.heap.size] w3 W → OutIs W (.agg #[.int .i64 (numEnd bs off : Nat), .slice a0 1 a2, .slice b0 1 b2, .slice c0 1 c2, .slice d0 0 d2, .slice e0 0 e2, .slice f0 0 f2, .bool false, .int .i64 0, .string ⟨#[]⟩]) (numEnd bs off : Nat) [numTok bs off] [] false 0 ⟨#[]⟩ ∧ Keep [] w W := by
    intro W hW
    refine ⟨hout.after hW hZ3, ?_⟩
    have k1 : Keep [] w w1 := (Keep.alloc _ _ _).trans' hK1
    have k2 : Keep [] w w2 := k1.trans hK2 (by intro x hx; right; simp at hx; omega)
    exact (k2.trans' hK3).trans hW (by intro x hx; right; simp at hx; omega)
  have Hfin : Hid _ := hfin
  have HZ : Hid _ := hZ3
  clear hfin hZ3 hout hK1 hK2 hK3 hs0 hZ0 hs1 hZ1 hL hL2 hto hov hov2 hZ2 hs
  go_wp2
  obtain ⟨q, qk⟩ := ten_sets (w := w3) (b := w.heap.size) (t := 29) HZ.out (.int .i64 (numEnd bs off : Nat)) (.slice a0 1 a2) (.slice b0 1 b2) (.slice c0 1 c2) (.slice d0 0 d2) (.slice e0 0 e2) (.slice f0 0 f2) (.bool false) (.int .i64 0) (.string ⟨#[]⟩)
  have hf := Hfin.out _ qk
  obtain ⟨q0, q1, q2, q3, q4, q5, q6, q7, q8, q9⟩ := cells10 q
  clear Hfin HZ qk q z0 z1 z2 z3 z4 z5 z6 z7 z8 z9
  generalize ((((((((((w3.setCell ⟨w.heap.size, 0, none⟩ (.int .i64 (numEnd bs off : Nat))).setCell ⟨w.heap.size, 1, none⟩ (.slice a0 1 a2)).setCell ⟨w.heap.size, 2, none⟩ (.slice b0 1 b2)).setCell ⟨w.heap.size, 3, none⟩ (.slice c0 1 c2)).setCell ⟨w.heap.size, 4, none⟩ (.slice d0 0 d2)).setCell ⟨w.heap.size, 5, none⟩ (.slice e0 0 e2)).setCell ⟨w.heap.size, 6, none⟩ (.slice f0 0 f2)).setCell ⟨w.heap.size, 7, none⟩ (.bool false)).setCell ⟨w.heap.size, 8, none⟩ (.int .i64 0)).setCell ⟨w.heap.size, 9, none⟩ (.string ⟨#[]⟩)) = W at *
  refine bodyPost_ret (v := .agg #[.int .i64 (numEnd bs off : Nat), .slice a0 1 a2, .slice b0 1 b2, .slice c0 1 c2, .slice d0 0 d2, .slice e0 0 e2, .slice f0 0 f2, .bool false, .int .i64 0, .string ⟨#[]⟩]) ?_ rfl ⟨_, rfl, hf⟩
  simp [results, Try.results12, go_sem, q0, q1, q2, q3, q4, q5, q6, q7, q8, q9]
end Go.Proofs.Qxb6601273a
