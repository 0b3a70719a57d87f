import Derived.Test.Qxb6601273aZStr
import Derived.Test.Qxb6601273aSame
import Derived.Test.Qxb6601273aDec
import Derived.Test.Qxb6601273aRelex
namespace Go.Proofs.Qxb6601273a
open Go.RowKit
set_option linter.unusedVariables false

def specB (c : UInt8) : Bool := decide (c = 34 ∨ c = 92 ∨ c = 36)
theorem encS_snoc (t : List UInt8) (c : UInt8) : encS (t ++ [c]) = encS t ++ (if specB c = true then [92, c] else [c]) := by
  induction t with
  | nil => simp [encS, specB]
  | cons a t ih => simp only [List.cons_append, encS, ih, List.append_assoc]
theorem encS_len (t : List UInt8) : (encS t).length ≤ 2 * t.length := by
  induction t with
  | nil => simp [encS]
  | cons a t ih =>
    simp only [encS, List.length_append, List.length_cons]
    split <;> simp <;> omega

theorem RowAt.two {w : World} {t : TypeId} {v x y : Value} (h : RowAt w t v [x, y]) : ∃ g cap, v = .slice (some ⟨g, 0, none⟩) 2 cap ∧ w.cell? ⟨g, 0, none⟩ = some x ∧ w.cell? ⟨g, 1, none⟩ = some y ∧ g < w.heap.size := by
  rcases h with ⟨_, h⟩ | ⟨g, cap, cur, hv, _, hb, hc⟩
  · cases h
  · exact ⟨g, cap, hv, by rw [hb.cell, hc 0 (by simp)]; rfl, by rw [hb.cell, hc 1 (by simp)]; rfl, hb.lt⟩

theorem OutIs.two {w : World} {r : Value} {off : Int} {T T' : ByteArray} {o K o' K' : Int} {er : Bool} {eo : Int} {em : ByteArray} (h : OutIs w r off [(T, o, K), (T', o', K')] [] er eo em) :
    ∃ ga ca gb cb gc cc d0 d2 e0 e2 f0 f2, r = .agg #[.int .i64 off, .slice (some ⟨ga, 0, none⟩) 2 ca, .slice (some ⟨gb, 0, none⟩) 2 cb, .slice (some ⟨gc, 0, none⟩) 2 cc, .slice d0 0 d2, .slice e0 0 e2, .slice f0 0 f2, .bool er, .int .i64 eo, .string em] ∧
      (w.cell? ⟨ga, 0, none⟩ = some (.int .u8 K) ∧ w.cell? ⟨ga, 1, none⟩ = some (.int .u8 K') ∧ ga < w.heap.size) ∧ (w.cell? ⟨gb, 0, none⟩ = some (.int .i32 o) ∧ w.cell? ⟨gb, 1, none⟩ = some (.int .i32 o') ∧ gb < w.heap.size) ∧ (w.cell? ⟨gc, 0, none⟩ = some (.string T) ∧ w.cell? ⟨gc, 1, none⟩ = some (.string T') ∧ gc < w.heap.size) := by
  obtain ⟨a, b', c, d, e, f, hr, h1, h2, h3, h4, h5, h6⟩ := h
  obtain ⟨ga, ca, ea, ha⟩ := RowAt.two h1
  obtain ⟨gb, cb, eb, hb⟩ := RowAt.two h2
  obtain ⟨gc, cc, ec, hc⟩ := RowAt.two h3
  obtain ⟨d0, d2, ed⟩ := h4.slice
  obtain ⟨e0, e2, ee⟩ := h5.slice
  obtain ⟨f0, f2, ef⟩ := h6.slice
  simp only [o1Cells, o2Cells, o3Cells, List.map_nil, List.length_nil] at ed ee ef
  exact ⟨ga, ca, gb, cb, gc, cc, d0, d2, e0, e2, f0, f2, by rw [hr, ea, eb, ec, ed, ee, ef], ha, hb, hc⟩

theorem specB_eq (t : List UInt8) (k : Nat) : specB (atU t k) = (decide (byteAt t k = 34) || decide (byteAt t k = 92) || decide (byteAt t k = 36)) := by
  have key : ∀ c : UInt8, (atU t k = c) ↔ byteAt t k = (c.toNat : Int) := fun c => ⟨fun h => by rw [← atU_nat, h], fun h => UInt8.toNat_inj.1 (by rw [← atU_nat] at h; omega)⟩
  unfold specB
  rw [Bool.eq_iff_iff]
  simp only [decide_eq_true_eq, Bool.or_eq_true, key, or_assoc]
  exact Iff.rfl

/-- One append to a row of bytes, in a plain region: what is left behind. -/
def EncRel (w w1 : World) (t : List UInt8) (s : Value) (k : Nat) (wr : World) : Prop :=
  wr.ownsRow w1.heap.size 5 1 s (encS (t.take k)).length (byteCells (encS (t.take k))) ∧ Keep [] w1 wr

theorem enc_app {w1 wr X wn : World} {xs ys : List UInt8} {s : Value} {g cap : Nat} (hx : wr.ownsRow w1.heap.size 5 1 s xs.length (byteCells xs)) (hK : Keep [] w1 wr) (hX : Keep [] wr X) (hgrow : X.grownBy wn s.ownBlock)
    (hown : wn.ownsRow w1.heap.size 5 1 (.slice (some ⟨g, 0, none⟩) (xs.length + ys.length) cap) (xs.length + ys.length) (byteCells xs ++ byteCells ys)) :
    wn.ownsRow w1.heap.size 5 1 (.slice (some ⟨g, 0, none⟩) (xs.length + ys.length) cap) (xs ++ ys).length (byteCells (xs ++ ys)) ∧ Keep [] w1 wn := by
  refine ⟨by rw [List.length_append, byteCells_append]; exact hown, hK.trans (keep_app hX hgrow) fun x hx' => .inr (owns_new hx x hx')⟩

set_option maxRecDepth 100000 in
set_option maxHeartbeats 4000000 in
theorem f5_main (H18 : S18) (a0 : Option Addr) (len0 cap0 : Nat) (z0 : List Int) (w : World) (w0 : CameRow .u8 w a0 len0 cap0 z0) (hl : len0 ≤ 262144) :
    Calls Try.prog 5 #[.slice a0 len0 cap0] w fun e w' => e = .returned (.bool true) ∧ Keep [] w w' := by
  have hle : le20 len0 = true := by unfold le20; simp; omega
  have HLE : Hid _ := hle
  clear hle
  obtain ⟨i0, hi, hz0, hz1, hz2⟩ := info_parts info5
  go_enter Try.func5, Try.ntmps5
  go_wp2_with fail
  refine (f17_any a0 len0 cap0 _ (by unfold maxLen; omega)).mono ?_
  rw [HLE.out]
  rintro e w' ⟨rfl, rfl⟩
  go_wp2_with fail
  refine (f11_any a0 len0 cap0 z0 _ w0 (by omega)).mono ?_
  rintro e w1 ⟨v, t, rfl, hbl, hown, hK1⟩
  have hs1 : Src w1 v t := Src.of_owns (by rw [hbl]; exact hown)
  obtain ⟨sa, sc, rfl⟩ := hs1.form
  have hlt : t.length ≤ 262144 := by omega
  clear hown w0 HLE
  go_wp2_with fail
  go_loopg [3, 4] t.length (fun gk s i wr => ∃ k : Nat, gk + k = t.length ∧ i = .int .i64 k ∧ EncRel w' w1 t s k wr)
  case atStart => exact ⟨0, rfl, rfl, World.ownsRow_nil _ _ _ _, Keep.refl _ _⟩
  case round =>
    obtain ⟨k, hk, rfl, hx, hKr⟩ := hrel
    obtain ⟨x0, l0, c0, rfl⟩ := owns_slice hx
    have hsz := hKr.size
    have hel := encS_len (t.take k)
    have htl : (t.take k).length ≤ t.length := by simp; omega
    by_cases hkt : k < t.length
    · have hsr := hKr.src hs1 (by simp)
      obtain ⟨g, rfl, hcs⟩ := hsr.cellsT hkt
      have ck := hcs k hkt
      have i1 : (k : Int) < (t.length : Int) := by omega
      have i00 : (0 : Int) ≤ (k : Int) := by omega
      have hsn : encS (t.take (k + 1)) = encS (t.take k) ++ (if specB (atU t k) = true then [92, atU t k] else [atU t k]) := by
        rw [List.take_succ_eq_append_getElem hkt, encS_snoc]
        have : atU t k = t[k] := by unfold atU; rw [List.getD_eq_getElem?_getD, List.getElem?_eq_getElem hkt]; rfl
        rw [this]
      have Hsn := hidden hsn
      have Hs1 := hidden hs1
      clear hsn hs1 hsr hcs
      generalize hE : encS (t.take k) = E at *
      clear hE
      have hbk := byteAt_range t k
      have hau := atU_nat t k
      have Hau := hidden hau
      clear hau
      go_upto_region 11 with fail
      go_cut [35] (fun b wx => b = .bool (specB (atU t k)) ∧ wr = wx)
      case first =>
        have hsp := specB_eq t k
        by_cases h1 : byteAt t k = 34
        · have b1 : (byteAt t k == 34) = true := beq_iff_eq.2 h1
          have hv : specB (atU t k) = true := by rw [hsp]; simp [h1]
          have HV := hidden hv
          clear hv h1 hsp
          go_wp2_with fail
          go_meet
          case rel => exact ⟨by rw [HV.out], rfl⟩
        · have b1 : (byteAt t k == 34) = false := beq_eq_false_iff_ne.2 h1
          by_cases h2 : byteAt t k = 92
          · have b2 : (byteAt t k == 92) = true := beq_iff_eq.2 h2
            have hv : specB (atU t k) = true := by rw [hsp]; simp [h2]
            have HV := hidden hv
            clear hv h1 h2 hsp
            go_wp2_with fail
            go_meet
            case rel => exact ⟨by rw [HV.out], rfl⟩
          · have b2 : (byteAt t k == 92) = false := beq_eq_false_iff_ne.2 h2
            have hv : specB (atU t k) = (byteAt t k == 36) := by rw [hsp]; simp [h1, h2]; rw [Bool.eq_iff_iff]; simp
            have HV := hidden hv
            clear hv h1 h2 hsp
            go_wp2_with fail
            go_meet
            case rel => exact ⟨by rw [HV.out], rfl⟩
      case rest =>
        obtain ⟨rfl, rfl⟩ := hcut
        cases hsp : specB (atU t k)
        · have hsn := Hsn.out
          rw [hsp, if_neg (by decide)] at hsn
          have Hs2 := hidden hsn
          clear hsn Hsn
          go_wp2_with (at_builtin; refine wpList_append_lies _ rfl (.tmp 39) (.tmp 41) 22 rfl w1.heap.size 5 i0 (.int .u8 0) 1 1 Try.underlying22 hi hz0 hz1 hz2 rfl (by decide) (.slice x0 l0 c0) E.length (byteCells E) rfl (by exact (hx.alloc _)) ⟨wr.heap.size, 0, none⟩ 1 1 (byteCells [atU t k]) rfl rfl ?c1 ?c2 (by decide) ?c3 ?c4 ?c5 (wr.heap.size + 1) ?c6 ?_)
          case c1 => exact World.news_of_block (heap_alloc_new wr _)
          case c2 => intro u hu; simp [byteCells] at hu; subst hu; rfl
          case c3 => unfold maxLen; omega
          case c4 => omega
          case c5 => simp; omega
          case c6 => simp
          intro gg cap wn hown hgrow hat hlt2
          have R := enc_app hx hKr (Keep.alloc _ _ _) hgrow hown
          rw [← Hs2.out] at R
          have HR := hidden R
          clear R hgrow hown hat hx hKr
          go_wp2_with fail
          go_roundg (gk - 1)
          case measure => omega
          case rel => exact ⟨k + 1, by omega, by go_num, HR.out⟩
        · have hsn := Hsn.out
          rw [hsp, if_pos rfl] at hsn
          have Hs2 := hidden hsn
          clear hsn Hsn
          go_wp2_with (at_builtin; refine wpList_append_lies _ rfl (.tmp 36) (.tmp 37) 22 rfl w1.heap.size 5 i0 (.int .u8 0) 1 1 Try.underlying22 hi hz0 hz1 hz2 rfl (by decide) (.slice x0 l0 c0) E.length (byteCells E) rfl (by exact (hx.alloc _)) ⟨wr.heap.size, 0, none⟩ 1 1 (byteCells [92]) rfl rfl ?c1 ?c2 (by decide) ?c3 ?c4 ?c5 (wr.heap.size + 1) ?c6 ?_)
          case c1 => exact World.news_of_block (heap_alloc_new wr _)
          case c2 => intro u hu; simp [byteCells] at hu; subst hu; rfl
          case c3 => unfold maxLen; omega
          case c4 => omega
          case c5 => simp; omega
          case c6 => simp
          intro gg cap wn hown hgrow hat hlt2
          have R := enc_app hx hKr (Keep.alloc _ _ _) hgrow hown
          have hEl : (E ++ [92]).length ≤ E.length + 1 := by simp
          obtain ⟨hx2, hKr2⟩ := R
          have hsz2 := hKr2.size
          clear hgrow hown hat hx hKr
          generalize hE2 : E ++ [92] = E2 at *
          have HE2 := hidden hE2
          clear hE2
          go_wp2_with (at_builtin; refine wpList_append_lies _ rfl (.tmp 39) (.tmp 41) 22 rfl w1.heap.size 5 i0 (.int .u8 0) 1 1 Try.underlying22 hi hz0 hz1 hz2 rfl (by decide) _ E2.length (byteCells E2) rfl (by exact (hx2.alloc _)) ⟨wn.heap.size, 0, none⟩ 1 1 (byteCells [atU t k]) rfl rfl ?d1 ?d2 (by decide) ?d3 ?d4 ?d5 (wn.heap.size + 1) ?d6 ?_)
          case d1 => exact World.news_of_block (heap_alloc_new wn _)
          case d2 => intro u hu; simp [byteCells] at hu; subst hu; rfl
          case d3 => unfold maxLen; omega
          case d4 => omega
          case d5 => simp; omega
          case d6 => simp
          intro gg' cap' wm hown' hgrow' hat' hlt3
          have R := enc_app hx2 hKr2 (Keep.alloc _ _ _) hgrow' hown'
          have e3 : E2 ++ [atU t k] = encS (t.take (k + 1)) := by rw [← HE2.out, List.append_assoc, List.singleton_append, ← Hs2.out]
          rw [e3] at R
          have HR := hidden R
          clear e3
          clear R hgrow' hown' hat' hx2 hKr2
          go_wp2_with fail
          go_roundg (gk - 1)
          case measure => omega
          case rel => exact ⟨k + 1, by omega, by go_num, HR.out⟩
    · have ek : k = t.length := by omega
      subst ek
      rw [List.take_length] at hx hel
      have henc := scan_enc t [] [] ((encS t ++ [34]).length - 0 + 1) (by simp; omega)
      simp only [List.nil_append, List.length_nil, Nat.zero_add] at henc
      generalize hE : encS t = E at *
      clear hE htl
      have Henc := hidden henc
      clear henc
      go_wp2_with (at_builtin; refine wpList_append_lies _ rfl (.tmp 43) (.tmp 44) 22 rfl w1.heap.size 5 i0 (.int .u8 0) 1 1 Try.underlying22 hi hz0 hz1 hz2 rfl (by decide) (.slice x0 l0 c0) E.length (byteCells E) rfl (by exact (hx.alloc _)) ⟨wr.heap.size, 0, none⟩ 1 1 (byteCells [34]) rfl rfl ?e1 ?e2 (by decide) ?e3 ?e4 ?e5 (wr.heap.size + 1) ?e6 ?_)
      case e1 => exact World.news_of_block (heap_alloc_new wr _)
      case e2 => intro u hu; simp [byteCells] at hu; subst hu; rfl
      case e3 => unfold maxLen; omega
      case e4 => omega
      case e5 => simp; omega
      case e6 => simp
      intro gg cap wn hown hgrow hat hlt2
      have R := enc_app hx hKr (Keep.alloc _ _ _) hgrow hown
      obtain ⟨hx2, hKr2⟩ := R
      have hst := hKr2.src hs1 (by simp)
      clear hs1
      clear hgrow hown hat hx hKr hi hz0 hz1 hz2
      obtain ⟨W, hW⟩ : ∃ W, W = ((wn.alloc (.cells #[.int .i64 0] 3)).alloc (.cells #[.int .i64 0] 3)).alloc (.cells #[.int .i64 0] 3) := ⟨_, rfl⟩
      have kW : Keep [] wn W := by rw [hW]; exact ((Keep.alloc _ _ _).trans' (Keep.alloc _ _ _)).trans' (Keep.alloc _ _ _)
      have r1 : RowAt W 3 (.slice (some ⟨wn.heap.size, 0, none⟩) 1 1) (o1Cells ([] ++ [(0, 0, 0)])) := .inr ⟨_, 1, _, rfl, Nat.le_refl _, by rw [hW]; exact ((Blk.new wn 3 #[.int .i64 0]).alloc _).alloc _, fun k hk => by simp [o1Cells] at hk; subst hk; rfl⟩
      have r2 : RowAt W 3 (.slice (some ⟨wn.heap.size + 1, 0, none⟩) 1 1) (o2Cells ([] ++ [(0, 0, 0)])) := .inr ⟨_, 1, _, rfl, Nat.le_refl _, by rw [hW]; exact (Blk.newAt (cs := #[.int .i64 0]) (by simp)).alloc _, fun k hk => by simp [o2Cells] at hk; subst hk; rfl⟩
      have r3 : RowAt W 3 (.slice (some ⟨wn.heap.size + 2, 0, none⟩) 1 1) (o3Cells ([] ++ [(0, 0, 0)])) := .inr ⟨_, 1, _, rfl, Nat.le_refl _, by rw [hW]; exact Blk.newAt (cs := #[.int .i64 0]) (by simp), fun k hk => by simp [o3Cells] at hk; subst hk; rfl⟩
      have hsE : Src W (.slice (some ⟨gg, 0, none⟩) (E.length + 1) cap) (E ++ [34]) := kW.src (Src.of_owns hx2) (by simp)
      have h18 := H18 _ _ _ _ (E ++ [34]) 0 [] (0, 0, 0) W hsE r1 r2 r3 (by simp) (by omega) (by simp; omega)
      rw [show ((0 : Nat) : Int) = 0 from rfl, Henc.out] at h18
      have hstW := kW.src hst (by simp)
      have kWw : Keep [] w' W := (hK1.trans' hKr2).trans' kW
      clear r1 r2 r3 hsE kW hst hx2 hKr2 hK1
      have eA : strAns (0, E.length, t) 0 [] (0, 0, 0) = ⟨E.length + 1, litTok 0 t ++ [((⟨#[]⟩ : ByteArray), (E.length : Int), 6)], [], false, 0, ⟨#[]⟩⟩ := rfl
      rw [eA] at h18
      simp only at h18
      rw [hW] at h18
      have h18' := hidden h18
      clear h18 eA Henc
      go_wp2_with fail
      refine Calls.mono h18'.out ?_
      rw [← hW]
      rintro e w2 ⟨r, rfl, hout, hK2⟩
      clear h18'
      have hkk : Keep [] w' w2 := kWw.trans' hK2
      have hst2 := hK2.src hstW (by simp)
      clear hstW hW kWw hK2
      have hb34 : ((E.length : Int) + 1 != (E.length : Int) + 1) = false := by simp
      by_cases hte : t = []
      · subst hte
        have hout1 : OutIs w2 r ((E.length + 1 : Nat) : Int) [((⟨#[]⟩ : ByteArray), (E.length : Int), 6)] [] false 0 ⟨#[]⟩ := hout
        obtain ⟨ga, ca, gb, cb, gc, cc, d0, d2, e0, e2, f0, f2, rfl, ⟨ha, la⟩, ⟨hb, lb⟩, ⟨hc, lc⟩⟩ := hout1.one
        clear hout hout1 hst2
        have h00 : len0 = 0 := hbl.symm
        subst h00
        go_wp2_with fail
        go_ret
        exact ⟨rfl, hkk.trans' (Keep.alloc _ _ _)⟩
      · have elit : litTok 0 t = [((⟨t.toArray⟩ : ByteArray), ((0 : Nat) : Int), 5)] := by unfold litTok; rw [if_neg hte]
        rw [elit] at hout
        have htp : 0 < t.length := List.length_pos_iff.2 hte
        obtain ⟨ga, ca, gb, cb, gc, cc, d0, d2, e0, e2, f0, f2, rfl, ⟨ha, ha', la⟩, ⟨hb, hb', lb⟩, ⟨hc, hc', lc⟩⟩ := OutIs.two hout
        clear hout elit hte
        have hl1 : 0 < len0 := by omega
        have hsame : sameTB ⟨t.toArray⟩ t = true := by unfold sameTB; simp
        have Hsame := hidden hsame
        clear hsame
        go_wp2_with fail
        refine (f14_any ⟨t.toArray⟩ _ t _ (by rw [← hbl]; exact (Keep.alloc [] _ _).src hst2 (by simp)) (by simp [ByteArray.size]; omega) (by omega)).mono ?_
        rw [Hsame.out]
        rintro e wk ⟨rfl, m, rfl⟩
        go_wp2_with fail
        go_ret
        exact ⟨rfl, (hkk.trans' (Keep.alloc _ _ _)).trans' (Keep.drewN _ _ _)⟩

set_option maxHeartbeats 1000000 in
theorem f5_big (a0 : Option Addr) (len0 cap0 : Nat) (w : World) (hm : len0 ≤ maxLen) (hl : 1048576 < len0) :
    Calls Try.prog 5 #[.slice a0 len0 cap0] w fun e w' => e = .returned (.bool true) ∧ Keep [] w w' := by
  have hle : le20 len0 = false := by unfold le20; simpa using hl
  have HLE : Hid _ := hle
  clear hle
  go_enter Try.func5, Try.ntmps5
  go_wp2_with fail
  refine (f17_any a0 len0 cap0 _ hm).mono ?_
  rw [HLE.out]
  rintro e w' ⟨rfl, rfl⟩
  go_wp2_with fail
  go_ret
  exact ⟨rfl, Keep.refl _ _⟩

set_option maxHeartbeats 1000000 in
theorem f5_mid (a0 : Option Addr) (len0 cap0 : Nat) (w : World) (hl : len0 ≤ 1048576) (h1 : 262144 < len0) :
    Calls Try.prog 5 #[.slice a0 len0 cap0] w fun e w' => e = .returned (.bool true) ∧ Keep [] w w' := by
  have hle : le20 len0 = true := by unfold le20; simpa using hl
  have HLE : Hid _ := hle
  clear hle
  go_enter Try.func5, Try.ntmps5
  go_wp2_with fail
  refine (f17_any a0 len0 cap0 _ (by unfold maxLen; omega)).mono ?_
  rw [HLE.out]
  rintro e w' ⟨rfl, rfl⟩
  go_wp2_with fail
  go_ret
  exact ⟨rfl, Keep.refl _ _⟩

theorem f5_all (H18 : S18) (a0 : Option Addr) (len0 cap0 : Nat) (z0 : List Int) (w : World) (w0 : CameRow .u8 w a0 len0 cap0 z0) :
    Calls Try.prog 5 #[.slice a0 len0 cap0] w fun e w' => e = .returned (.bool true) ∧ Keep [] w w' := by
  by_cases hl : len0 ≤ 262144
  · exact f5_main H18 a0 len0 cap0 z0 w w0 hl
  · by_cases h2 : len0 ≤ 1048576
    · exact f5_mid a0 len0 cap0 w h2 (by omega)
    · exact f5_big a0 len0 cap0 w w0.max (by omega)
end Go.Proofs.Qxb6601273a
