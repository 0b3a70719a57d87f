import Derived.Test.Qxb6601273aIndDec
import Derived.Test.Qxb6601273aZInd
namespace Go.Proofs.Qxb6601273a
open Go.RowKit
set_option linter.unusedVariables false

/-- What 'ZZIndStringPart' answers, and that its rows are new. -/
def S20N : Prop := ∀ (v vo vk vb : Value) (bs : List UInt8) (off : Nat) (os : List Op3) (o : Op3) (w : World), Src w v bs → RowAt w 3 vo (o1Cells (os ++ [o])) → RowAt w 3 vk (o2Cells (os ++ [o])) → RowAt w 3 vb (o3Cells (os ++ [o])) →
  os.length ≤ 100000 → off ≤ bs.length → bs.length ≤ 10000000 →
  Calls Try.prog 20 #[v, .int .i64 off, vo, vk, vb] w fun e w' => ∃ r, e = .returned r ∧ OutIs w' r ((indAns bs (indScan bs (bs.length - off + 1) off []) off os o).off : Int) (indAns bs (indScan bs (bs.length - off + 1) off []) off os o).ts (indAns bs (indScan bs (bs.length - off + 1) off []) off os o).os
    (indAns bs (indScan bs (bs.length - off + 1) off []) off os o).er (indAns bs (indScan bs (bs.length - off + 1) off []) off os o).eo (indAns bs (indScan bs (bs.length - off + 1) off []) off os o).em ∧ Keep [] w w' ∧ NewIn w.heap.size r

set_option maxRecDepth 100000 in
set_option maxHeartbeats 8000000 in
theorem f6_main (H20 : S20N) (a0 : Option Addr) (len0 cap0 : Nat) (z0 : List Int) (w : World) (w0 : CameRow .u8 w a0 len0 cap0 z0) (hl : len0 ≤ 4096) :
    Calls Try.prog 6 #[.slice a0 len0 cap0] w fun e w' => e = .returned (.bool true) ∧ Keep [] w w' := by
  have hle : le20 len0 = true := by unfold le20; simp; omega
  have HLE : Hid _ := hle
  clear hle
  obtain ⟨i0, hi, hz0, hz1, hz2⟩ := info_parts info5
  go_enter Try.func6, Try.ntmps6
  go_wp2_with fail
  refine (f19_any a0 len0 cap0 _ (by unfold maxLen; omega)).mono ?_
  rw [HLE.out]
  rintro e w' ⟨rfl, rfl⟩
  go_wp2_with fail
  refine (f11_any a0 len0 cap0 z0 _ w0 (by omega)).mono ?_
  rintro e w1 ⟨v, t, rfl, hbl, hown, hK1⟩
  have hs1 : Src w1 v t := Src.of_owns (by rw [hbl]; exact hown)
  obtain ⟨sa, sc, rfl⟩ := hs1.form
  subst hbl
  have hlt : t.length ≤ 4096 := hl
  clear hown w0 HLE
  go_wp2_with fail
  go_loopg [3, 4] t.length (fun gk s i wr => ∃ k : Nat, gk + k = t.length ∧ i = .int .i64 k ∧ EncIRel w1 t s k wr)
  case atStart => exact ⟨0, rfl, rfl, World.ownsRow_nil _ _ _ _, Keep.refl _ _⟩
  case round =>
    obtain ⟨k, hk, rfl, hx, hKr⟩ := hrel
    obtain ⟨x0, l0, c0, rfl⟩ := owns_slice hx
    have hsz := hKr.size
    have hel := encI_len (t.take k)
    have htl : (t.take k).length ≤ t.length := by simp; omega
    by_cases hkt : k < t.length
    · have hsr := hKr.src hs1 (by simp)
      obtain ⟨g, rfl, hcs⟩ := hsr.cellsT hkt
      have ck := hcs k hkt
      have i1 : (k : Int) < (t.length : Int) := by omega
      have i00 : (0 : Int) ≤ (k : Int) := by omega
      have hsn : encI (t.take (k + 1)) = encI (t.take k) ++ enc1 (atU t k) := by
        rw [List.take_succ_eq_append_getElem hkt, encI_snoc]
        have : atU t k = t[k] := by unfold atU; rw [List.getD_eq_getElem?_getD, List.getElem?_eq_getElem hkt]; rfl
        rw [this]
      have Hsn := hidden hsn
      have Hs1 := hidden hs1
      clear hsn hs1 hsr hcs
      generalize hE : encI (t.take k) = E at *
      clear hE
      have hbk := byteAt_range t k
      have hau := atU_nat t k
      have key : ∀ c : UInt8, (atU t k = c) ↔ byteAt t k = (c.toNat : Int) := fun c => ⟨fun h => by rw [← atU_nat, h], fun h => UInt8.toNat_inj.1 (by rw [← atU_nat] at h; omega)⟩
      have Hau := hidden hau
      have Hkey := hidden key
      clear hau key
      by_cases h1 : byteAt t k = 39
      · as_aux_lemma =>
        have b1 : (byteAt t k == 39) = true := beq_iff_eq.2 h1
        have hen : enc1 (atU t k) = [39, 39, 92, 39] := by unfold enc1; rw [if_pos ((Hkey.out 39).2 h1)]
        have hsn := Hsn.out
        rw [hen] at hsn
        have Hs2 := hidden hsn
        clear hsn Hsn hen h1
        go_wp2_with (at_builtin; refine wpList_append_lies _ rfl (.tmp 33) (.tmp 34) 22 rfl w1.heap.size 5 i0 (.int .u8 0) 1 1 Try.underlying22 hi hz0 hz1 hz2 rfl (by decide) (.slice x0 l0 c0) E.length (byteCells E) rfl (by exact (hx.alloc _)) ⟨wr.heap.size, 0, none⟩ 4 4 (byteCells [39, 39, 92, 39]) rfl rfl ?c1 ?c2 (by decide) ?c3 ?c4 ?c5 (wr.heap.size + 1) ?c6 ?_)
        case c1 => exact World.news_of_block (heap_alloc_new wr _)
        case c2 => intro u hu; obtain ⟨x, _, rfl⟩ := List.mem_map.1 hu; rfl
        case c3 => unfold maxLen; omega
        case c4 => omega
        case c5 => simp; omega
        case c6 => simp
        intro gg cap wn hown hgrow hat hlt2
        have R := enc_app hx hKr (Keep.alloc _ _ _) hgrow hown
        rw [← Hs2.out] at R
        have HR := hidden R
        clear R hgrow hown hat hx hKr
        go_wp2_with fail
        go_roundg (gk - 1)
        case measure => omega
        case rel => exact ⟨k + 1, by omega, by go_num, HR.out⟩
      · have b1 : (byteAt t k == 39) = false := beq_eq_false_iff_ne.2 h1
        by_cases h2 : byteAt t k = 36
        · as_aux_lemma =>
          have b2 : (byteAt t k == 36) = true := beq_iff_eq.2 h2
          have hen : enc1 (atU t k) = [39, 39, 36] := by unfold enc1; rw [if_neg (fun h => h1 ((Hkey.out 39).1 h)), if_pos ((Hkey.out 36).2 h2)]
          have hsn := Hsn.out
          rw [hen] at hsn
          have Hs2 := hidden hsn
          clear hsn Hsn hen h1 h2
          go_wp2_with (at_builtin; refine wpList_append_lies _ rfl (.tmp 38) (.tmp 39) 22 rfl w1.heap.size 5 i0 (.int .u8 0) 1 1 Try.underlying22 hi hz0 hz1 hz2 rfl (by decide) (.slice x0 l0 c0) E.length (byteCells E) rfl (by exact (hx.alloc _)) ⟨wr.heap.size, 0, none⟩ 3 3 (byteCells [39, 39, 36]) rfl rfl ?c1 ?c2 (by decide) ?c3 ?c4 ?c5 (wr.heap.size + 1) ?c6 ?_)
          case c1 => exact World.news_of_block (heap_alloc_new wr _)
          case c2 => intro u hu; obtain ⟨x, _, rfl⟩ := List.mem_map.1 hu; rfl
          case c3 => unfold maxLen; omega
          case c4 => omega
          case c5 => simp; omega
          case c6 => simp
          intro gg cap wn hown hgrow hat hlt2
          have R := enc_app hx hKr (Keep.alloc _ _ _) hgrow hown
          rw [← Hs2.out] at R
          have HR := hidden R
          clear R hgrow hown hat hx hKr
          go_wp2_with fail
          go_roundg (gk - 1)
          case measure => omega
          case rel => exact ⟨k + 1, by omega, by go_num, HR.out⟩
        · as_aux_lemma =>
          have b2 : (byteAt t k == 36) = false := beq_eq_false_iff_ne.2 h2
          have hen : enc1 (atU t k) = [atU t k] := by unfold enc1; rw [if_neg (fun h => h1 ((Hkey.out 39).1 h)), if_neg (fun h => h2 ((Hkey.out 36).1 h))]
          have hsn := Hsn.out
          rw [hen] at hsn
          have Hs2 := hidden hsn
          clear hsn Hsn hen h1 h2
          go_wp2_with (at_builtin; refine wpList_append_lies _ rfl (.tmp 41) (.tmp 43) 22 rfl w1.heap.size 5 i0 (.int .u8 0) 1 1 Try.underlying22 hi hz0 hz1 hz2 rfl (by decide) (.slice x0 l0 c0) E.length (byteCells E) rfl (by exact (hx.alloc _)) ⟨wr.heap.size, 0, none⟩ 1 1 (byteCells [atU t k]) rfl rfl ?c1 ?c2 (by decide) ?c3 ?c4 ?c5 (wr.heap.size + 1) ?c6 ?_)
          case c1 => exact World.news_of_block (heap_alloc_new wr _)
          case c2 => intro u hu; obtain ⟨x, _, rfl⟩ := List.mem_map.1 hu; rfl
          case c3 => unfold maxLen; omega
          case c4 => omega
          case c5 => simp; omega
          case c6 => simp
          intro gg cap wn hown hgrow hat hlt2
          have R := enc_app hx hKr (Keep.alloc _ _ _) hgrow hown
          rw [← Hs2.out] at R
          have HR := hidden R
          clear R hgrow hown hat hx hKr
          go_wp2_with fail
          go_roundg (gk - 1)
          case measure => omega
          case rel => exact ⟨k + 1, by omega, by go_num, HR.out⟩
    · have ek : k = t.length := by omega
      subst ek
      rw [List.take_length] at hx hel
      go_wp2_with (at_builtin; refine wpList_append_lies _ rfl (.tmp 45) (.tmp 46) 22 rfl w1.heap.size 5 i0 (.int .u8 0) 1 1 Try.underlying22 hi hz0 hz1 hz2 rfl (by decide) (.slice x0 l0 c0) (encI t).length (byteCells (encI t)) rfl (by exact (hx.alloc _)) ⟨wr.heap.size, 0, none⟩ 2 2 (byteCells [39, 39]) rfl rfl ?e1 ?e2 (by decide) ?e3 ?e4 ?e5 (wr.heap.size + 1) ?e6 ?_)
      case e1 => exact World.news_of_block (heap_alloc_new wr _)
      case e2 => intro u hu; obtain ⟨x, _, rfl⟩ := List.mem_map.1 hu; rfl
      case e3 => unfold maxLen; omega
      case e4 => omega
      case e5 => simp; omega
      case e6 => simp
      intro gg cap w2 hown hgrow hat hlt2
      have R := enc_app hx hKr (Keep.alloc _ _ _) hgrow hown
      obtain ⟨hx2, hKr2⟩ := R
      have hst := hKr2.src hs1 (by simp)
      have hsE : Src w2 (.slice (some ⟨gg, 0, none⟩) ((encI t).length + 2) cap) (encI t ++ [39, 39]) := Src.of_owns hx2
      have hK2 : Keep [] w' w2 := hK1.trans' hKr2
      clear hs1
      clear hgrow hown hat hx hKr hi hz0 hz1 hz2 hx2 hKr2 hK1 hsz
      go_wp2_with fail
      go_loopg [6, 7, 8] (t.length + 1) (fun gk got off call wr => GotRel w2 t gk got off call wr)
      case atStart => exact ⟨[], t, 0, rfl, rfl, rfl, Nat.le_refl _, rfl, World.ownsRow_nil _ _ _ _, Keep.refl _ _⟩
      case round =>
        obtain ⟨pre, rest, c, ht, rfl, rfl, hc, hgk, hgot, hKg⟩ := hrel
        obtain ⟨y0, yl, yc, rfl⟩ := owns_slice hgot
        have htlen : t.length = pre.length + rest.length := by rw [ht, List.length_append]
        have hcl : (c : Int) ≤ (t.length : Int) + 1 := by omega
        have hpt : pre.length ≤ t.length := by omega
        have Htlen := hidden htlen
        clear htlen
        obtain ⟨W, hW, kW, r1, r2, r3⟩ := rows3 wr
        have hsW := (hKg.trans' kW).src hsE (by simp)
        have heo : (encI pre).length ≤ (encI t ++ [39, 39]).length := by rw [ht, encI_append]; simp
        have hell : (encI t ++ [39, 39]).length ≤ 10000000 := by simp; omega
        have h20 := H20 _ _ _ _ (encI t ++ [39, 39]) (encI pre).length [] (0, 0, 0) W hsW r1 r2 r3 (by simp) heo hell
        obtain ⟨s, tl, hrest, hpl, htl'⟩ := split_rest rest
        have hep : (encI pre).length ≤ 4 * pre.length := encI_len pre
        have hgl : yl = pre.length := by
          rcases hgot.2 with ⟨h1, h2⟩ | ⟨g', cap', cur', hv, _⟩
          · simp at h1; omega
          · simp at hv; omega
        have hsrcl : (encI t ++ [39, 39]).length = (encI t).length + 2 := by simp
        have hKw : Keep [] w' wr := hK2.trans' hKg
        have hsz := hKg.size
        have hstr := hKg.src hst (by simp)
        have hel2 : (encI t).length ≤ 4 * t.length := encI_len t
        have Hsrc := hidden hsrcl
        have Ht := hidden ht
        have Hrest := hidden hrest
        have Hpl := hidden hpl
        have Htl := hidden htl'
        have H0 := hidden h20
        have HW := hidden hW
        have HKw := hidden hKw
        have Hstr := hidden hstr
        have HstE := hidden hst
        have HK2 := hidden hK2
        clear ht hrest hpl htl' h20 hW hKw hstr hst hsE hK2 hsrcl hsW r1 r2 r3 heo hell
        -- the call's answer
        obtain ⟨ts, A, last, hA⟩ : ∃ (ts : List Tok) (O : Nat) (P : List Op3), ∃ (T : ByteArray) (K : Int), ts = litTok (encI pre).length s ++ [(T, (((encI pre).length + s.length : Nat) : Int), K)] ∧
            ((K = 10 ∧ P = [] ∧ t = pre ++ s ∧ O = (encI t).length + 2 ∧ T = ⟨#[]⟩) ∨ (∃ ch tl', K = 9 ∧ P = [(0, 0, 0)] ∧ t = pre ++ (s ++ ch :: tl') ∧ O = (encI (pre ++ (s ++ [ch]))).length ∧ T = ⟨#[ch]⟩)) ∧
            Calls Try.prog 20 #[.slice (some ⟨gg, 0, none⟩) ((encI t).length + 2) cap, .int .i64 ((encI pre).length : Nat), .slice (some ⟨wr.heap.size, 0, none⟩) 1 1, .slice (some ⟨wr.heap.size + 1, 0, none⟩) 1 1, .slice (some ⟨wr.heap.size + 1 + 1, 0, none⟩) 1 1] W fun e w' => ∃ r, e = .returned r ∧ OutIs w' r (O : Int) ts P false 0 ⟨#[]⟩ ∧ Keep [] W w' ∧ NewIn W.heap.size r := by
          rcases Htl.out with rfl | ⟨ch, tl', rfl, hch⟩
          · have hpre : t = pre ++ s := by rw [Ht.out, Hrest.out, List.append_nil]
            refine ⟨_, (encI t).length + 2, [], ⟨#[]⟩, 10, rfl, .inl ⟨rfl, rfl, hpre, rfl, rfl⟩, ?_⟩
            have h := H0.out
            rw [hpre] at h
            rw [call_close pre s Hpl.out] at h
            rw [← hpre] at h
            simp only [Hsrc.out] at h
            exact h
          · have hpre : t = pre ++ (s ++ ch :: tl') := by rw [Ht.out, Hrest.out]
            refine ⟨_, (encI (pre ++ (s ++ [ch]))).length, [(0, 0, 0)], ⟨#[ch]⟩, 9, rfl, .inr ⟨ch, tl', rfl, rfl, hpre, rfl, rfl⟩, ?_⟩
            have h := H0.out
            rw [hpre] at h
            rw [call_esc pre s tl' ch Hpl.out hch] at h
            rw [← hpre] at h
            exact h
        obtain ⟨T, K, hts, hcase, hcall⟩ := hA
        subst hgl
        have Hts := hidden hts
        have Hcase := hidden hcase
        have Hcall := hidden hcall
        have hlit := litTok_length (encI pre).length s
        clear hts hcase hcall H0 Hsrc
        go_wp2_with fail
        rw [← HW.out]
        refine Calls.mono Hcall.out ?_
        rintro e w3 ⟨r, rfl, hout, hK3, hN⟩
        have hne : ts ≠ [] := by rw [Hts.out]; simp
        obtain ⟨ga, ca, gb, cb, gc, cc, d0, d2, e0, e2, f0, f2, rfl, hcell, la, lb, lc⟩ := hout.gen hne
        obtain ⟨cs, hcs0, hN⟩ := hN
        cases hcs0
        have nga : W.heap.size ≤ ga := hN 1 _ rfl ga rfl
        have ngc : W.heap.size ≤ gc := hN 3 _ rfl gc rfl
        have hszW := kW.size
        have Hga : Hid (wr.heap.size ≤ ga) := Nat.le_trans hszW nga
        have Hgc : Hid (wr.heap.size ≤ gc) := Nat.le_trans hszW ngc
        clear hN nga ngc hszW
        have hm1 : ∃ m, ts.length = m + 1 ∧ m ≤ 1 := ⟨(litTok (encI pre).length s).length, by rw [Hts.out]; simp, hlit⟩
        obtain ⟨m, hm, hm1⟩ := hm1
        have hs0 : m = 0 → s = [] := by
          intro h0
          rw [Hts.out, List.length_append, List.length_singleton] at hm
          have h1 : (litTok (encI pre).length s).length = 0 := by omega
          unfold litTok at h1
          split at h1
          · assumption
          · simp at h1
        have Hs0 := hidden hs0
        clear hs0
        rw [hm]
        have hq2 : IntKind.i64.wrap ((m : Int) + 1 - 1) = (m : Int) := by rw [IntKind.wrap_i64]; omega
        have hm0 : (0 : Int) ≤ (m : Int) := by omega
        have hm2 : (m : Int) < (m : Int) + 1 := by omega
        have hKw3 : Keep [] w' w3 := (HKw.out.trans' kW).trans' hK3
        have hgot3 := (kW.trans' hK3).owns hgot (by simp)
        have hst3 := (kW.trans' hK3).src Hstr.out (by simp)
        have hcm := hcell m (by omega)
        have hc0 : m = 1 → w3.cell? ⟨ga, 0, none⟩ = some (.int .u8 5) ∧ w3.cell? ⟨gc, 0, none⟩ = some (.string ⟨s.toArray⟩) := by
          intro h1
          have h := hcell 0 (by omega)
          have e0 : ts[0]'(by omega) = ((⟨s.toArray⟩ : ByteArray), ((encI pre).length : Int), 5) := by
            have hs : s ≠ [] := by
              rintro rfl
              have := Hts.out
              simp [litTok] at this
              rw [this] at hm
              simp at hm
              omega
            have := Hts.out
            unfold litTok at this
            rw [if_neg hs] at this
            subst this
            rfl
          rw [e0] at h
          exact ⟨h.1, h.2.2⟩
        have hcK : w3.cell? ⟨ga, m, none⟩ = some (.int .u8 K) ∧ w3.cell? ⟨gc, m, none⟩ = some (.string T) := by
          have h := hcell m (by omega)
          have e0 : ts[m]'(by omega) = (T, (((encI pre).length + s.length : Nat) : Int), K) := by
            have h1 := Hts.out
            subst h1
            have h2 : m = (litTok (encI pre).length s).length := by simp at hm; omega
            subst h2
            simp
          rw [e0] at h
          exact ⟨h.1, h.2.2⟩
        have Hc0 := hidden hc0
        have HKw3 := hidden hKw3
        have Hgot3 := hidden hgot3
        have Hgotlt : Hid (∀ g, (Value.slice y0 pre.length yc).ownBlock = some g → w2.heap.size ≤ g ∧ g < wr.heap.size) := hgot.lt
        have Hst3 := hidden hst3
        obtain ⟨cK, cT⟩ := hcK
        have hsz3 := (hKg.trans' (kW.trans' hK3)).size
        have hwr3 : wr.heap.size ≤ w3.heap.size := (kW.trans' hK3).size
        have HKg3 := hidden (hKg.trans' (kW.trans' hK3))
        clear hc0 hKw3 hgot3 hst3 hcm hcell hout hgot hKg kW hK3 HW Hcall HKw Hstr Hts
        have kO := Keep.alloc [] w3 (.cells #[.int .i64 A, .slice (some ⟨ga, 0, none⟩) (m + 1) ca, .slice (some ⟨gb, 0, none⟩) (m + 1) cb, .slice (some ⟨gc, 0, none⟩) (m + 1) cc, .slice d0 last.length d2, .slice e0 last.length e2, .slice f0 last.length f2, .bool false, .int .i64 0, .string ⟨#[]⟩] 29)
        have bO := Blk.new w3 29 #[.int .i64 A, .slice (some ⟨ga, 0, none⟩) (m + 1) ca, .slice (some ⟨gb, 0, none⟩) (m + 1) cb, .slice (some ⟨gc, 0, none⟩) (m + 1) cc, .slice d0 last.length d2, .slice e0 last.length e2, .slice f0 last.length f2, .bool false, .int .i64 0, .string ⟨#[]⟩]
        have HO := hidden bO
        have HkO := hidden kO
        clear bO kO
        go_wp2_with fail
        have bO := HO.out
        have kO := HkO.out
        have sO : (w3.alloc (.cells #[.int .i64 A, .slice (some ⟨ga, 0, none⟩) (m + 1) ca, .slice (some ⟨gb, 0, none⟩) (m + 1) cb, .slice (some ⟨gc, 0, none⟩) (m + 1) cc, .slice d0 last.length d2, .slice e0 last.length e2, .slice f0 last.length f2, .bool false, .int .i64 0, .string ⟨#[]⟩] 29)).heap.size = w3.heap.size + 1 := by simp
        clear HO HkO
        generalize w3.alloc (.cells #[.int .i64 A, .slice (some ⟨ga, 0, none⟩) (m + 1) ca, .slice (some ⟨gb, 0, none⟩) (m + 1) cb, .slice (some ⟨gc, 0, none⟩) (m + 1) cc, .slice d0 last.length d2, .slice e0 last.length e2, .slice f0 last.length f2, .bool false, .int .i64 0, .string ⟨#[]⟩] 29) = w4 at *
        have gotX := kO.owns Hgot3.out (by simp)
        have hylt : ∀ x, wr.heap.size ≤ x → x ∉ (Value.slice y0 pre.length yc).ownBlock.toList := fun x hx hm => by
          have := (Hgotlt.out x (by simpa using hm))
          omega
        have Hlaw : Hid (∀ wx, Keep (Value.slice y0 pre.length yc).ownBlock.toList w4 wx → wx.cell? ⟨w3.heap.size, 1, none⟩ = some (.slice (some ⟨ga, 0, none⟩) (m + 1) ca) ∧ wx.cell? ⟨w3.heap.size, 3, none⟩ = some (.slice (some ⟨gc, 0, none⟩) (m + 1) cc) ∧ wx.cell? ⟨w3.heap.size, 0, none⟩ = some (.int .i64 A) ∧ wx.cell? ⟨w3.heap.size, 4, none⟩ = some (.slice d0 last.length d2) ∧ wx.cell? ⟨ga, m, none⟩ = some (.int .u8 K) ∧ wx.cell? ⟨gc, m, none⟩ = some (.string T) ∧ (m = 1 → wx.cell? ⟨ga, 0, none⟩ = some (.int .u8 5) ∧ wx.cell? ⟨gc, 0, none⟩ = some (.string ⟨s.toArray⟩))) := by
          intro wx hk
          have b := hk.blk bO (hylt _ (by omega))
          have kk : Keep (Value.slice y0 pre.length yc).ownBlock.toList w3 wx := (kO.mono (by simp)).trans' hk
          exact ⟨b.cell 1, b.cell 3, b.cell 0, b.cell 4, kk.cell cK (hylt _ Hga.out), kk.cell cT (hylt _ Hgc.out), fun h => ⟨kk.cell (Hc0.out h).1 (hylt _ Hga.out), kk.cell (Hc0.out h).2 (hylt _ Hgc.out)⟩⟩
        have HkO := hidden kO
        have HbO := hidden bO
        have hj0 : pre ++ (if m = 0 then [] else s) = pre ++ s := by
          by_cases h0 : m = 0
          · have : s = [] := Hs0.out h0
            rw [if_pos h0, this]
          · rw [if_neg h0]
        have Hj0 := hidden hj0
        clear hj0
        have Hslen : Hid (s.length ≤ t.length) := by
          have h1 := Htlen.out
          have h2 := Hrest.out
          rw [h2, List.length_append] at h1
          show s.length ≤ t.length
          omega
        have Hgk := hidden hgk
        have Hylt := hidden hylt
        have HKg4 : Hid (∀ wx, Keep (Value.slice y0 pre.length yc).ownBlock.toList w4 wx → Keep [] w2 wx) := fun wx hk => (HKg3.out.trans' HkO.out).trans hk (fun x hx => .inr (Hgotlt.out x (by simpa using hx)).1)
        clear hylt
        clear bO cK cT Hc0 kO Hgot3 hgk Hs0
        go_loopg [6, 11] m (fun gj got i wx => ∃ j : Nat, gj + j = m ∧ i = .int .i64 j ∧ wx.ownsRow w2.heap.size 5 1 got (pre ++ (if j = 0 then [] else s)).length (byteCells (pre ++ (if j = 0 then [] else s))) ∧ Grow (.slice y0 pre.length yc) w4 got wx)
        case atStart => exact ⟨0, by omega, rfl, by simpa using gotX, Grow.refl _ _⟩
        case round =>
          clear gotX
          obtain ⟨j, hj, rfl, hgx, hkx⟩ := hrel
          obtain ⟨e1, e3, e0', e4, eK, eT, e5⟩ := Hlaw.out _ hkx.1
          obtain ⟨z0, zl, zc, rfl⟩ := owns_slice hgx
          have hszx := hkx.1.size
          by_cases hjm : j < m
          · as_aux_lemma =>
            have hj0 : j = 0 := by omega
            subst hj0
            have hm' : m = 1 := by omega
            subst hm'
            obtain ⟨e6, e7⟩ := e5 rfl
            rw [if_pos rfl, List.append_nil] at hgx
            have Hgx := hidden hgx
            have Hkx := hidden hkx
            clear hgx hkx e5 Hlaw eK eT e0' e4
            go_wp2_with fail
            refine (f21_any _ pre ⟨s.toArray⟩ w2.heap.size _ Hgx.out (by omega) (by omega) (by have := Hslen.out; exact Nat.le_trans this (by omega))).mono ?_
            rintro e w5 ⟨v', rfl, hv', hG⟩
            have hsn : pre ++ (if (0 + 1 : Nat) = 0 then [] else s) = pre ++ s := by simp
            have hv2 : w5.ownsRow w2.heap.size 5 1 v' (pre ++ (if (0 + 1 : Nat) = 0 then [] else s)).length (byteCells (pre ++ (if (0 + 1 : Nat) = 0 then [] else s))) := by rw [hsn]; exact hv'
            have hk5 := Hkx.out.trans hG
            have Hv := hidden hv2
            have Hk5 := hidden hk5
            clear hv2 hk5 hv' hG hsn
            obtain ⟨q0, ql, qc, rfl⟩ := owns_slice Hv.out
            go_wp2_with fail
            go_roundg 0
            case measure => omega
            case rel => exact ⟨0 + 1, by omega, by go_num, Hv.out, Hk5.out⟩
          · have hjm' : j = m := by omega
            subst hjm'
            have hgx2 : pre ++ (if j = 0 then [] else s) = pre ++ s := Hj0.out
            rw [hgx2] at hgx
            have Hgx := hidden hgx
            have Hkx := hidden hkx
            clear hgx hkx e5 Hlaw hgx2
            rcases Hcase.out with ⟨rfl, rfl, hpre, rfl, rfl⟩ | ⟨ch, tl', rfl, rfl, hpre, rfl, rfl⟩
            · as_aux_lemma =>
              have hgt : wr.ownsRow w2.heap.size 5 1 (.slice z0 zl zc) t.length (byteCells t) := by
                have := Hgx.out
                rw [← hpre] at this; exact this
              have hsg := Src.of_owns hgt
              have hkw2 : Keep [] w2 wr := HKg4.out _ Hkx.out.1
              have hst := hkw2.src HstE.out (by simp)
              have hfin := HK2.out.trans' hkw2
              have Hpre := hidden hpre
              have Hsg := hidden hsg
              have Hst := hidden hst
              have Hfin := hidden hfin
              clear hpre hsg hst hgt hfin hkw2
              go_wp2_with fail
              refine (f22_same _ _ t _ Hsg.out Hst.out (by omega)).mono ?_
              rintro e w5 ⟨rfl, mm, rfl⟩
              go_wp2_with fail
              go_ret
              exact ⟨rfl, Hfin.out.trans' (Keep.drewN _ _ _)⟩
            · as_aux_lemma =>
              have hlo : (encI pre).length < (encI (pre ++ (s ++ [ch]))).length := by
                rw [encI_append, encI_append]
                simp only [List.length_append, encI]
                repeat' split
                all_goals (simp <;> omega)
              have b1 : ¬ (((encI (pre ++ (s ++ [ch]))).length : Int) ≤ ((encI pre).length : Int)) := by omega
              have hpsc : pre ++ s ++ [ch] = pre ++ (s ++ [ch]) := by simp
              have hol : (encI (pre ++ (s ++ [ch]))).length ≤ 1000000 := by
                have h1 := encI_len (pre ++ (s ++ [ch]))
                have h2 : (pre ++ (s ++ [ch])).length ≤ t.length := by rw [hpre]; simp
                omega
              have hps : (pre ++ s).length ≤ 10000000 := by
                have h2 : (pre ++ s).length ≤ t.length := by rw [hpre]; simp
                omega
              have Hpre := hidden hpre
              have Hpsc := hidden hpsc
              clear hpre hlo hpsc
              go_wp2_with fail
              refine (f21_any _ (pre ++ s) ⟨#[ch]⟩ w2.heap.size _ Hgx.out (by omega) hps (by show (1 : Nat) ≤ 10000000; omega)).mono ?_
              rintro e w5 ⟨v', rfl, hv', hG⟩
              have hk5 := Hkx.out.trans hG
              have hv2 : w5.ownsRow w2.heap.size 5 1 v' (pre ++ (s ++ [ch])).length (byteCells (pre ++ (s ++ [ch]))) := by rw [← Hpsc.out]; exact hv'
              have hbO := hk5.1.blk HbO.out (Hylt.out _ (by omega))
              have ee0 := hbO.cell 0
              simp only [List.getElem?_toArray, List.getElem?_cons_zero] at ee0
              have hkg5 := HKg4.out _ hk5.1
              have Hv := hidden hv2
              have Hk5 := hidden hkg5
              clear hv2 hk5 hv' hG hbO hkg5 e1 e3 e0' e4 eK eT
              obtain ⟨q0, ql, qc, rfl⟩ := owns_slice Hv.out
              go_wp2_with fail
              have hgk := Hgk.out
              go_roundg (tl'.length + 1)
              case measure =>
                have h3 : rest = s ++ ch :: tl' := List.append_cancel_left (Ht.out.symm.trans Hpre.out)
                have h4 : rest.length = s.length + (tl'.length + 1) := by rw [h3]; simp
                have h1 := Hgk.out
                omega
              case rel => exact ⟨pre ++ (s ++ [ch]), tl', c + 1, by rw [Hpre.out]; simp, rfl, by go_num, by simp; omega, rfl, Hv.out, Hk5.out⟩

set_option maxHeartbeats 1000000 in
theorem f6_big (a0 : Option Addr) (len0 cap0 : Nat) (w : World) (hm : len0 ≤ maxLen) (hl : 1048576 < len0) :
    Calls Try.prog 6 #[.slice a0 len0 cap0] w fun e w' => e = .returned (.bool true) ∧ Keep [] w w' := by
  have hle : le20 len0 = false := by unfold le20; simpa using hl
  have HLE : Hid _ := hle
  clear hle
  go_enter Try.func6, Try.ntmps6
  go_wp2_with fail
  refine (f19_any a0 len0 cap0 _ hm).mono ?_
  rw [HLE.out]
  rintro e w' ⟨rfl, rfl⟩
  go_wp2_with fail
  go_ret
  exact ⟨rfl, Keep.refl _ _⟩

set_option maxHeartbeats 1000000 in
theorem f6_mid (a0 : Option Addr) (len0 cap0 : Nat) (w : World) (hl : len0 ≤ 1048576) (h1 : 4096 < len0) :
    Calls Try.prog 6 #[.slice a0 len0 cap0] w fun e w' => e = .returned (.bool true) ∧ Keep [] w w' := by
  have hle : le20 len0 = true := by unfold le20; simpa using hl
  have HLE : Hid _ := hle
  clear hle
  go_enter Try.func6, Try.ntmps6
  go_wp2_with fail
  refine (f19_any a0 len0 cap0 _ (by unfold maxLen; omega)).mono ?_
  rw [HLE.out]
  rintro e w' ⟨rfl, rfl⟩
  go_wp2_with fail
  go_ret
  exact ⟨rfl, Keep.refl _ _⟩

theorem f6_all (H20 : S20N) (a0 : Option Addr) (len0 cap0 : Nat) (z0 : List Int) (w : World) (w0 : CameRow .u8 w a0 len0 cap0 z0) :
    Calls Try.prog 6 #[.slice a0 len0 cap0] w fun e w' => e = .returned (.bool true) ∧ Keep [] w w' := by
  by_cases hl : len0 ≤ 4096
  · exact f6_main H20 a0 len0 cap0 z0 w w0 hl
  · by_cases h2 : len0 ≤ 1048576
    · exact f6_mid a0 len0 cap0 w h2 (by omega)
    · exact f6_big a0 len0 cap0 w w0.max (by omega)
end Go.Proofs.Qxb6601273a
