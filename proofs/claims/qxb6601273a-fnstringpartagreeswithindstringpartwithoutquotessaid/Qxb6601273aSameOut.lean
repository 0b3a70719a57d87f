import Derived.Test.Qxb6601273aAgrees
import Derived.Test.Qxb6601273aZNum
namespace Go.Proofs.Qxb6601273a
open Go.RowKit
set_option linter.unusedVariables false

set_option maxHeartbeats 1000000 in
/-- sameInts, at two slices of the same ints. -/
theorem f41_same (u v : Value) (n : Nat) (F : Nat → Int) (w : World) (hu : RowF w u n fun k => .int .i64 (F k)) (hv : RowF w v n fun k => .int .i64 (F k)) (h2 : n ≤ 10000000) :
    Calls Try.prog 41 #[u, v] w fun e w' => e = .returned (.bool true) ∧ ∃ m, w' = w.drewN m := by
  obtain ⟨ua, uc, rfl, hu⟩ := hu
  obtain ⟨va, vc, rfl, hv⟩ := hv
  go_enter Try.func41, Try.ntmps41
  go_wp2_with fail
  go_loopw [5] (fun i wr => ∃ k m : Nat, k ≤ n ∧ i = .int .i64 k ∧ wr = w.drewN m) (fun i _ => n - (intOf i).toNat)
  case atStart => exact ⟨0, 0, Nat.zero_le _, rfl, rfl⟩
  case round =>
    obtain ⟨k, m, hk, rfl, rfl⟩ := hrel
    by_cases hlt : k < n
    · obtain ⟨g, rfl, ck⟩ := hu k hlt
      obtain ⟨g', rfl, ck'⟩ := hv k hlt
      have i1 : (k : Int) < (n : Int) := by omega
      have i0 : (0 : Int) ≤ (k : Int) := by omega
      clear hu hv
      generalize F k = z at *
      go_wp2_with fail
      go_quiet (fail)
      go_wp2_with fail
      go_roundw
      case rel => exact ⟨k + 1, _, by omega, by go_num, rfl⟩
      case measure => simp [intOf]; omega
    · go_wp2_with fail
      go_ret
      exact ⟨rfl, _, rfl⟩

set_option maxRecDepth 100000 in
set_option maxHeartbeats 4000000 in
/-- sameOut, at two answers that are the same. -/
theorem f31_same (w : World) (off eo : Int) (er : Bool) (em : ByteArray) (kk mm : Nat) (K O : Nat → Int) (T : Nat → ByteArray) (q1 q2 q3 : Nat → Int) (a b c d e f x y z d' e' f' : Value)
    (ha : RowF w a kk fun k => .int .u8 (K k)) (hb : RowF w b kk fun k => .int .i32 (O k)) (hc : RowF w c kk fun k => .string (T k))
    (hx : RowF w x kk fun k => .int .u8 (K k)) (hy : RowF w y kk fun k => .int .i32 (O k)) (hz : RowF w z kk fun k => .string (T k))
    (hd : RowF w d mm fun k => .int .i64 (q1 k)) (he : RowF w e mm fun k => .int .i64 (q2 k)) (hf : RowF w f mm fun k => .int .i64 (q3 k))
    (hd' : RowF w d' mm fun k => .int .i64 (q1 k)) (he' : RowF w e' mm fun k => .int .i64 (q2 k)) (hf' : RowF w f' mm fun k => .int .i64 (q3 k))
    (hmm : mm ≤ 1000000) (hkk : kk ≤ 1000000) :
    Calls Try.prog 31 #[.agg #[.int .i64 off, a, b, c, d, e, f, .bool er, .int .i64 eo, .string em], .agg #[.int .i64 off, x, y, z, d', e', f', .bool er, .int .i64 eo, .string em]] w fun e w' => e = .returned (.bool true) ∧ Keep [] w w' := by
  have HD := hidden hd
  have HE := hidden he
  have HF := hidden hf
  have HD' := hidden hd'
  have HE' := hidden he'
  have HF' := hidden hf'
  obtain ⟨a0, a2, rfl, ha⟩ := ha
  obtain ⟨b0, b2, rfl, hb⟩ := hb
  obtain ⟨c0, c2, rfl, hc⟩ := hc
  obtain ⟨x0, x2, rfl, hx⟩ := hx
  obtain ⟨y0, y2, rfl, hy⟩ := hy
  obtain ⟨z0, z2, rfl, hz⟩ := hz
  obtain ⟨d0, d2, rfl, _⟩ := hd
  obtain ⟨e0, e2, rfl, _⟩ := he
  obtain ⟨f0, f2, rfl, _⟩ := hf
  obtain ⟨o0, o2, rfl, _⟩ := hd'
  obtain ⟨k0, k2, rfl, _⟩ := he'
  obtain ⟨v0, v2, rfl, _⟩ := hf'
  have hO : Blk ((w.alloc (.cells #[.int .i64 off, .slice a0 kk a2, .slice b0 kk b2, .slice c0 kk c2, .slice d0 mm d2, .slice e0 mm e2, .slice f0 mm f2, .bool er, .int .i64 eo, .string em] 29)).alloc (.cells #[.int .i64 off, .slice x0 kk x2, .slice y0 kk y2, .slice z0 kk z2, .slice o0 mm o2, .slice k0 mm k2, .slice v0 mm v2, .bool er, .int .i64 eo, .string em] 29)) w.heap.size 29 _ := (Blk.new w 29 _).alloc _
  have hW : Blk ((w.alloc (.cells #[.int .i64 off, .slice a0 kk a2, .slice b0 kk b2, .slice c0 kk c2, .slice d0 mm d2, .slice e0 mm e2, .slice f0 mm f2, .bool er, .int .i64 eo, .string em] 29)).alloc (.cells #[.int .i64 off, .slice x0 kk x2, .slice y0 kk y2, .slice z0 kk z2, .slice o0 mm o2, .slice k0 mm k2, .slice v0 mm v2, .bool er, .int .i64 eo, .string em] 29)) (w.heap.size + 1) 29 _ := Blk.newAt (by simp)
  have kW : Keep [] w ((w.alloc (.cells #[.int .i64 off, .slice a0 kk a2, .slice b0 kk b2, .slice c0 kk c2, .slice d0 mm d2, .slice e0 mm e2, .slice f0 mm f2, .bool er, .int .i64 eo, .string em] 29)).alloc (.cells #[.int .i64 off, .slice x0 kk x2, .slice y0 kk y2, .slice z0 kk z2, .slice o0 mm o2, .slice k0 mm k2, .slice v0 mm v2, .bool er, .int .i64 eo, .string em] 29)) := (Keep.alloc _ _ _).trans' (Keep.alloc _ _ _)
  have HO := hidden hO
  have HW := hidden hW
  have HkW := hidden kW
  have Ha := hidden ha
  have Hb := hidden hb
  have Hc := hidden hc
  have Hx := hidden hx
  have Hy := hidden hy
  have Hz := hidden hz
  clear hO hW kW ha hb hc hx hy hz
  go_enter Try.func31, Try.ntmps31
  go_upto_region 1 with fail
  have hO := HO.out
  have hW := HW.out
  have kW := HkW.out
  clear HO HW HkW
  generalize ((w.alloc (.cells #[.int .i64 off, .slice a0 kk a2, .slice b0 kk b2, .slice c0 kk c2, .slice d0 mm d2, .slice e0 mm e2, .slice f0 mm f2, .bool er, .int .i64 eo, .string em] 29)).alloc (.cells #[.int .i64 off, .slice x0 kk x2, .slice y0 kk y2, .slice z0 kk z2, .slice o0 mm o2, .slice k0 mm k2, .slice v0 mm v2, .bool er, .int .i64 eo, .string em] 29)) = w1 at *
  obtain ⟨g0, g1, g2, g3, g4, g5, g6, g7, g8, g9⟩ := cells10 hO
  obtain ⟨s0, s1, s2, s3, s4, s5, s6, s7, s8, s9⟩ := cells10 hW
  generalize w.heap.size + 1 = bW at *
  generalize w.heap.size = bO at *
  have HkW := hidden kW
  clear hO hW kW
  go_wp2_with fail
  go_loopw [6] (fun i wr => ∃ k m : Nat, k ≤ kk ∧ i = .int .i64 k ∧ wr = w1.drewN m) (fun i _ => kk - (intOf i).toNat)
  case atStart => exact ⟨0, 0, Nat.zero_le _, rfl, rfl⟩
  case round =>
    obtain ⟨k, m, hk, rfl, rfl⟩ := hrel
    by_cases hlt : k < kk
    · obtain ⟨ga, rfl, ca⟩ := Ha.out k hlt
      obtain ⟨gb, rfl, cb⟩ := Hb.out k hlt
      obtain ⟨gc, rfl, cc⟩ := Hc.out k hlt
      obtain ⟨gx, rfl, cx⟩ := Hx.out k hlt
      obtain ⟨gy, rfl, cy⟩ := Hy.out k hlt
      obtain ⟨gz, rfl, cz⟩ := Hz.out k hlt
      have ca1 := HkW.out.cell ca (by simp)
      have cb1 := HkW.out.cell cb (by simp)
      have cc1 := HkW.out.cell cc (by simp)
      have cx1 := HkW.out.cell cx (by simp)
      have cy1 := HkW.out.cell cy (by simp)
      have cz1 := HkW.out.cell cz (by simp)
      have i1 : (k : Int) < (kk : Int) := by omega
      have i0 : (0 : Int) ≤ (k : Int) := by omega
      clear ca cb cc cx cy cz
      generalize K k = zk at *
      generalize O k = zo at *
      generalize T k = zt at *
      go_wp2_with fail
      go_quiet (fail)
      go_wp2_with fail
      go_roundw
      case rel => exact ⟨k + 1, _, by omega, by go_num, rfl⟩
      case measure => simp [intOf]; omega
    · have hkm : Keep [] w (w1.drewN m) := HkW.out.trans' (Keep.drewN _ _ _)
      have Hkm := hidden hkm
      clear hkm
      have g4' : (w1.drewN m).cell? ⟨bO, 4, none⟩ = _ := g4
      have g5' : (w1.drewN m).cell? ⟨bO, 5, none⟩ = _ := g5
      have g6' : (w1.drewN m).cell? ⟨bO, 6, none⟩ = _ := g6
      have s4' : (w1.drewN m).cell? ⟨bW, 4, none⟩ = _ := s4
      have s5' : (w1.drewN m).cell? ⟨bW, 5, none⟩ = _ := s5
      have s6' : (w1.drewN m).cell? ⟨bW, 6, none⟩ = _ := s6
      clear HkW g0 g1 g2 g3 g4 g5 g6 g7 g8 g9 s0 s1 s2 s3 s4 s5 s6 s7 s8 s9
      generalize w1.drewN m = w2 at *
      go_wp2_with fail
      refine (f41_same _ _ mm q1 _ (HD.out.keep Hkm.out) (HD'.out.keep Hkm.out) (by omega)).mono ?_
      rintro e w' ⟨rfl, m1, rfl⟩
      have hk3 : Keep [] w (w2.drewN m1) := Hkm.out.trans' (Keep.drewN _ _ _)
      have Hk3 := hidden hk3
      have g5 : (w2.drewN m1).cell? ⟨bO, 5, none⟩ = _ := g5'
      have g6 : (w2.drewN m1).cell? ⟨bO, 6, none⟩ = _ := g6'
      have s5 : (w2.drewN m1).cell? ⟨bW, 5, none⟩ = _ := s5'
      have s6 : (w2.drewN m1).cell? ⟨bW, 6, none⟩ = _ := s6'
      clear hk3 Hkm g4' g5' g6' s4' s5' s6'
      generalize w2.drewN m1 = w3 at *
      go_wp2_with fail
      refine (f41_same _ _ mm q2 _ (HE.out.keep Hk3.out) (HE'.out.keep Hk3.out) (by omega)).mono ?_
      rintro e w' ⟨rfl, m2, rfl⟩
      have hk4 : Keep [] w (w3.drewN m2) := Hk3.out.trans' (Keep.drewN _ _ _)
      have Hk4 := hidden hk4
      have g6' : (w3.drewN m2).cell? ⟨bO, 6, none⟩ = _ := g6
      have s6' : (w3.drewN m2).cell? ⟨bW, 6, none⟩ = _ := s6
      clear hk4 Hk3 g5 g6 s5 s6
      generalize w3.drewN m2 = w4 at *
      go_wp2_with fail
      refine (f41_same _ _ mm q3 _ (HF.out.keep Hk4.out) (HF'.out.keep Hk4.out) (by omega)).mono ?_
      rintro e w' ⟨rfl, m3, rfl⟩
      go_wp2_with fail
      go_ret
      exact ⟨rfl, Hk4.out.trans' (Keep.drewN _ _ _)⟩

/-- sameOut at two readings of one answer. -/
theorem f31_ans (w : World) (r r' : Value) (A : Ans) (h : OutIs w r (A.off : Int) A.ts A.os A.er A.eo A.em) (h' : OutIs w r' (A.off : Int) A.ts A.os A.er A.eo A.em) (h1 : A.ts.length ≤ 1000000) (h2 : A.os.length ≤ 1000000) :
    Calls Try.prog 31 #[r, r'] w fun e w' => e = .returned (.bool true) ∧ Keep [] w w' := by
  obtain ⟨a, b, c, d, e, f, rfl, ha, hb, hc, hd, he, hf⟩ := h
  obtain ⟨a', b', c', d', e', f', rfl, ha', hb', hc', hd', he', hf'⟩ := h'
  have d0 : Tok := ((⟨#[]⟩ : ByteArray), 0, 0)
  have d3 : Op3 := (0, 0, 0)
  exact f31_same w _ _ _ _ A.ts.length A.os.length (fun k => (A.ts.getD k d0).2.2) (fun k => (A.ts.getD k d0).2.1) (fun k => (A.ts.getD k d0).1) (fun k => (A.os.getD k d3).1) (fun k => (A.os.getD k d3).2.1) (fun k => (A.os.getD k d3).2.2)
    _ _ _ _ _ _ _ _ _ _ _ _ (ha.rowF d0) (hb.rowF d0) (hc.rowF d0) (ha'.rowF d0) (hb'.rowF d0) (hc'.rowF d0) (hd.rowF d3) (he.rowF d3) (hf.rowF d3) (hd'.rowF d3) (he'.rowF d3) (hf'.rowF d3) h2 h1
end Go.Proofs.Qxb6601273a
