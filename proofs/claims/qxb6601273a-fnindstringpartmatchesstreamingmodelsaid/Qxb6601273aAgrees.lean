import Derived.Test.Qxb6601273aExpect
namespace Go.Proofs.Qxb6601273a
open Go.RowKit
set_option linter.unusedVariables false

/-- The slice v holds n cells, F of each place. -/
def RowF (w : World) (v : Value) (n : Nat) (F : Nat → Value) : Prop := ∃ ao cap, v = .slice ao n cap ∧ ∀ k, k < n → ∃ g, ao = some ⟨g, 0, none⟩ ∧ w.cell? ⟨g, k, none⟩ = some (F k)

theorem RowF.keep {w w' : World} {v : Value} {n : Nat} {F : Nat → Value} (h : RowF w v n F) (hk : Keep [] w w') : RowF w' v n F := by
  obtain ⟨ao, cap, h1, h2⟩ := h
  refine ⟨ao, cap, h1, fun k hk' => ?_⟩
  obtain ⟨g, hg, hc⟩ := h2 k hk'
  exact ⟨g, hg, hk.cell hc (by simp)⟩
theorem RowAt.rowF {α : Type} {w : World} {t : TypeId} {v : Value} {ts : List α} {G : α → Value} (d : α) (h : RowAt w t v (ts.map G)) : RowF w v ts.length (fun k => G (ts.getD k d)) := by
  rcases h with ⟨rfl, h0⟩ | ⟨g, cap, cur, hv, _, hb, hc⟩
  · have : ts = [] := List.map_eq_nil_iff.1 h0
    subst this
    exact ⟨none, 0, rfl, fun k hk => by simp at hk⟩
  · refine ⟨some ⟨g, 0, none⟩, cap, by rw [hv, List.length_map], fun k hk => ⟨g, rfl, ?_⟩⟩
    rw [hb.cell, hc k (by simpa using hk), List.getElem?_map, List.getElem?_eq_getElem hk]
    simp [List.getD_eq_getElem?_getD, List.getElem?_eq_getElem hk]

set_option maxRecDepth 100000 in
set_option maxHeartbeats 4000000 in
/-- agrees, where all agrees. -/
theorem f27_true (w : World) (off eo op push : Int) (er : Bool) (em : ByteArray) (kk n mm : Nat) (K O : Nat → Int) (T : Nat → ByteArray) (p1 p2 p3 q1 q2 q3 : Nat → Int) (a b c d e f x y z vo vk vb : Value)
    (ha : RowF w a kk fun k => .int .u8 (K k)) (hb : RowF w b kk fun k => .int .i32 (O k)) (hc : RowF w c kk fun k => .string (T k))
    (hx : RowF w x kk fun k => .int .u8 (K k)) (hy : RowF w y kk fun k => .int .i32 (O k)) (hz : RowF w z kk fun k => .string (T k))
    (hd : RowF w d mm fun k => .int .i64 (q1 k)) (he : RowF w e mm fun k => .int .i64 (q2 k)) (hf : RowF w f mm fun k => .int .i64 (q3 k))
    (ho : RowF w vo n fun k => .int .i64 (p1 k)) (hk : RowF w vk n fun k => .int .i64 (p2 k)) (hbr : RowF w vb n fun k => .int .i64 (p3 k))
    (hn0 : 0 < n) (hn : n ≤ 1000000) (hkk : kk ≤ 1000000) (her : er = true → eo = p1 (n - 1) ∧ em = unterm)
    (hop : (op = 0 ∧ mm = n) ∨ (op = 1 ∧ mm + 1 = n) ∨ (op = 2 ∧ mm = n + 1 ∧ q1 n = push ∧ q2 n = 0 ∧ q3 n = 0)) (hpre : ∀ k, k < mm → k < n → q1 k = p1 k ∧ q2 k = p2 k ∧ q3 k = p3 k) :
    Calls Try.prog 27 #[.agg #[.int .i64 off, a, b, c, d, e, f, .bool er, .int .i64 eo, .string em], .agg #[.int .i64 off, x, y, z, .int .i64 op, .int .i64 push, .bool er], vo, vk, vb] w fun e w' => e = .returned (.bool true) ∧ Keep [] w w' := by
  obtain ⟨a0, a2, rfl, ha⟩ := ha
  obtain ⟨b0, b2, rfl, hb⟩ := hb
  obtain ⟨c0, c2, rfl, hc⟩ := hc
  obtain ⟨x0, x2, rfl, hx⟩ := hx
  obtain ⟨y0, y2, rfl, hy⟩ := hy
  obtain ⟨z0, z2, rfl, hz⟩ := hz
  obtain ⟨d0, d2, rfl, hd⟩ := hd
  obtain ⟨e0, e2, rfl, he⟩ := he
  obtain ⟨f0, f2, rfl, hf⟩ := hf
  obtain ⟨o0, o2, rfl, ho⟩ := ho
  obtain ⟨k0, k2, rfl, hk⟩ := hk
  obtain ⟨v0, v2, rfl, hbr⟩ := hbr
  have hO : Blk ((w.alloc (.cells #[.int .i64 off, .slice a0 kk a2, .slice b0 kk b2, .slice c0 kk c2, .slice d0 mm d2, .slice e0 mm e2, .slice f0 mm f2, .bool er, .int .i64 eo, .string em] 29)).alloc (.cells #[.int .i64 off, .slice x0 kk x2, .slice y0 kk y2, .slice z0 kk z2, .int .i64 op, .int .i64 push, .bool er] 44)) w.heap.size 29 _ := (Blk.new w 29 _).alloc _
  have hW : Blk ((w.alloc (.cells #[.int .i64 off, .slice a0 kk a2, .slice b0 kk b2, .slice c0 kk c2, .slice d0 mm d2, .slice e0 mm e2, .slice f0 mm f2, .bool er, .int .i64 eo, .string em] 29)).alloc (.cells #[.int .i64 off, .slice x0 kk x2, .slice y0 kk y2, .slice z0 kk z2, .int .i64 op, .int .i64 push, .bool er] 44)) (w.heap.size + 1) 44 _ := Blk.newAt (by simp)
  have kW : Keep [] w ((w.alloc (.cells #[.int .i64 off, .slice a0 kk a2, .slice b0 kk b2, .slice c0 kk c2, .slice d0 mm d2, .slice e0 mm e2, .slice f0 mm f2, .bool er, .int .i64 eo, .string em] 29)).alloc (.cells #[.int .i64 off, .slice x0 kk x2, .slice y0 kk y2, .slice z0 kk z2, .int .i64 op, .int .i64 push, .bool er] 44)) := (Keep.alloc _ _ _).trans' (Keep.alloc _ _ _)
  have HO := hidden hO
  have HW := hidden hW
  have HkW := hidden kW
  have Ha := hidden ha
  have Hb := hidden hb
  have Hc := hidden hc
  have Hx := hidden hx
  have Hy := hidden hy
  have Hz := hidden hz
  have Hd := hidden hd
  have He := hidden he
  have Hf := hidden hf
  have Ho := hidden ho
  have Hk := hidden hk
  have Hbr := hidden hbr
  have Her := hidden her
  have Hop := hidden hop
  have Hpre := hidden hpre
  clear hO hW kW ha hb hc hx hy hz hd he hf ho hk hbr her hop hpre
  go_enter Try.func27, Try.ntmps27
  go_upto_region 2 with fail
  have hO := HO.out
  have hW := HW.out
  have kW := HkW.out
  clear HO HW HkW
  generalize ((w.alloc (.cells #[.int .i64 off, .slice a0 kk a2, .slice b0 kk b2, .slice c0 kk c2, .slice d0 mm d2, .slice e0 mm e2, .slice f0 mm f2, .bool er, .int .i64 eo, .string em] 29)).alloc (.cells #[.int .i64 off, .slice x0 kk x2, .slice y0 kk y2, .slice z0 kk z2, .int .i64 op, .int .i64 push, .bool er] 44)) = w1 at *
  obtain ⟨g0, g1, g2, g3, g4, g5, g6, g7, g8, g9⟩ := cells10 hO
  obtain ⟨s0, s1, s2, s3, s4, s5, s6⟩ := cells7 hW
  generalize w.heap.size + 1 = bW at *
  generalize w.heap.size = bO at *
  have HkW := hidden kW
  clear hO hW kW
  go_upto_if 31 with fail
  go_cut [] (fun wx => ∃ m, wx = w1.drewN m)
  case first =>
    cases er
    · go_wp2_with fail
      go_meet
      case rel => exact ⟨0, rfl⟩
    · obtain ⟨rfl, rfl⟩ := Her.out rfl
      obtain ⟨j, rfl⟩ : ∃ j, n = j + 1 := ⟨n - 1, by omega⟩
      obtain ⟨go, rfl, co⟩ := Ho.out j (by omega)
      have co1 : w1.cell? ⟨go, j, none⟩ = some (.int .i64 (p1 j)) := HkW.out.cell co (by simp)
      have hw1 : IntKind.i64.wrap ((j : Int) + 1 - 1) = (j : Int) := by rw [IntKind.wrap_i64]; omega
      have hj0 : (0 : Int) ≤ (j : Int) := by omega
      have hj1 : (j : Int) < (j : Int) + 1 := by omega
      have hsub : j + 1 - 1 = j := by omega
      rw [hsub] at g8
      unfold unterm at g9
      clear co hsub
      go_wp2_with fail
      go_quiet (fail)
      go_wp2_with fail
      go_meet
      case rel => exact ⟨_, rfl⟩
  case rest =>
    obtain ⟨m0, rfl⟩ := hcut
    go_wp2_with fail
    go_loopw [13] (fun i wr => ∃ k m : Nat, k ≤ kk ∧ i = .int .i64 k ∧ wr = w1.drewN m) (fun i _ => kk - (intOf i).toNat)
    case atStart => exact ⟨0, _, Nat.zero_le _, rfl, rfl⟩
    case round =>
      obtain ⟨k, m, hk, rfl, rfl⟩ := hrel
      by_cases hlt : k < kk
      · obtain ⟨ga, rfl, ca⟩ := Ha.out k hlt
        obtain ⟨gb, rfl, cb⟩ := Hb.out k hlt
        obtain ⟨gc, rfl, cc⟩ := Hc.out k hlt
        obtain ⟨gx, rfl, cx⟩ := Hx.out k hlt
        obtain ⟨gy, rfl, cy⟩ := Hy.out k hlt
        obtain ⟨gz, rfl, cz⟩ := Hz.out k hlt
        have ca1 := HkW.out.cell ca (by simp)
        have cb1 := HkW.out.cell cb (by simp)
        have cc1 := HkW.out.cell cc (by simp)
        have cx1 := HkW.out.cell cx (by simp)
        have cy1 := HkW.out.cell cy (by simp)
        have cz1 := HkW.out.cell cz (by simp)
        have i1 : (k : Int) < (kk : Int) := by omega
        have i0 : (0 : Int) ≤ (k : Int) := by omega
        clear ca cb cc cx cy cz
        generalize K k = zk at *
        generalize O k = zo at *
        generalize T k = zt at *
        go_wp2_with fail
        go_quiet (fail)
        go_wp2_with fail
        go_roundw
        case rel => exact ⟨k + 1, _, by omega, by go_num, rfl⟩
        case measure => simp [intOf]; omega
      · go_upto_if 112 with fail
        go_cut [14] (fun b wx => b = .int .i64 (mm : Nat) ∧ ∃ m', wx = w1.drewN m')
        case first =>
          rcases Hop.out with ⟨rfl, rfl⟩ | ⟨rfl, rfl⟩ | ⟨rfl, rfl, _⟩
          · go_wp2_with fail
            go_meet
            case rel => exact ⟨rfl, _, rfl⟩
          · have hw1 : IntKind.i64.wrap ((mm : Int) + 1 - 1) = (mm : Int) := by rw [IntKind.wrap_i64]; omega
            go_wp2_with fail
            go_meet
            case rel => exact ⟨by go_num, _, rfl⟩
          · go_wp2_with fail
            go_meet
            case rel => exact ⟨by go_num, _, rfl⟩
        case rest =>
          obtain ⟨rfl, m', rfl⟩ := hcut
          go_wp2_with fail
          go_loopw [15] (fun i wr => ∃ k m : Nat, k ≤ mm ∧ k ≤ n ∧ i = .int .i64 k ∧ wr = w1.drewN m) (fun i _ => mm - (intOf i).toNat)
          case atStart => exact ⟨0, _, Nat.zero_le _, Nat.zero_le _, rfl, rfl⟩
          case round =>
            obtain ⟨j, m'', hj, hjn, rfl, rfl⟩ := hrel
            by_cases hjm : j < mm ∧ j < n
            · obtain ⟨h1, h2⟩ := hjm
              obtain ⟨e1, e2', e3⟩ := Hpre.out j h1 h2
              obtain ⟨gd, rfl, cd⟩ := Hd.out j h1
              obtain ⟨ge, rfl, ce⟩ := He.out j h1
              obtain ⟨gf, rfl, cf⟩ := Hf.out j h1
              obtain ⟨go, rfl, co⟩ := Ho.out j h2
              obtain ⟨gk, rfl, ck⟩ := Hk.out j h2
              obtain ⟨gv, rfl, cv⟩ := Hbr.out j h2
              have cd1 := HkW.out.cell cd (by simp)
              have ce1 := HkW.out.cell ce (by simp)
              have cf1 := HkW.out.cell cf (by simp)
              have co1 := HkW.out.cell co (by simp)
              have ck1 := HkW.out.cell ck (by simp)
              have cv1 := HkW.out.cell cv (by simp)
              rw [e1] at cd1
              rw [e2'] at ce1
              rw [e3] at cf1
              have i1 : (j : Int) < (mm : Int) := by omega
              have i2 : (j : Int) < (n : Int) := by omega
              have i0 : (0 : Int) ≤ (j : Int) := by omega
              clear cd ce cf co ck cv e1 e2' e3
              generalize p1 j = y1 at *
              generalize p2 j = y2 at *
              generalize p3 j = y3 at *
              go_wp2_with fail
              go_quiet (fail)
              go_wp2_with fail
              go_roundw
              case rel => exact ⟨j + 1, _, by omega, by omega, by go_num, rfl⟩
              case measure => simp [intOf]; omega
            · rcases Hop.out with ⟨rfl, rfl⟩ | ⟨rfl, rfl⟩ | ⟨rfl, rfl, hq1, hq2, hq3⟩
              · have ej : j = mm := by omega
                subst ej
                go_wp2_with fail
                go_ret
                exact ⟨rfl, HkW.out.trans' (Keep.drewN _ _ _)⟩
              · have ej : j = mm := by omega
                subst ej
                go_wp2_with fail
                go_ret
                exact ⟨rfl, HkW.out.trans' (Keep.drewN _ _ _)⟩
              · have ej : j = n := by omega
                subst ej
                obtain ⟨gd, rfl, cd⟩ := Hd.out j (by omega)
                obtain ⟨ge, rfl, ce⟩ := He.out j (by omega)
                obtain ⟨gf, rfl, cf⟩ := Hf.out j (by omega)
                have cd1 := HkW.out.cell cd (by simp)
                have ce1 := HkW.out.cell ce (by simp)
                have cf1 := HkW.out.cell cf (by simp)
                rw [hq1] at cd1
                rw [hq2] at ce1
                rw [hq3] at cf1
                have i1 : (j : Int) < (j : Int) + 1 := by omega
                have i0 : (0 : Int) ≤ (j : Int) := by omega
                clear cd ce cf hq1 hq2 hq3
                go_wp2_with fail
                go_quiet (fail)
                go_wp2_with fail
                go_ret
                exact ⟨rfl, (HkW.out.trans' (Keep.drewN _ _ _)).trans' (Keep.drewN _ _ _)⟩
end Go.Proofs.Qxb6601273a
