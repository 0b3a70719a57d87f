import Derived.Test.Qxb6601273aNumLaw
import Derived.Test.Qxb6601273aSame
import Derived.Test.Qxb6601273aStrD
import Derived.Deep.CutBlock
namespace Go.Proofs.Qxb6601273a
open Go.RowKit
set_option linter.unusedVariables false

set_option maxHeartbeats 400000 in
theorem f35_any (z : Int) (w : World) (h0 : 0 ≤ z) (h1 : z ≤ 255) :
    Calls Try.prog 35 #[.int .u8 z] w fun e w' => e = .returned (.bool (digB z)) ∧ w' = w := by
  go_enter Try.func35, Try.ntmps35
  go_wp2
  · go_ret
    exact ⟨ret_bool (by unfold digB; rw [decide_eq_true (p := 48 ≤ z) (by assumption)]; simp), rfl⟩
  · go_ret
    exact ⟨ret_bool (by rw [digB_f (by omega)]), rfl⟩

/-- The automaton's step (-1: none). -/
def nxt (s : Nat) (z : Int) : Int :=
  if s = 0 then (if z = 48 then 2 else if digB z = true then 1 else if z = 46 then 3 else -1)
  else if s = 1 then (if digB z = true then 1 else if z = 46 then 4 else -1)
  else if s = 2 then (if z = 46 then 3 else -1)
  else if s = 3 then (if digB z = true then 4 else -1)
  else if s = 4 then (if digB z = true then 4 else if z = 101 then 5 else if z = 69 then 5 else -1)
  else if s = 5 then (if z = 43 then 6 else if z = 45 then 6 else if digB z = true then 7 else -1)
  else (if digB z = true then 7 else -1)

/-- The last place at which the automaton accepts. -/
def auto (bs : List UInt8) : Nat → Nat → Nat → Int → Int
  | 0, p, s, best => best
  | f + 1, p, s, best =>
    if bs.length ≤ p then best
    else if nxt s (byteAt bs p) < 0 then best
    else auto bs f (p + 1) (nxt s (byteAt bs p)).toNat (if nxt s (byteAt bs p) = 4 ∨ nxt s (byteAt bs p) = 7 then (p : Int) + 1 else best)

theorem auto_end {bs : List UInt8} {f p s : Nat} {best : Int} (h : bs.length ≤ p) : auto bs (f + 1) p s best = best := by unfold auto; rw [if_pos h]
theorem auto_stop {bs : List UInt8} {f p s : Nat} {best : Int} (h : p < bs.length) (hn : nxt s (byteAt bs p) = -1) : auto bs (f + 1) p s best = best := by
  unfold auto; rw [if_neg (by omega), if_pos (by rw [hn]; decide)]
theorem auto_go {bs : List UInt8} {f p s s' : Nat} {best : Int} (h : p < bs.length) (hn : nxt s (byteAt bs p) = (s' : Int)) : auto bs (f + 1) p s best = auto bs f (p + 1) s' (if s' = 4 ∨ s' = 7 then (p : Int) + 1 else best) := by
  conv => lhs; unfold auto
  rw [if_neg (by omega), if_neg (by rw [hn]; omega), hn]
  have e1 : ((s' : Int)).toNat = s' := by omega
  rw [e1]
  congr 1
  have e2 : ((s' : Int) = 4 ∨ (s' : Int) = 7) ↔ (s' = 4 ∨ s' = 7) := by omega
  by_cases h4 : s' = 4 ∨ s' = 7
  · rw [if_pos h4, if_pos (e2.2 h4)]
  · rw [if_neg h4, if_neg (fun h => h4 (e2.1 h))]

/-- What 'numberModel' hands back. -/
def modelEnd (B : Int) (d : Nat) : Ending := if 0 ≤ B then .returned (.tuple #[.int .i64 B, .bool true]) else .returned (.tuple #[.int .i64 (d : Int), .bool false])

set_option maxRecDepth 100000 in
set_option maxHeartbeats 4000000 in
theorem f13_any (v : Value) (bs : List UInt8) (off : Nat) (w : World) (hs : Src w v bs) (ho : off ≤ bs.length) (hn : bs.length ≤ 10000000) :
    Calls Try.prog 13 #[v, .int .i64 off] w fun e w' => e = modelEnd (auto bs (bs.length - off + 1) off 0 (-1)) (digEnd bs off) ∧ w' = w := by
  generalize hB : auto bs (bs.length - off + 1) off 0 (-1) = B
  have HB := hidden hB
  clear hB
  obtain ⟨sa, sc, rfl⟩ := hs.form
  go_enter Try.func13, Try.ntmps13
  go_upto_block 0 with fail
  go_cut [7] (fun b wx => b = .int .i64 B ∧ w = wx)
  case first =>
    go_wp2_with fail
    go_loopg [6, 7, 8] (bs.length - off + 1) (fun gk st b i wr => ∃ (p s : Nat) (best : Int), st = .int .i64 s ∧ b = .int .i64 best ∧ i = .int .i64 p ∧ w = wr ∧ p ≤ bs.length ∧ bs.length < gk + p ∧ s ≤ 7 ∧ auto bs gk p s best = B)
    case atStart => exact ⟨off, 0, -1, rfl, rfl, rfl, rfl, ho, by omega, by omega, HB.out⟩
    case round =>
      clear HB
      obtain ⟨p, s, best, rfl, rfl, rfl, rfl, hp, hg, hs7, hau⟩ := hrel
      obtain ⟨gk, rfl⟩ : ∃ g', gk = g' + 1 := ⟨gk - 1, by omega⟩
      have Hau := hidden hau
      clear hau
      by_cases hlt : p < bs.length
      · obtain ⟨g, rfl, hcs⟩ := hs.cellsT hlt
        have cp := hcs p hlt
        have i1 : (p : Int) < (bs.length : Int) := by omega
        have i0 : (0 : Int) ≤ (p : Int) := by omega
        have hz := byteAt_range bs p
        have hgo : ∀ s' : Nat, nxt s (byteAt bs p) = (s' : Int) → auto bs gk (p + 1) s' (if s' = 4 ∨ s' = 7 then (p : Int) + 1 else best) = B := fun s' h => by rw [← auto_go hlt h]; exact Hau.out
        have hst : nxt s (byteAt bs p) = -1 → best = B := fun h => by rw [← auto_stop (f := gk) (best := best) hlt h]; exact Hau.out
        have Hgo := hidden hgo
        have Hst := hidden hst
        clear hgo hst Hau hs hcs
        generalize byteAt bs p = z at *
        have hs8 : s = 0 ∨ s = 1 ∨ s = 2 ∨ s = 3 ∨ s = 4 ∨ s = 5 ∨ s = 6 ∨ s = 7 := by omega
        rcases hs8 with rfl | rfl | rfl | rfl | rfl | rfl | rfl | rfl
        · as_aux_lemma =>
          by_cases h0 : z = 48
          · skip
            have hq := Hgo.out 2 (by subst h0; decide)
            have HQ := hidden hq
            clear hq
            have b0 : (z == 48) = true := by simp [h0]
            clear h0
            go_wp2_with fail
            go_roundg gk
            case measure => omega
            case rel => exact ⟨p + 1, 2, _, rfl, rfl, by go_num, rfl, by omega, by omega, by omega, by simpa using HQ.out⟩
          · skip
            cases h1 : digB z
            · skip
              by_cases h2 : z = 46
              · skip
                have hq := Hgo.out 3 (by subst h2; decide)
                have HQ := hidden hq
                clear hq
                have b0 : (z == 48) = false := by simp [h0]
                clear h0
                have H1 := hidden h1
                clear h1
                have b2 : (z == 46) = true := by simp [h2]
                clear h2
                go_wp2_with fail
                refine (f35_any z _ hz.1 hz.2).mono ?_
                rw [H1.out]
                rintro e w' ⟨rfl, rfl⟩
                go_wp2_with fail
                go_roundg gk
                case measure => omega
                case rel => exact ⟨p + 1, 3, _, rfl, rfl, by go_num, rfl, by omega, by omega, by omega, by simpa using HQ.out⟩
              · skip
                have hq := Hst.out (by unfold nxt; simp [h0, h1, h2])
                have HQ := hidden hq
                clear hq
                have b0 : (z == 48) = false := by simp [h0]
                clear h0
                have H1 := hidden h1
                clear h1
                have b2 : (z == 46) = false := by simp [h2]
                clear h2
                go_wp2_with fail
                refine (f35_any z _ hz.1 hz.2).mono ?_
                rw [H1.out]
                rintro e w' ⟨rfl, rfl⟩
                go_wp2_with fail
                go_meet
                case rel => exact ⟨by rw [HQ.out], rfl⟩
            · skip
              have hq := Hgo.out 1 (by unfold nxt; simp [h0, h1])
              have HQ := hidden hq
              clear hq
              have b0 : (z == 48) = false := by simp [h0]
              clear h0
              have H1 := hidden h1
              clear h1
              go_wp2_with fail
              refine (f35_any z _ hz.1 hz.2).mono ?_
              rw [H1.out]
              rintro e w' ⟨rfl, rfl⟩
              go_wp2_with fail
              go_roundg gk
              case measure => omega
              case rel => exact ⟨p + 1, 1, _, rfl, rfl, by go_num, rfl, by omega, by omega, by omega, by simpa using HQ.out⟩
        · as_aux_lemma =>
          cases h0 : digB z
          · skip
            by_cases h1 : z = 46
            · skip
              have hq := Hgo.out 4 (by subst h1; decide)
              have HQ := hidden hq
              clear hq
              have H0 := hidden h0
              clear h0
              have b1 : (z == 46) = true := by simp [h1]
              clear h1
              go_wp2_with fail
              refine (f35_any z _ hz.1 hz.2).mono ?_
              rw [H0.out]
              rintro e w' ⟨rfl, rfl⟩
              go_wp2_with fail
              go_roundg gk
              case measure => omega
              case rel => exact ⟨p + 1, 4, _, rfl, rfl, by go_num, rfl, by omega, by omega, by omega, by simpa using HQ.out⟩
            · skip
              have hq := Hst.out (by unfold nxt; simp [h0, h1])
              have HQ := hidden hq
              clear hq
              have H0 := hidden h0
              clear h0
              have b1 : (z == 46) = false := by simp [h1]
              clear h1
              go_wp2_with fail
              refine (f35_any z _ hz.1 hz.2).mono ?_
              rw [H0.out]
              rintro e w' ⟨rfl, rfl⟩
              go_wp2_with fail
              go_meet
              case rel => exact ⟨by rw [HQ.out], rfl⟩
          · skip
            have hq := Hgo.out 1 (by unfold nxt; simp [h0])
            have HQ := hidden hq
            clear hq
            have H0 := hidden h0
            clear h0
            go_wp2_with fail
            refine (f35_any z _ hz.1 hz.2).mono ?_
            rw [H0.out]
            rintro e w' ⟨rfl, rfl⟩
            go_wp2_with fail
            go_roundg gk
            case measure => omega
            case rel => exact ⟨p + 1, 1, _, rfl, rfl, by go_num, rfl, by omega, by omega, by omega, by simpa using HQ.out⟩
        · as_aux_lemma =>
          by_cases h0 : z = 46
          · skip
            have hq := Hgo.out 3 (by subst h0; decide)
            have HQ := hidden hq
            clear hq
            have b0 : (z == 46) = true := by simp [h0]
            clear h0
            go_wp2_with fail
            go_roundg gk
            case measure => omega
            case rel => exact ⟨p + 1, 3, _, rfl, rfl, by go_num, rfl, by omega, by omega, by omega, by simpa using HQ.out⟩
          · skip
            have hq := Hst.out (by unfold nxt; simp [h0])
            have HQ := hidden hq
            clear hq
            have b0 : (z == 46) = false := by simp [h0]
            clear h0
            go_wp2_with fail
            go_meet
            case rel => exact ⟨by rw [HQ.out], rfl⟩
        · as_aux_lemma =>
          cases h0 : digB z
          · skip
            have hq := Hst.out (by unfold nxt; simp [h0])
            have HQ := hidden hq
            clear hq
            have H0 := hidden h0
            clear h0
            go_wp2_with fail
            refine (f35_any z _ hz.1 hz.2).mono ?_
            rw [H0.out]
            rintro e w' ⟨rfl, rfl⟩
            go_wp2_with fail
            go_meet
            case rel => exact ⟨by rw [HQ.out], rfl⟩
          · skip
            have hq := Hgo.out 4 (by unfold nxt; simp [h0])
            have HQ := hidden hq
            clear hq
            have H0 := hidden h0
            clear h0
            go_wp2_with fail
            refine (f35_any z _ hz.1 hz.2).mono ?_
            rw [H0.out]
            rintro e w' ⟨rfl, rfl⟩
            go_wp2_with fail
            go_roundg gk
            case measure => omega
            case rel => exact ⟨p + 1, 4, _, rfl, rfl, by go_num, rfl, by omega, by omega, by omega, by simpa using HQ.out⟩
        · as_aux_lemma =>
          cases h0 : digB z
          · skip
            by_cases h1 : z = 101
            · skip
              have hq := Hgo.out 5 (by subst h1; decide)
              have HQ := hidden hq
              clear hq
              have H0 := hidden h0
              clear h0
              have b1 : (z == 101) = true := by simp [h1]
              clear h1
              go_wp2_with fail
              refine (f35_any z _ hz.1 hz.2).mono ?_
              rw [H0.out]
              rintro e w' ⟨rfl, rfl⟩
              go_wp2_with fail
              go_roundg gk
              case measure => omega
              case rel => exact ⟨p + 1, 5, _, rfl, rfl, by go_num, rfl, by omega, by omega, by omega, by simpa using HQ.out⟩
            · skip
              by_cases h2 : z = 69
              · skip
                have hq := Hgo.out 5 (by subst h2; decide)
                have HQ := hidden hq
                clear hq
                have H0 := hidden h0
                clear h0
                have b1 : (z == 101) = false := by simp [h1]
                clear h1
                have b2 : (z == 69) = true := by simp [h2]
                clear h2
                go_wp2_with fail
                refine (f35_any z _ hz.1 hz.2).mono ?_
                rw [H0.out]
                rintro e w' ⟨rfl, rfl⟩
                go_wp2_with fail
                go_roundg gk
                case measure => omega
                case rel => exact ⟨p + 1, 5, _, rfl, rfl, by go_num, rfl, by omega, by omega, by omega, by simpa using HQ.out⟩
              · skip
                have hq := Hst.out (by unfold nxt; simp [h0, h1, h2])
                have HQ := hidden hq
                clear hq
                have H0 := hidden h0
                clear h0
                have b1 : (z == 101) = false := by simp [h1]
                clear h1
                have b2 : (z == 69) = false := by simp [h2]
                clear h2
                go_wp2_with fail
                refine (f35_any z _ hz.1 hz.2).mono ?_
                rw [H0.out]
                rintro e w' ⟨rfl, rfl⟩
                go_wp2_with fail
                go_meet
                case rel => exact ⟨by rw [HQ.out], rfl⟩
          · skip
            have hq := Hgo.out 4 (by unfold nxt; simp [h0])
            have HQ := hidden hq
            clear hq
            have H0 := hidden h0
            clear h0
            go_wp2_with fail
            refine (f35_any z _ hz.1 hz.2).mono ?_
            rw [H0.out]
            rintro e w' ⟨rfl, rfl⟩
            go_wp2_with fail
            go_roundg gk
            case measure => omega
            case rel => exact ⟨p + 1, 4, _, rfl, rfl, by go_num, rfl, by omega, by omega, by omega, by simpa using HQ.out⟩
        · as_aux_lemma =>
          by_cases h0 : z = 43
          · skip
            have hq := Hgo.out 6 (by subst h0; decide)
            have HQ := hidden hq
            clear hq
            have b0 : (z == 43) = true := by simp [h0]
            clear h0
            go_wp2_with fail
            go_roundg gk
            case measure => omega
            case rel => exact ⟨p + 1, 6, _, rfl, rfl, by go_num, rfl, by omega, by omega, by omega, by simpa using HQ.out⟩
          · skip
            by_cases h1 : z = 45
            · skip
              have hq := Hgo.out 6 (by subst h1; decide)
              have HQ := hidden hq
              clear hq
              have b0 : (z == 43) = false := by simp [h0]
              clear h0
              have b1 : (z == 45) = true := by simp [h1]
              clear h1
              go_wp2_with fail
              go_roundg gk
              case measure => omega
              case rel => exact ⟨p + 1, 6, _, rfl, rfl, by go_num, rfl, by omega, by omega, by omega, by simpa using HQ.out⟩
            · skip
              cases h2 : digB z
              · skip
                have hq := Hst.out (by unfold nxt; simp [h0, h1, h2])
                have HQ := hidden hq
                clear hq
                have b0 : (z == 43) = false := by simp [h0]
                clear h0
                have b1 : (z == 45) = false := by simp [h1]
                clear h1
                have H2 := hidden h2
                clear h2
                go_wp2_with fail
                refine (f35_any z _ hz.1 hz.2).mono ?_
                rw [H2.out]
                rintro e w' ⟨rfl, rfl⟩
                go_wp2_with fail
                go_meet
                case rel => exact ⟨by rw [HQ.out], rfl⟩
              · skip
                have hq := Hgo.out 7 (by unfold nxt; simp [h0, h1, h2])
                have HQ := hidden hq
                clear hq
                have b0 : (z == 43) = false := by simp [h0]
                clear h0
                have b1 : (z == 45) = false := by simp [h1]
                clear h1
                have H2 := hidden h2
                clear h2
                go_wp2_with fail
                refine (f35_any z _ hz.1 hz.2).mono ?_
                rw [H2.out]
                rintro e w' ⟨rfl, rfl⟩
                go_wp2_with fail
                go_roundg gk
                case measure => omega
                case rel => exact ⟨p + 1, 7, _, rfl, rfl, by go_num, rfl, by omega, by omega, by omega, by simpa using HQ.out⟩
        · as_aux_lemma =>
          cases h0 : digB z
          · skip
            have hq := Hst.out (by unfold nxt; simp [h0])
            have HQ := hidden hq
            clear hq
            have H0 := hidden h0
            clear h0
            go_wp2_with fail
            refine (f35_any z _ hz.1 hz.2).mono ?_
            rw [H0.out]
            rintro e w' ⟨rfl, rfl⟩
            go_wp2_with fail
            go_meet
            case rel => exact ⟨by rw [HQ.out], rfl⟩
          · skip
            have hq := Hgo.out 7 (by unfold nxt; simp [h0])
            have HQ := hidden hq
            clear hq
            have H0 := hidden h0
            clear h0
            go_wp2_with fail
            refine (f35_any z _ hz.1 hz.2).mono ?_
            rw [H0.out]
            rintro e w' ⟨rfl, rfl⟩
            go_wp2_with fail
            go_roundg gk
            case measure => omega
            case rel => exact ⟨p + 1, 7, _, rfl, rfl, by go_num, rfl, by omega, by omega, by omega, by simpa using HQ.out⟩
        · as_aux_lemma =>
          cases h0 : digB z
          · skip
            have hq := Hst.out (by unfold nxt; simp [h0])
            have HQ := hidden hq
            clear hq
            have H0 := hidden h0
            clear h0
            go_wp2_with fail
            refine (f35_any z _ hz.1 hz.2).mono ?_
            rw [H0.out]
            rintro e w' ⟨rfl, rfl⟩
            go_wp2_with fail
            go_meet
            case rel => exact ⟨by rw [HQ.out], rfl⟩
          · skip
            have hq := Hgo.out 7 (by unfold nxt; simp [h0])
            have HQ := hidden hq
            clear hq
            have H0 := hidden h0
            clear h0
            go_wp2_with fail
            refine (f35_any z _ hz.1 hz.2).mono ?_
            rw [H0.out]
            rintro e w' ⟨rfl, rfl⟩
            go_wp2_with fail
            go_roundg gk
            case measure => omega
            case rel => exact ⟨p + 1, 7, _, rfl, rfl, by go_num, rfl, by omega, by omega, by omega, by simpa using HQ.out⟩
      · have hq : best = B := by rw [← auto_end (bs := bs) (f := gk) (p := p) (s := s) (best := best) (by omega)]; exact Hau.out
        have HQ := hidden hq
        clear hq
        go_wp2_with fail
        go_meet
        case rel => exact ⟨by rw [HQ.out], rfl⟩
  case rest =>
    obtain ⟨rfl, rfl⟩ := hcut
    clear HB
    by_cases hB : 0 ≤ B
    · go_wp2_with fail
      go_ret2
      exact ⟨by unfold modelEnd; rw [if_pos hB]; rfl, rfl⟩
    · have hB' : B < 0 := by omega
      go_wp2_with fail
      go_loopg [11] (bs.length - off) (fun gk i wr => ∃ k : Nat, i = .int .i64 k ∧ w = wr ∧ off ≤ k ∧ gk + k = bs.length ∧ Hid (∀ j, off ≤ j → j < k → digB (byteAt bs j) = true))
      case atStart => exact ⟨off, rfl, rfl, Nat.le_refl _, by omega, fun j h1 h2 => by omega⟩
      case round =>
        obtain ⟨k, rfl, rfl, hk1, hk2, hd⟩ := hrel
        have hz := byteAt_range bs k
        by_cases hlt : k < bs.length
        · obtain ⟨g, rfl, hcs⟩ := hs.cellsT hlt
          have ck := hcs k hlt
          have i1 : (k : Int) < (bs.length : Int) := by omega
          have i0 : (0 : Int) ≤ (k : Int) := by omega
          cases hdz : digB (byteAt bs k)
          · have he := digEnd_eq hk1 (by omega) hd.out hdz
            have HE := hidden he
            have HD := hidden hdz
            clear he hdz hcs hs
            go_wp2_with fail
            refine (f35_any _ _ hz.1 hz.2).mono ?_
            rw [HD.out]
            rintro e w' ⟨rfl, rfl⟩
            go_wp2_with fail
            go_ret2
            exact ⟨by unfold modelEnd; rw [if_neg (by omega), HE.out]; rfl, rfl⟩
          · have HD := hidden hdz
            clear hdz hcs hs
            go_wp2_with fail
            refine (f35_any _ _ hz.1 hz.2).mono ?_
            rw [HD.out]
            rintro e w' ⟨rfl, rfl⟩
            go_wp2_with fail
            go_roundg (gk - 1)
            case measure => omega
            case rel =>
              refine ⟨k + 1, by go_num, rfl, by omega, by omega, fun j h1 h2 => ?_⟩
              by_cases e : j = k
              · rw [e]; exact HD.out
              · exact hd.out j h1 (by omega)
        · have hdz : digB (byteAt bs k) = false := by rw [byteAt_out (by omega)]; rfl
          have he := digEnd_eq hk1 (by omega) hd.out hdz
          have HE := hidden he
          have hdd : decide ((k : Int) < (bs.length : Int)) = false := by simpa using hlt
          clear he hdz hs
          go_wp2_with fail
          go_ret2
          exact ⟨by unfold modelEnd; rw [if_neg (by omega), HE.out]; rfl, rfl⟩
end Go.Proofs.Qxb6601273a
