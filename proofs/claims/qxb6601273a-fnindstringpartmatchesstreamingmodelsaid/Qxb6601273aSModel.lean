import Derived.Test.Qxb6601273aCloneI
import Derived.Test.Qxb6601273aDecStr
namespace Go.Proofs.Qxb6601273a
open Go.RowKit
set_option linter.unusedVariables false

set_option maxHeartbeats 400000 in
theorem f38_any (z : Int) (w : World) : Calls Try.prog 38 #[.int .u8 z] w fun e w' => e = .returned (.int .u8 (unescI z)) ∧ w' = w := by
  by_cases h1 : z = 110
  · subst h1
    go_enter Try.func38, Try.ntmps38
    go_wp2
    go_ret
    exact ⟨ret_int (by decide), rfl⟩
  · have b1 : (z == 110) = false := beq_eq_false_iff_ne.2 h1
    by_cases h2 : z = 116
    · subst h2
      go_enter Try.func38, Try.ntmps38
      go_wp2
      go_ret
      exact ⟨ret_int (by decide), rfl⟩
    · have b2 : (z == 116) = false := beq_eq_false_iff_ne.2 h2
      by_cases h3 : z = 114
      · subst h3
        go_enter Try.func38, Try.ntmps38
        go_wp2
        go_ret
        exact ⟨ret_int (by decide), rfl⟩
      · have b3 : (z == 114) = false := beq_eq_false_iff_ne.2 h3
        have e : unescI z = z := by unfold unescI; rw [if_neg h1, if_neg h2, if_neg h3]
        rw [e]
        clear e h1 h2 h3
        go_enter Try.func38, Try.ntmps38
        go_wp2
        go_ret
        exact ⟨rfl, rfl⟩

theorem results_four {fn : Func} {t u v x : Tmp} (h : fn.results = #[.tmp t, .tmp u, .tmp v, .tmp x]) (tmps : Array Value) (P : Program) (w : World) :
    (results fn tmps).run P w = .ok (.tuple #[tmps.getD t undef, tmps.getD u undef, tmps.getD v undef, tmps.getD x undef]) w := by
  simp [results, h]

/-- What the streaming model answers: how the call ends, where, the text, where the lexer is left. -/
structure MAns where
  act : Int
  at_ : Int
  text : List UInt8
  fin : Int

/-- The streaming model from p on, in state s (0 plain; 1 behind a backslash; 2 behind a dollar). -/
def smod (bs : List UInt8) : Nat → Nat → Nat → List UInt8 → MAns
  | 0, p, s, acc => ⟨3, 0, acc, bs.length⟩
  | f + 1, p, s, acc =>
    if bs.length ≤ p then ⟨3, 0, acc, bs.length⟩
    else if s = 1 then smod bs f (p + 1) 0 (acc ++ [unescU (atU bs p)])
    else if s = 2 then
      (if byteAt bs p = 123 then ⟨1, (p : Int) - 1, acc, (p : Int) + 1⟩
      else if byteAt bs p = 34 then ⟨0, p, acc ++ [36], (p : Int) + 1⟩
      else if byteAt bs p = 92 then smod bs f (p + 1) 1 (acc ++ [36])
      else smod bs f (p + 1) 0 (acc ++ [36] ++ [atU bs p]))
    else if byteAt bs p = 34 then ⟨0, p, acc, (p : Int) + 1⟩
    else if byteAt bs p = 92 then smod bs f (p + 1) 1 acc
    else if byteAt bs p = 36 then smod bs f (p + 1) 2 acc
    else smod bs f (p + 1) 0 (acc ++ [atU bs p])

/-- What the model hands back. -/
def MPost (w : World) (R : MAns) (e : Ending) (w' : World) : Prop :=
  ∃ tv, e = .returned (.tuple #[.int .i64 R.act, .int .i64 R.at_, tv, .int .i64 R.fin]) ∧ w'.ownsRow w.heap.size 5 1 tv R.text.length (byteCells R.text) ∧ Keep [] w w'

/-- The loop's relation. -/
def SMRel (w : World) (bs : List UInt8) (R : MAns) (gk : Nat) (tx st pv : Value) (wr : World) : Prop :=
  ∃ (p s : Nat) (acc : List UInt8), st = .int .i64 s ∧ pv = .int .i64 p ∧ s ≤ 2 ∧ p ≤ bs.length ∧ acc.length ≤ 2 * p ∧ bs.length < gk + p ∧ smod bs gk p s acc = R ∧ wr.ownsRow w.heap.size 5 1 tx acc.length (byteCells acc) ∧ Keep [] w wr

set_option maxRecDepth 100000 in
set_option maxHeartbeats 8000000 in
theorem f25_any (v : Value) (bs : List UInt8) (off : Nat) (w : World) (hs : Src w v bs) (ho : off ≤ bs.length) (hn : bs.length ≤ 1000000) :
    Calls Try.prog 25 #[v, .int .i64 off] w (MPost w (smod bs (bs.length - off + 1) off 0 [])) := by
  generalize hR : smod bs (bs.length - off + 1) off 0 [] = R
  have HR0 := hidden hR
  clear hR
  obtain ⟨sa, sc, rfl⟩ := hs.form
  obtain ⟨i0, hi, hz0, hz1, hz2⟩ := info_parts info5
  go_enter Try.func25, Try.ntmps25
  go_wp2_with fail
  go_loopg [8, 9, 10] (bs.length - off + 1) (fun gk tx st pv wr => SMRel w bs R gk tx st pv wr)
  case atStart => exact ⟨off, 0, [], rfl, rfl, by omega, ho, by simp, by omega, HR0.out, World.ownsRow_nil _ _ _ _, Keep.refl _ _⟩
  case round =>
    clear HR0
    obtain ⟨p, s, acc, rfl, rfl, hs2, hp, hac, hg, hsc, hx, hK⟩ := hrel
    obtain ⟨gk, rfl⟩ : ∃ g', gk = g' + 1 := ⟨gk - 1, by omega⟩
    obtain ⟨x0, l0, c0, rfl⟩ := owns_slice hx
    have hsz := hK.size
    unfold smod at hsc
    by_cases hend : bs.length ≤ p
    · as_aux_lemma =>
      rw [if_pos hend] at hsc
      subst hsc
      have hi1 : ¬ ((p : Int) < (bs.length : Int)) := by omega
      have Hx := hidden hx
      have HK := hidden hK
      clear hx hK hs
      go_wp2_with fail
      (try simp only [Exit.inBlock, Exit.then]); refine bodyPost_ret (results_four rfl _ _ _) rfl ?_
      exact ⟨_, rfl, Hx.out, HK.out⟩
    · have hlt : p < bs.length := by omega
      have hsr := hK.src hs (by simp)
      obtain ⟨g, rfl, hcs⟩ := hsr.cellsT hlt
      have cp := hcs p hlt
      have hi1 : (p : Int) < (bs.length : Int) := by omega
      have hi00 : (0 : Int) ≤ (p : Int) := by omega
      have hzr := byteAt_range bs p
      have hau := atU_nat bs p
      have Hau := hidden hau
      rw [if_neg hend] at hsc
      clear hsr hcs hs hau
      by_cases h1 : s = 1
      · as_aux_lemma =>
        subst h1
        rw [if_pos rfl] at hsc
        have Hsc := hidden hsc
        clear hsc
        have hju := unescU_nat (atU bs p)
        rw [atU_nat] at hju
        have Hju := hidden hju
        clear hju
        go_wp2_with fail
        refine (f38_any _ _).mono ?_
        rintro e w1 ⟨rfl, rfl⟩
        have hx' := hx
        go_wp2_with (at_builtin; refine wpList_append_lies _ rfl (.tmp 25) (.tmp 28) 22 rfl w.heap.size 5 i0 (.int .u8 0) 1 1 Try.underlying22 hi hz0 hz1 hz2 rfl (by decide) (.slice x0 l0 c0) acc.length (byteCells acc) rfl (by exact (hx'.alloc _)) ⟨w1.heap.size, 0, none⟩ 1 1 [.int .u8 (unescI (byteAt bs p))] rfl rfl ?c1 ?c2 (by decide) ?c3 ?c4 ?c5 (w1.heap.size + 1) ?c6 ?_)
        case c1 => exact World.news_of_block (heap_alloc_new w1 _)
        case c2 => intro u hu; simp at hu; subst hu; rfl
        case c3 => unfold maxLen; omega
        case c4 => omega
        case c5 => simp; omega
        case c6 => simp
        intro gg gc wn hown hgrow hat hltn
        have hown' : wn.ownsRow w.heap.size 5 1 (.slice (some ⟨gg, 0, none⟩) (acc.length + 1) gc) (acc.length + [unescU (atU bs p)].length) (byteCells acc ++ byteCells [unescU (atU bs p)]) := by
          have e : byteCells [unescU (atU bs p)] = [.int .u8 (unescI (byteAt bs p))] := by simp [byteCells, Hju.out]
          rw [e]; exact hown
        have R := enc_app hx hK (Keep.alloc _ _ _) hgrow hown'
        have HR := hidden R
        clear R hgrow hown hown' hat hx hx' hK
        go_wp2_with fail
        go_roundg gk
        case measure => omega
        case rel => exact ⟨p + 1, 0, _, by go_num, by go_num, by omega, by omega, by simp; omega, by omega, Hsc.out, HR.out.1, HR.out.2⟩
      · rw [if_neg h1] at hsc
        by_cases h2 : s = 2
        · subst h2
          rw [if_pos rfl] at hsc
          by_cases k1 : byteAt bs p = 123
          · as_aux_lemma =>
            rw [if_pos k1] at hsc
            subst hsc
            have b1 : (byteAt bs p == 123) = true := beq_iff_eq.2 k1
            have Hx := hidden hx
            have HK := hidden hK
            clear hx hK k1
            go_wp2_with fail
            (try simp only [Exit.inBlock, Exit.then]); refine bodyPost_ret (results_four rfl _ _ _) rfl ?_
            exact ⟨_, rfl, Hx.out, HK.out⟩
          · rw [if_neg k1] at hsc
            have b1 : (byteAt bs p == 123) = false := beq_eq_false_iff_ne.2 k1
            by_cases k2 : byteAt bs p = 34
            · as_aux_lemma =>
              rw [if_pos k2] at hsc
              subst hsc
              have b2 : (byteAt bs p == 34) = true := beq_iff_eq.2 k2
              have b3 : (byteAt bs p != 34) = false := by simp [k2]
              clear k1 k2
              go_wp2_with (at_builtin; refine wpList_append_lies _ rfl (.tmp 39) (.tmp 40) 22 rfl w.heap.size 5 i0 (.int .u8 0) 1 1 Try.underlying22 hi hz0 hz1 hz2 rfl (by decide) (.slice x0 l0 c0) acc.length (byteCells acc) rfl (by exact (hx.alloc _)) ⟨wr.heap.size, 0, none⟩ 1 1 (byteCells [36]) rfl rfl ?c1 ?c2 (by decide) ?c3 ?c4 ?c5 (wr.heap.size + 1) ?c6 ?_)
              case c1 => exact World.news_of_block (heap_alloc_new wr _)
              case c2 => intro u hu; obtain ⟨x, _, rfl⟩ := List.mem_map.1 hu; rfl
              case c3 => unfold maxLen; omega
              case c4 => omega
              case c5 => simp; omega
              case c6 => simp
              intro gg ggc wn hown hgrow hat hltn
              have R := enc_app hx hK (Keep.alloc _ _ _) hgrow hown
              obtain ⟨hx2, hK2⟩ := R
              have Hx := hidden hx2
              have HK := hidden hK2
              clear hgrow hown hat hx hK hx2 hK2
              go_wp2_with fail
              (try simp only [Exit.inBlock, Exit.then]); refine bodyPost_ret (results_four rfl _ _ _) rfl ?_
              exact ⟨_, rfl, Hx.out, HK.out⟩
            · rw [if_neg k2] at hsc
              have b2 : (byteAt bs p == 34) = false := beq_eq_false_iff_ne.2 k2
              have b3 : (byteAt bs p != 34) = true := by simp [k2]
              by_cases k3 : byteAt bs p = 92
              · as_aux_lemma =>
                rw [if_pos k3] at hsc
                have b4 : (byteAt bs p == 92) = true := beq_iff_eq.2 k3
                have b5 : (byteAt bs p != 92) = false := by simp [k3]
                have Hsc := hidden hsc
                clear k1 k2 k3 hsc
                go_wp2_with (at_builtin; refine wpList_append_lies _ rfl (.tmp 39) (.tmp 40) 22 rfl w.heap.size 5 i0 (.int .u8 0) 1 1 Try.underlying22 hi hz0 hz1 hz2 rfl (by decide) (.slice x0 l0 c0) acc.length (byteCells acc) rfl (by exact (hx.alloc _)) ⟨wr.heap.size, 0, none⟩ 1 1 (byteCells [36]) rfl rfl ?c1 ?c2 (by decide) ?c3 ?c4 ?c5 (wr.heap.size + 1) ?c6 ?_)
                case c1 => exact World.news_of_block (heap_alloc_new wr _)
                case c2 => intro u hu; obtain ⟨x, _, rfl⟩ := List.mem_map.1 hu; rfl
                case c3 => unfold maxLen; omega
                case c4 => omega
                case c5 => simp; omega
                case c6 => simp
                intro gg ggc wn hown hgrow hat hltn
                have R := enc_app hx hK (Keep.alloc _ _ _) hgrow hown
                have HR := hidden R
                clear R hgrow hown hat hx hK
                go_wp2_with fail
                go_roundg gk
                case measure => omega
                case rel => exact ⟨p + 1, 1, _, by go_num, by go_num, by omega, by omega, by simp; omega, by omega, Hsc.out, HR.out.1, HR.out.2⟩
              · as_aux_lemma =>
                rw [if_neg k3] at hsc
                have b4 : (byteAt bs p == 92) = false := beq_eq_false_iff_ne.2 k3
                have b5 : (byteAt bs p != 92) = true := by simp [k3]
                have Hsc := hidden hsc
                clear k1 k2 k3 hsc
                go_wp2_with (at_builtin; refine wpList_append_lies _ rfl (.tmp 39) (.tmp 40) 22 rfl w.heap.size 5 i0 (.int .u8 0) 1 1 Try.underlying22 hi hz0 hz1 hz2 rfl (by decide) (.slice x0 l0 c0) acc.length (byteCells acc) rfl (by exact (hx.alloc _)) ⟨wr.heap.size, 0, none⟩ 1 1 (byteCells [36]) rfl rfl ?c1 ?c2 (by decide) ?c3 ?c4 ?c5 (wr.heap.size + 1) ?c6 ?_)
                case c1 => exact World.news_of_block (heap_alloc_new wr _)
                case c2 => intro u hu; obtain ⟨x, _, rfl⟩ := List.mem_map.1 hu; rfl
                case c3 => unfold maxLen; omega
                case c4 => omega
                case c5 => simp; omega
                case c6 => simp
                intro gg ggc wn hown hgrow hat hltn
                have R := enc_app hx hK (Keep.alloc _ _ _) hgrow hown
                obtain ⟨hx2, hK2⟩ := R
                have hsz2 := hK2.size
                have hl2 : (acc ++ [36]).length ≤ acc.length + 1 := by simp
                clear hgrow hown hat hx hK
                generalize hA2 : acc ++ [36] = acc2 at *
                clear hA2
                go_wp2_with (at_builtin; refine wpList_append_lies _ rfl (.tmp 48) (.tmp 50) 22 rfl w.heap.size 5 i0 (.int .u8 0) 1 1 Try.underlying22 hi hz0 hz1 hz2 rfl (by decide) _ acc2.length (byteCells acc2) rfl (by exact (hx2.alloc _)) ⟨wn.heap.size, 0, none⟩ 1 1 (byteCells [atU bs p]) rfl rfl ?c1 ?c2 (by decide) ?c3 ?c4 ?c5 (wn.heap.size + 1) ?c6 ?_)
                case c1 => exact World.news_of_block (heap_alloc_new wn _)
                case c2 => intro u hu; obtain ⟨x, _, rfl⟩ := List.mem_map.1 hu; rfl
                case c3 => unfold maxLen; omega
                case c4 => omega
                case c5 => simp; omega
                case c6 => simp
                intro hh hhc wm hown hgrow hat hltn
                have R := enc_app hx2 hK2 (Keep.alloc _ _ _) hgrow hown
                have HR := hidden R
                clear R hgrow hown hat hx2 hK2
                go_wp2_with fail
                go_roundg gk
                case measure => omega
                case rel => exact ⟨p + 1, 0, _, by go_num, by go_num, by omega, by omega, by simp; omega, by omega, Hsc.out, HR.out.1, HR.out.2⟩
        · have h0 : s = 0 := by omega
          subst h0
          rw [if_neg h2] at hsc
          by_cases k2 : byteAt bs p = 34
          · as_aux_lemma =>
            rw [if_pos k2] at hsc
            subst hsc
            have b2 : (byteAt bs p == 34) = true := beq_iff_eq.2 k2
            have Hx := hidden hx
            have HK := hidden hK
            clear hx hK k2
            go_wp2_with fail
            (try simp only [Exit.inBlock, Exit.then]); refine bodyPost_ret (results_four rfl _ _ _) rfl ?_
            exact ⟨_, rfl, Hx.out, HK.out⟩
          · rw [if_neg k2] at hsc
            have b2 : (byteAt bs p == 34) = false := beq_eq_false_iff_ne.2 k2
            by_cases k3 : byteAt bs p = 92
            · as_aux_lemma =>
              rw [if_pos k3] at hsc
              have b4 : (byteAt bs p == 92) = true := beq_iff_eq.2 k3
              have Hsc := hidden hsc
              have Hx := hidden hx
              have HK := hidden hK
              clear k2 k3 hsc hx hK
              go_wp2_with fail
              go_roundg gk
              case measure => omega
              case rel => exact ⟨p + 1, 1, _, by go_num, by go_num, by omega, by omega, by omega, by omega, Hsc.out, Hx.out, HK.out⟩
            · rw [if_neg k3] at hsc
              have b4 : (byteAt bs p == 92) = false := beq_eq_false_iff_ne.2 k3
              by_cases k4 : byteAt bs p = 36
              · as_aux_lemma =>
                rw [if_pos k4] at hsc
                have b6 : (byteAt bs p == 36) = true := beq_iff_eq.2 k4
                have Hsc := hidden hsc
                have Hx := hidden hx
                have HK := hidden hK
                clear k2 k3 k4 hsc hx hK
                go_wp2_with fail
                go_roundg gk
                case measure => omega
                case rel => exact ⟨p + 1, 2, _, by go_num, by go_num, by omega, by omega, by omega, by omega, Hsc.out, Hx.out, HK.out⟩
              · as_aux_lemma =>
                rw [if_neg k4] at hsc
                have b6 : (byteAt bs p == 36) = false := beq_eq_false_iff_ne.2 k4
                have Hsc := hidden hsc
                clear k2 k3 k4 hsc
                go_wp2_with (at_builtin; refine wpList_append_lies _ rfl (.tmp 62) (.tmp 64) 22 rfl w.heap.size 5 i0 (.int .u8 0) 1 1 Try.underlying22 hi hz0 hz1 hz2 rfl (by decide) (.slice x0 l0 c0) acc.length (byteCells acc) rfl (by exact (hx.alloc _)) ⟨wr.heap.size, 0, none⟩ 1 1 (byteCells [atU bs p]) rfl rfl ?c1 ?c2 (by decide) ?c3 ?c4 ?c5 (wr.heap.size + 1) ?c6 ?_)
                case c1 => exact World.news_of_block (heap_alloc_new wr _)
                case c2 => intro u hu; obtain ⟨x, _, rfl⟩ := List.mem_map.1 hu; rfl
                case c3 => unfold maxLen; omega
                case c4 => omega
                case c5 => simp; omega
                case c6 => simp
                intro gg ggc wn hown hgrow hat hltn
                have R := enc_app hx hK (Keep.alloc _ _ _) hgrow hown
                have HR := hidden R
                clear R hgrow hown hat hx hK
                go_wp2_with fail
                go_roundg gk
                case measure => omega
                case rel => exact ⟨p + 1, 0, _, by go_num, by go_num, by omega, by omega, by simp; omega, by omega, Hsc.out, HR.out.1, HR.out.2⟩
end Go.Proofs.Qxb6601273a
