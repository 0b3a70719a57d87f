import Derived.Test.Qxb6601273aSModel
namespace Go.Proofs.Qxb6601273a
open Go.RowKit
set_option linter.unusedVariables false

theorem src2 (w : World) (A B : Int) (h1 : 0 ≤ A) (h2 : A ≤ 255) (h3 : 0 ≤ B) (h4 : B ≤ 255) : Src (w.alloc (.cells #[.int .u8 A, .int .u8 B] 5)) (.slice (some ⟨w.heap.size, 0, none⟩) 2 2) [UInt8.ofNat A.toNat, UInt8.ofNat B.toNat] := by
  refine .inr ⟨w.heap.size, 2, _, rfl, Nat.le_refl _, Blk.new _ _ _, fun k hk => ?_⟩
  have e : ∀ z : Int, 0 ≤ z → z ≤ 255 → (((UInt8.ofNat z.toNat).toNat : Nat) : Int) = z := fun z a b => by rw [UInt8.toNat_ofNat_of_lt' (by show _ < 256; omega)]; omega
  rcases k with _ | _ | k
  · show some (Value.int .u8 A) = some (Value.int .u8 (((UInt8.ofNat A.toNat).toNat : Nat) : Int))
    rw [e A h1 h2]
  · show some (Value.int .u8 B) = some (Value.int .u8 (((UInt8.ofNat B.toNat).toNat : Nat) : Int))
    rw [e B h3 h4]
  · simp at hk; omega
theorem src1 (w : World) (A : Int) (h1 : 0 ≤ A) (h2 : A ≤ 255) : Src (w.alloc (.cells #[.int .u8 A] 5)) (.slice (some ⟨w.heap.size, 0, none⟩) 1 1) [UInt8.ofNat A.toNat] := by
  refine .inr ⟨w.heap.size, 1, _, rfl, Nat.le_refl _, Blk.new _ _ _, fun k hk => ?_⟩
  have e : ∀ z : Int, 0 ≤ z → z ≤ 255 → (((UInt8.ofNat z.toNat).toNat : Nat) : Int) = z := fun z a b => by rw [UInt8.toNat_ofNat_of_lt' (by show _ < 256; omega)]; omega
  rcases k with _ | k
  · show some (Value.int .u8 A) = some (Value.int .u8 (((UInt8.ofNat A.toNat).toNat : Nat) : Int))
    rw [e A h1 h2]
  · simp at hk

theorem enc_big (z : Int) (h1 : 128 ≤ z) (h2 : z ≤ 255) : Utf8.encode z = ⟨#[UInt8.ofNat (192 + z / 64).toNat, UInt8.ofNat (128 + z % 64).toNat]⟩ := by
  obtain ⟨n, rfl⟩ : ∃ n : Nat, z = (n : Int) := ⟨z.toNat, by omega⟩
  have hv : Utf8.valid (n : Int) = true := by unfold Utf8.valid; simp; omega
  have e1 : ((192 : Int) + (n : Int) / 64).toNat = 192 + n / 64 := by omega
  have e2 : ((128 : Int) + (n : Int) % 64).toNat = 128 + n % 64 := by omega
  rw [e1, e2]
  unfold Utf8.encode
  simp only [hv, if_true, Int.toNat_natCast]
  rw [if_neg (by omega), if_pos (by omega)]
theorem enc_small (z : Int) (h1 : 0 ≤ z) (h2 : z < 128) : Utf8.encode z = ⟨#[UInt8.ofNat z.toNat]⟩ := by
  obtain ⟨n, rfl⟩ : ∃ n : Nat, z = (n : Int) := ⟨z.toNat, by omega⟩
  have hv : Utf8.valid (n : Int) = true := by unfold Utf8.valid; simp; omega
  unfold Utf8.encode
  simp only [hv, if_true, Int.toNat_natCast]
  rw [if_pos (by omega)]

set_option maxHeartbeats 1000000 in
theorem f40_any (z : Int) (w : World) (h1 : 0 ≤ z) (h2 : z ≤ 255) : Calls Try.prog 40 #[.int .u8 z] w fun e w' => e = .returned (.string (Utf8.encode z)) ∧ Keep [] w w' := by
  by_cases hl : z < 128
  · have hcv := run_conv_src (src1 w z (by omega) (by omega))
    have he := enc_small z h1 hl
    have He := hidden he
    clear he
    go_enter Try.func40, Try.ntmps40
    go_wp2_with fail
    go_ret
    exact ⟨by rw [He.out]; rfl, Keep.alloc _ _ _⟩
  · have hcv := run_conv_src (src2 w (192 + z / 64) (128 + z % 64) (by omega) (by omega) (by omega) (by omega))
    have he := enc_big z (by omega) h2
    have He := hidden he
    clear he
    go_enter Try.func40, Try.ntmps40
    go_wp2_with fail
    go_ret
    exact ⟨by rw [He.out]; rfl, Keep.alloc _ _ _⟩

theorem results_five {fn : Func} {t u v x y : Tmp} (h : fn.results = #[.tmp t, .tmp u, .tmp v, .tmp x, .tmp y]) (tmps : Array Value) (P : Program) (w : World) :
    (results fn tmps).run P w = .ok (.tuple #[tmps.getD t undef, tmps.getD u undef, tmps.getD v undef, tmps.getD x undef, tmps.getD y undef]) w := by
  simp [results, h]

/-- What the streaming model of indented strings answers. -/
structure IAns where
  act : Int
  at_ : Int
  text : List UInt8
  esc : ByteArray
  fin : Int

/-- At the end of the source. -/
def itail (bs : List UInt8) (s q : Nat) (acc : List UInt8) : IAns :=
  if s = 2 then ⟨0, q, acc, ⟨#[]⟩, (q : Int) + 2⟩ else if s = 3 then ⟨4, q, acc, ⟨#[]⟩, q⟩ else ⟨3, 0, acc, ⟨#[]⟩, bs.length⟩

/-- The streaming model from p on, in state s (0 plain; 1 one quote; 2 two quotes; 3 two quotes and a backslash; 4 a dollar), q the place of the two quotes or of the dollar. -/
def imod (bs : List UInt8) : Nat → Nat → Nat → Nat → List UInt8 → IAns
  | 0, p, s, q, acc => itail bs s q acc
  | f + 1, p, s, q, acc =>
    if bs.length ≤ p then itail bs s q acc
    else if s = 3 then ⟨2, q, acc, Utf8.encode (unescI (byteAt bs p)), (p : Int) + 1⟩
    else if s = 2 then
      (if byteAt bs p = 39 then ⟨2, q, acc, ⟨#[39, 39]⟩, (p : Int) + 1⟩
      else if byteAt bs p = 36 then ⟨2, q, acc, ⟨#[36]⟩, (p : Int) + 1⟩
      else if byteAt bs p = 92 then imod bs f (p + 1) 3 q acc
      else ⟨0, q, acc, ⟨#[]⟩, (q : Int) + 2⟩)
    else if s = 4 then
      (if byteAt bs p = 123 then ⟨1, q, acc, ⟨#[]⟩, (p : Int) + 1⟩
      else if byteAt bs p = 39 then imod bs f (p + 1) 1 p (acc ++ [36])
      else imod bs f (p + 1) 0 q (acc ++ [36] ++ [atU bs p]))
    else if s = 1 then
      (if byteAt bs p = 39 then imod bs f (p + 1) 2 q acc
      else if byteAt bs p = 36 then imod bs f (p + 1) 4 p (acc ++ [39])
      else imod bs f (p + 1) 0 q (acc ++ [39] ++ [atU bs p]))
    else if byteAt bs p = 39 then imod bs f (p + 1) 1 p acc
    else if byteAt bs p = 36 then imod bs f (p + 1) 4 p acc
    else imod bs f (p + 1) 0 q (acc ++ [atU bs p])

/-- What the model hands back. -/
def IPost (w : World) (R : IAns) (e : Ending) (w' : World) : Prop :=
  ∃ tv, e = .returned (.tuple #[.int .i64 R.act, .int .i64 R.at_, tv, .string R.esc, .int .i64 R.fin]) ∧ w'.ownsRow w.heap.size 5 1 tv R.text.length (byteCells R.text) ∧ Keep [] w w'

/-- The loop's relation. -/
def IMRel (w : World) (bs : List UInt8) (R : IAns) (gk : Nat) (tx st qv pv : Value) (wr : World) : Prop :=
  ∃ (p s q : Nat) (acc : List UInt8), st = .int .i64 s ∧ qv = .int .i64 q ∧ pv = .int .i64 p ∧ s ≤ 4 ∧ p ≤ bs.length ∧ acc.length ≤ 2 * p ∧ q ≤ p ∧ bs.length < gk + p ∧ imod bs gk p s q acc = R ∧ wr.ownsRow w.heap.size 5 1 tx acc.length (byteCells acc) ∧ Keep [] w wr

set_option maxRecDepth 100000 in
set_option maxHeartbeats 16000000 in
theorem f29_any (v : Value) (bs : List UInt8) (off : Nat) (w : World) (hs : Src w v bs) (ho : off ≤ bs.length) (hn : bs.length ≤ 1000000) :
    Calls Try.prog 29 #[v, .int .i64 off] w (IPost w (imod bs (bs.length - off + 1) off 0 0 [])) := by
  generalize hR : imod bs (bs.length - off + 1) off 0 0 [] = R
  have HR0 := hidden hR
  clear hR
  obtain ⟨sa, sc, rfl⟩ := hs.form
  obtain ⟨i0, hi, hz0, hz1, hz2⟩ := info_parts info5
  go_enter Try.func29, Try.ntmps29
  go_wp2_with fail
  go_loopg [9, 10, 11, 12] (bs.length - off + 1) (fun gk tx st qv pv wr => IMRel w bs R gk tx st qv pv wr)
  case atStart => exact ⟨off, 0, 0, [], rfl, rfl, rfl, by omega, ho, by simp, by omega, by omega, HR0.out, World.ownsRow_nil _ _ _ _, Keep.refl _ _⟩
  case round =>
    clear HR0
    obtain ⟨p, s, q, acc, rfl, rfl, rfl, hs4, hp, hac, hqp, hg, hsc, hx, hK⟩ := hrel
    obtain ⟨gk, rfl⟩ : ∃ g', gk = g' + 1 := ⟨gk - 1, by omega⟩
    obtain ⟨x0, l0, c0, rfl⟩ := owns_slice hx
    have hsz := hK.size
    unfold imod at hsc
    by_cases hend : bs.length ≤ p
    · rw [if_pos hend] at hsc
      unfold itail at hsc
      have hi1 : ¬ ((p : Int) < (bs.length : Int)) := by omega
      clear hs
      by_cases h2 : s = 2
      · rw [if_pos h2] at hsc
        subst h2 hsc
        have Hx := hidden hx
        have HK := hidden hK
        clear hx hK
        go_wp2_with fail
        (try simp only [Exit.inBlock, Exit.then]); refine bodyPost_ret (results_five rfl _ _ _) rfl ?_
        exact ⟨_, rfl, Hx.out, HK.out⟩
      · rw [if_neg h2] at hsc
        by_cases h3 : s = 3
        · rw [if_pos h3] at hsc
          subst h3 hsc
          have Hx := hidden hx
          have HK := hidden hK
          clear hx hK
          go_wp2_with fail
          (try simp only [Exit.inBlock, Exit.then]); refine bodyPost_ret (results_five rfl _ _ _) rfl ?_
          exact ⟨_, rfl, Hx.out, HK.out⟩
        · rw [if_neg h3] at hsc
          subst hsc
          have b2 : ((s : Int) == 2) = false := by simp; omega
          have b3 : ((s : Int) == 3) = false := by simp; omega
          clear h2 h3
          have Hx := hidden hx
          have HK := hidden hK
          clear hx hK
          go_wp2_with fail
          (try simp only [Exit.inBlock, Exit.then]); refine bodyPost_ret (results_five rfl _ _ _) rfl ?_
          exact ⟨_, rfl, Hx.out, HK.out⟩
    · have hlt : p < bs.length := by omega
      have hsr := hK.src hs (by simp)
      obtain ⟨g, rfl, hcs⟩ := hsr.cellsT hlt
      have cp := hcs p hlt
      have hi1 : (p : Int) < (bs.length : Int) := by omega
      have hi00 : (0 : Int) ≤ (p : Int) := by omega
      have hzr := byteAt_range bs p
      rw [if_neg hend] at hsc
      clear hsr hcs hs
      by_cases h3 : s = 3
      · rw [if_pos h3] at hsc
        subst h3 hsc
        have hur : 0 ≤ unescI (byteAt bs p) ∧ unescI (byteAt bs p) ≤ 255 := by
          unfold unescI
          repeat' split
          all_goals omega
        have Hx := hidden hx
        have HK := hidden hK
        have Hur := hidden hur
        clear hx hK hur
        go_wp2_with fail
        refine (f38_any _ _).mono ?_
        rintro e w1 ⟨rfl, rfl⟩
        go_wp2_with fail
        refine (f40_any _ _ Hur.out.1 Hur.out.2).mono ?_
        rintro e w2 ⟨rfl, hk2⟩
        have hx2 := hk2.owns Hx.out (by simp)
        have hK2 := HK.out.trans' hk2
        have Hx2 := hidden hx2
        have HK2 := hidden hK2
        clear hx2 hK2 hk2
        go_wp2_with fail
        (try simp only [Exit.inBlock, Exit.then]); refine bodyPost_ret (results_five rfl _ _ _) rfl ?_
        exact ⟨_, rfl, Hx2.out, HK2.out⟩
      · rw [if_neg h3] at hsc
        by_cases h2 : s = 2
        · rw [if_pos h2] at hsc
          subst h2
          by_cases k1 : byteAt bs p = 39
          · rw [if_pos k1] at hsc
            subst hsc
            have b1 : (byteAt bs p == 39) = true := beq_iff_eq.2 k1
            clear k1
            have Hx := hidden hx
            have HK := hidden hK
            clear hx hK
            go_wp2_with fail
            (try simp only [Exit.inBlock, Exit.then]); refine bodyPost_ret (results_five rfl _ _ _) rfl ?_
            exact ⟨_, rfl, Hx.out, HK.out⟩
          · rw [if_neg k1] at hsc
            have b1 : (byteAt bs p == 39) = false := beq_eq_false_iff_ne.2 k1
            by_cases k2 : byteAt bs p = 36
            · rw [if_pos k2] at hsc
              subst hsc
              have b2 : (byteAt bs p == 36) = true := beq_iff_eq.2 k2
              clear k1 k2
              have Hx := hidden hx
              have HK := hidden hK
              clear hx hK
              go_wp2_with fail
              (try simp only [Exit.inBlock, Exit.then]); refine bodyPost_ret (results_five rfl _ _ _) rfl ?_
              exact ⟨_, rfl, Hx.out, HK.out⟩
            · rw [if_neg k2] at hsc
              have b2 : (byteAt bs p == 36) = false := beq_eq_false_iff_ne.2 k2
              by_cases k3 : byteAt bs p = 92
              · rw [if_pos k3] at hsc
                have b3 : (byteAt bs p == 92) = true := beq_iff_eq.2 k3
                clear k1 k2 k3
                have Hsc := hidden hsc
                have Hx := hidden hx
                have HK := hidden hK
                clear hsc hx hK
                go_wp2_with fail
                go_roundg gk
                case measure => omega
                case rel => exact ⟨p + 1, 3, q, _, by go_num, by go_num, by go_num, by omega, by omega, by omega, by omega, by omega, Hsc.out, Hx.out, HK.out⟩
              · rw [if_neg k3] at hsc
                subst hsc
                have b3 : (byteAt bs p == 92) = false := beq_eq_false_iff_ne.2 k3
                clear k1 k2 k3
                have Hx := hidden hx
                have HK := hidden hK
                clear hx hK
                go_wp2_with fail
                (try simp only [Exit.inBlock, Exit.then]); refine bodyPost_ret (results_five rfl _ _ _) rfl ?_
                exact ⟨_, rfl, Hx.out, HK.out⟩
        · rw [if_neg h2] at hsc
          by_cases h4 : s = 4
          · rw [if_pos h4] at hsc
            subst h4
            by_cases k1 : byteAt bs p = 123
            · rw [if_pos k1] at hsc
              subst hsc
              have b1 : (byteAt bs p == 123) = true := beq_iff_eq.2 k1
              clear k1
              have Hx := hidden hx
              have HK := hidden hK
              clear hx hK
              go_wp2_with fail
              (try simp only [Exit.inBlock, Exit.then]); refine bodyPost_ret (results_five rfl _ _ _) rfl ?_
              exact ⟨_, rfl, Hx.out, HK.out⟩
            · rw [if_neg k1] at hsc
              have b1 : (byteAt bs p == 123) = false := beq_eq_false_iff_ne.2 k1
              by_cases k2 : byteAt bs p = 39
              · rw [if_pos k2] at hsc
                have b2 : (byteAt bs p == 39) = true := beq_iff_eq.2 k2
                have b3 : (byteAt bs p != 39) = false := by simp [k2]
                have Hsc := hidden hsc
                clear k1 k2 hsc
                go_wp2_with (at_builtin; refine wpList_append_lies _ rfl (.tmp 63) (.tmp 64) 22 rfl w.heap.size 5 i0 (.int .u8 0) 1 1 Try.underlying22 hi hz0 hz1 hz2 rfl (by decide) (.slice x0 l0 c0) acc.length (byteCells acc) rfl (by exact (hx.alloc _)) ⟨wr.heap.size, 0, none⟩ 1 1 (byteCells [36]) rfl rfl ?c1 ?c2 (by decide) ?c3 ?c4 ?c5 (wr.heap.size + 1) ?c6 ?_)
                case c1 => exact World.news_of_block (heap_alloc_new wr _)
                case c2 => intro u hu; obtain ⟨x, _, rfl⟩ := List.mem_map.1 hu; rfl
                case c3 => unfold maxLen; omega
                case c4 => omega
                case c5 => simp; omega
                case c6 => simp
                intro gg ggc wn hown hgrow hat hltn
                have R := enc_app hx hK (Keep.alloc _ _ _) hgrow hown
                have HR := hidden R
                clear R hgrow hown hat hx hK
                go_wp2_with fail
                go_roundg gk
                case measure => omega
                case rel => exact ⟨p + 1, 1, p, _, by go_num, by go_num, by go_num, by omega, by omega, by simp; omega, by omega, by omega, Hsc.out, HR.out.1, HR.out.2⟩
              · rw [if_neg k2] at hsc
                have b2 : (byteAt bs p == 39) = false := beq_eq_false_iff_ne.2 k2
                have b3 : (byteAt bs p != 39) = true := by simp [k2]
                have Hsc := hidden hsc
                clear k1 k2 hsc
                go_wp2_with (at_builtin; refine wpList_append_lies _ rfl (.tmp 63) (.tmp 64) 22 rfl w.heap.size 5 i0 (.int .u8 0) 1 1 Try.underlying22 hi hz0 hz1 hz2 rfl (by decide) (.slice x0 l0 c0) acc.length (byteCells acc) rfl (by exact (hx.alloc _)) ⟨wr.heap.size, 0, none⟩ 1 1 (byteCells [36]) rfl rfl ?c1 ?c2 (by decide) ?c3 ?c4 ?c5 (wr.heap.size + 1) ?c6 ?_)
                case c1 => exact World.news_of_block (heap_alloc_new wr _)
                case c2 => intro u hu; obtain ⟨x, _, rfl⟩ := List.mem_map.1 hu; rfl
                case c3 => unfold maxLen; omega
                case c4 => omega
                case c5 => simp; omega
                case c6 => simp
                intro gg ggc wn hown hgrow hat hltn
                have R := enc_app hx hK (Keep.alloc _ _ _) hgrow hown
                obtain ⟨hx2, hK2⟩ := R
                have hsz2 := hK2.size
                have hl2 : (acc ++ [36]).length ≤ acc.length + 1 := by simp
                clear hgrow hown hat hx hK
                generalize hA2 : acc ++ [36] = acc2 at *
                clear hA2
                go_wp2_with (at_builtin; refine wpList_append_lies _ rfl (.tmp 68) (.tmp 70) 22 rfl w.heap.size 5 i0 (.int .u8 0) 1 1 Try.underlying22 hi hz0 hz1 hz2 rfl (by decide) _ acc2.length (byteCells acc2) rfl (by exact (hx2.alloc _)) ⟨wn.heap.size, 0, none⟩ 1 1 (byteCells [atU bs p]) rfl rfl ?c1 ?c2 (by decide) ?c3 ?c4 ?c5 (wn.heap.size + 1) ?c6 ?_)
                case c1 => exact World.news_of_block (heap_alloc_new wn _)
                case c2 => intro u hu; obtain ⟨x, _, rfl⟩ := List.mem_map.1 hu; rfl
                case c3 => unfold maxLen; omega
                case c4 => omega
                case c5 => simp; omega
                case c6 => simp
                intro hh hhc wm hown hgrow hat hltn
                have R := enc_app hx2 hK2 (Keep.alloc _ _ _) hgrow hown
                have HR := hidden R
                clear R hgrow hown hat hx2 hK2
                go_wp2_with fail
                go_roundg gk
                case measure => omega
                case rel => exact ⟨p + 1, 0, q, _, by go_num, by go_num, by go_num, by omega, by omega, by simp; omega, by omega, by omega, Hsc.out, HR.out.1, HR.out.2⟩
          · rw [if_neg h4] at hsc
            by_cases h1 : s = 1
            · rw [if_pos h1] at hsc
              subst h1
              by_cases k1 : byteAt bs p = 39
              · rw [if_pos k1] at hsc
                have b1 : (byteAt bs p == 39) = true := beq_iff_eq.2 k1
                clear k1
                have Hsc := hidden hsc
                have Hx := hidden hx
                have HK := hidden hK
                clear hsc hx hK
                go_wp2_with fail
                go_roundg gk
                case measure => omega
                case rel => exact ⟨p + 1, 2, q, _, by go_num, by go_num, by go_num, by omega, by omega, by omega, by omega, by omega, Hsc.out, Hx.out, HK.out⟩
              · rw [if_neg k1] at hsc
                have b1 : (byteAt bs p == 39) = false := beq_eq_false_iff_ne.2 k1
                by_cases k2 : byteAt bs p = 36
                · rw [if_pos k2] at hsc
                  have b2 : (byteAt bs p == 36) = true := beq_iff_eq.2 k2
                  have Hsc := hidden hsc
                  clear k1 k2 hsc
                  go_wp2_with (at_builtin; refine wpList_append_lies _ rfl (.tmp 76) (.tmp 77) 22 rfl w.heap.size 5 i0 (.int .u8 0) 1 1 Try.underlying22 hi hz0 hz1 hz2 rfl (by decide) (.slice x0 l0 c0) acc.length (byteCells acc) rfl (by exact (hx.alloc _)) ⟨wr.heap.size, 0, none⟩ 1 1 (byteCells [39]) rfl rfl ?c1 ?c2 (by decide) ?c3 ?c4 ?c5 (wr.heap.size + 1) ?c6 ?_)
                  case c1 => exact World.news_of_block (heap_alloc_new wr _)
                  case c2 => intro u hu; obtain ⟨x, _, rfl⟩ := List.mem_map.1 hu; rfl
                  case c3 => unfold maxLen; omega
                  case c4 => omega
                  case c5 => simp; omega
                  case c6 => simp
                  intro gg ggc wn hown hgrow hat hltn
                  have R := enc_app hx hK (Keep.alloc _ _ _) hgrow hown
                  have HR := hidden R
                  clear R hgrow hown hat hx hK
                  go_wp2_with fail
                  go_roundg gk
                  case measure => omega
                  case rel => exact ⟨p + 1, 4, p, _, by go_num, by go_num, by go_num, by omega, by omega, by simp; omega, by omega, by omega, Hsc.out, HR.out.1, HR.out.2⟩
                · rw [if_neg k2] at hsc
                  have b2 : (byteAt bs p == 36) = false := beq_eq_false_iff_ne.2 k2
                  have Hsc := hidden hsc
                  clear k1 k2 hsc
                  go_wp2_with (at_builtin; refine wpList_append_lies _ rfl (.tmp 76) (.tmp 77) 22 rfl w.heap.size 5 i0 (.int .u8 0) 1 1 Try.underlying22 hi hz0 hz1 hz2 rfl (by decide) (.slice x0 l0 c0) acc.length (byteCells acc) rfl (by exact (hx.alloc _)) ⟨wr.heap.size, 0, none⟩ 1 1 (byteCells [39]) rfl rfl ?c1 ?c2 (by decide) ?c3 ?c4 ?c5 (wr.heap.size + 1) ?c6 ?_)
                  case c1 => exact World.news_of_block (heap_alloc_new wr _)
                  case c2 => intro u hu; obtain ⟨x, _, rfl⟩ := List.mem_map.1 hu; rfl
                  case c3 => unfold maxLen; omega
                  case c4 => omega
                  case c5 => simp; omega
                  case c6 => simp
                  intro gg ggc wn hown hgrow hat hltn
                  have R := enc_app hx hK (Keep.alloc _ _ _) hgrow hown
                  obtain ⟨hx2, hK2⟩ := R
                  have hsz2 := hK2.size
                  have hl2 : (acc ++ [39]).length ≤ acc.length + 1 := by simp
                  clear hgrow hown hat hx hK
                  generalize hA2 : acc ++ [39] = acc2 at *
                  clear hA2
                  go_wp2_with (at_builtin; refine wpList_append_lies _ rfl (.tmp 85) (.tmp 87) 22 rfl w.heap.size 5 i0 (.int .u8 0) 1 1 Try.underlying22 hi hz0 hz1 hz2 rfl (by decide) _ acc2.length (byteCells acc2) rfl (by exact (hx2.alloc _)) ⟨wn.heap.size, 0, none⟩ 1 1 (byteCells [atU bs p]) rfl rfl ?c1 ?c2 (by decide) ?c3 ?c4 ?c5 (wn.heap.size + 1) ?c6 ?_)
                  case c1 => exact World.news_of_block (heap_alloc_new wn _)
                  case c2 => intro u hu; obtain ⟨x, _, rfl⟩ := List.mem_map.1 hu; rfl
                  case c3 => unfold maxLen; omega
                  case c4 => omega
                  case c5 => simp; omega
                  case c6 => simp
                  intro hh hhc wm hown hgrow hat hltn
                  have R := enc_app hx2 hK2 (Keep.alloc _ _ _) hgrow hown
                  have HR := hidden R
                  clear R hgrow hown hat hx2 hK2
                  go_wp2_with fail
                  go_roundg gk
                  case measure => omega
                  case rel => exact ⟨p + 1, 0, q, _, by go_num, by go_num, by go_num, by omega, by omega, by simp; omega, by omega, by omega, Hsc.out, HR.out.1, HR.out.2⟩
            · have h0 : s = 0 := by omega
              subst h0
              rw [if_neg h1] at hsc
              by_cases k1 : byteAt bs p = 39
              · rw [if_pos k1] at hsc
                have b1 : (byteAt bs p == 39) = true := beq_iff_eq.2 k1
                clear k1
                have Hsc := hidden hsc
                have Hx := hidden hx
                have HK := hidden hK
                clear hsc hx hK
                go_wp2_with fail
                go_roundg gk
                case measure => omega
                case rel => exact ⟨p + 1, 1, p, _, by go_num, by go_num, by go_num, by omega, by omega, by omega, by omega, by omega, Hsc.out, Hx.out, HK.out⟩
              · rw [if_neg k1] at hsc
                have b1 : (byteAt bs p == 39) = false := beq_eq_false_iff_ne.2 k1
                by_cases k2 : byteAt bs p = 36
                · rw [if_pos k2] at hsc
                  have b2 : (byteAt bs p == 36) = true := beq_iff_eq.2 k2
                  clear k1 k2
                  have Hsc := hidden hsc
                  have Hx := hidden hx
                  have HK := hidden hK
                  clear hsc hx hK
                  go_wp2_with fail
                  go_roundg gk
                  case measure => omega
                  case rel => exact ⟨p + 1, 4, p, _, by go_num, by go_num, by go_num, by omega, by omega, by omega, by omega, by omega, Hsc.out, Hx.out, HK.out⟩
                · rw [if_neg k2] at hsc
                  have b2 : (byteAt bs p == 36) = false := beq_eq_false_iff_ne.2 k2
                  have Hsc := hidden hsc
                  clear k1 k2 hsc
                  go_wp2_with (at_builtin; refine wpList_append_lies _ rfl (.tmp 85) (.tmp 87) 22 rfl w.heap.size 5 i0 (.int .u8 0) 1 1 Try.underlying22 hi hz0 hz1 hz2 rfl (by decide) (.slice x0 l0 c0) acc.length (byteCells acc) rfl (by exact (hx.alloc _)) ⟨wr.heap.size, 0, none⟩ 1 1 (byteCells [atU bs p]) rfl rfl ?c1 ?c2 (by decide) ?c3 ?c4 ?c5 (wr.heap.size + 1) ?c6 ?_)
                  case c1 => exact World.news_of_block (heap_alloc_new wr _)
                  case c2 => intro u hu; obtain ⟨x, _, rfl⟩ := List.mem_map.1 hu; rfl
                  case c3 => unfold maxLen; omega
                  case c4 => omega
                  case c5 => simp; omega
                  case c6 => simp
                  intro gg ggc wn hown hgrow hat hltn
                  have R := enc_app hx hK (Keep.alloc _ _ _) hgrow hown
                  have HR := hidden R
                  clear R hgrow hown hat hx hK
                  go_wp2_with fail
                  go_roundg gk
                  case measure => omega
                  case rel => exact ⟨p + 1, 0, q, _, by go_num, by go_num, by go_num, by omega, by omega, by simp; omega, by omega, by omega, Hsc.out, HR.out.1, HR.out.2⟩
end Go.Proofs.Qxb6601273a
