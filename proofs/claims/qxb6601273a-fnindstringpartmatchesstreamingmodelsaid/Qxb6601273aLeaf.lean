import Derived.Test.Qxb6601273aRows
import Derived.Test.Qxb6601273aBase
import Derived.WalkKit
import Derived.WalkSpells
import Derived.WalkLawsBesides
import Derived.ProofKit
import Derived.Deep.QuietTactic
import Derived.BigQuiet
import Derived.Deep.LoopGhost
namespace Go.Proofs.Qxb6601273a
open Go.RowKit

/-- A digit, of a number. -/
def digB (z : Int) : Bool := decide (48 ≤ z) && decide (z ≤ 57)
theorem digB_t {z : Int} (h1 : 48 ≤ z) (h2 : z ≤ 57) : digB z = true := by simp [digB, h1, h2]
theorem digB_f {z : Int} (h : z < 48 ∨ 57 < z) : digB z = false := by
  unfold digB
  rcases h with h | h
  · rw [decide_eq_false (by omega)]; rfl
  · rw [decide_eq_false (p := z ≤ 57) (by omega)]; simp

set_option maxHeartbeats 400000 in
theorem f43_any (z : Int) (w : World) (h0 : 0 ≤ z) (h1 : z ≤ 255) :
    Calls Try.prog 43 #[.int .u8 z] w fun e w' => e = .returned (.bool (digB z)) ∧ w' = w := by
  go_enter Try.func43, Try.ntmps43
  go_wp2
  · go_ret
    exact ⟨ret_bool (by unfold digB; rw [decide_eq_true (p := 48 ≤ z) (by assumption)]; simp), rfl⟩
  · go_ret
    exact ⟨ret_bool (by rw [digB_f (by omega)]), rfl⟩

set_option maxHeartbeats 400000 in
theorem f44_any (L : Nat) (v : Value) (bs : List UInt8) (off i : Int) (w : World) (h2 : w.cell? ⟨L, 2, none⟩ = some (.int .i64 off)) (h0 : w.cell? ⟨L, 0, none⟩ = some v) (hs : Src w v bs)
    (ho : 0 ≤ off) (hi : 0 ≤ i) (ho' : off ≤ 100000000) (hi' : i ≤ 10) (hn : bs.length ≤ 100000000) :
    Calls Try.prog 44 #[.pointer (some ⟨L, 0, none⟩), .int .i64 i] w fun e w' => e = .returned (.int .u8 (byteAt bs (off + i).toNat)) ∧ ∃ m, w' = w.drewN m := by
  rcases hs with ⟨rfl, rfl⟩ | ⟨g, cap, cs, rfl, hle, hb, hc⟩
  · have hz : byteAt [] (off + i).toNat = 0 := byteAt_out (by simp)
    rw [hz]
    clear hz hn
    go_enter Try.func44, Try.ntmps44
    go_wp2
    go_quiet (fail)
    go_wp2
    go_ret
    exact ⟨rfl, _, rfl⟩
  · by_cases hlt : off + i < bs.length
    · have hc' : w.cell? ⟨g, (off + i).toNat, none⟩ = some (.int .u8 (byteAt bs (off + i).toNat)) := by
        rw [hb.cell, hc _ (by omega)]
      clear hc hb hle
      generalize byteAt bs (off + i).toNat = z at *
      go_enter Try.func44, Try.ntmps44
      go_wp2
      go_quiet (fail)
      go_wp2
      go_quiet (fail)
      go_wp2
      go_ret
      exact ⟨rfl, drewN_two _ _ _⟩
    · have hz : byteAt bs (off + i).toNat = 0 := byteAt_out (by omega)
      rw [hz]
      clear hz hc hb hle
      go_enter Try.func44, Try.ntmps44
      go_wp2
      go_quiet (fail)
      go_wp2
      go_ret
      exact ⟨rfl, _, rfl⟩

theorem Src.drewN {w : World} {v : Value} {bs : List UInt8} (h : Src w v bs) (n : Nat) : Src (w.drewN n) v bs := (Keep.drewN [] _ _).src h (by simp)
theorem peek0 (L : Nat) (v : Value) (bs : List UInt8) (d : Nat) (w : World) (h2 : w.cell? ⟨L, 2, none⟩ = some (.int .i64 d)) (h0 : w.cell? ⟨L, 0, none⟩ = some v) (hs : Src w v bs) (hd : d ≤ 100000000) (hn : bs.length ≤ 100000000) :
    Calls Try.prog 44 #[.pointer (some ⟨L, 0, none⟩), .int .i64 0] w fun e w' => e = .returned (.int .u8 (byteAt bs d)) ∧ ∃ m, w' = w.drewN m := by
  have h := f44_any L v bs d 0 w h2 h0 hs (by omega) (by omega) (by omega) (by omega) hn
  rwa [show ((d : Int) + 0).toNat = d from by omega] at h
theorem peek1 (L : Nat) (v : Value) (bs : List UInt8) (d : Nat) (w : World) (h2 : w.cell? ⟨L, 2, none⟩ = some (.int .i64 d)) (h0 : w.cell? ⟨L, 0, none⟩ = some v) (hs : Src w v bs) (hd : d ≤ 100000000) (hn : bs.length ≤ 100000000) :
    Calls Try.prog 44 #[.pointer (some ⟨L, 0, none⟩), .int .i64 1] w fun e w' => e = .returned (.int .u8 (byteAt bs (d + 1))) ∧ ∃ m, w' = w.drewN m := by
  have h := f44_any L v bs d 1 w h2 h0 hs (by omega) (by omega) (by omega) (by omega) hn
  rwa [show ((d : Int) + 1).toNat = d + 1 from by omega] at h
theorem peek2 (L : Nat) (v : Value) (bs : List UInt8) (d : Nat) (w : World) (h2 : w.cell? ⟨L, 2, none⟩ = some (.int .i64 d)) (h0 : w.cell? ⟨L, 0, none⟩ = some v) (hs : Src w v bs) (hd : d ≤ 100000000) (hn : bs.length ≤ 100000000) :
    Calls Try.prog 44 #[.pointer (some ⟨L, 0, none⟩), .int .i64 2] w fun e w' => e = .returned (.int .u8 (byteAt bs (d + 2))) ∧ ∃ m, w' = w.drewN m := by
  have h := f44_any L v bs d 2 w h2 h0 hs (by omega) (by omega) (by omega) (by omega) hn
  rwa [show ((d : Int) + 2).toNat = d + 2 from by omega] at h

/-- Where the run of digits that begins at k ends. -/
def digEnd (bs : List UInt8) (k : Nat) : Nat := k + ((bs.drop k).takeWhile fun b => digB (b.toNat : Int)).length

theorem run_eq {p : UInt8 → Bool} : ∀ {l : List UInt8} {m : Nat}, (∀ j, j < m → ∃ b, l[j]? = some b ∧ p b = true) → (∀ b, l[m]? = some b → p b = false) → (l.takeWhile p).length = m
  | [], m, h, _ => by
    cases m with
    | zero => rfl
    | succ m => obtain ⟨b, hb, _⟩ := h 0 (by omega); simp at hb
  | a :: l, m, h, h' => by
    cases m with
    | zero =>
      have := h' a (by simp)
      simp [this]
    | succ m =>
      obtain ⟨b, hb, hp⟩ := h 0 (by omega)
      simp at hb; subst hb
      rw [List.takeWhile_cons, if_pos hp, List.length_cons]
      rw [run_eq (m := m) (fun j hj => by simpa using h (j + 1) (by omega)) (fun b hb => h' b (by simpa using hb))]

theorem digEnd_eq {bs : List UInt8} {s k : Nat} (hs : s ≤ k) (hk : k ≤ bs.length) (h : ∀ j, s ≤ j → j < k → digB (byteAt bs j) = true) (h' : digB (byteAt bs k) = false) : digEnd bs s = k := by
  unfold digEnd
  rw [run_eq (m := k - s)]
  · omega
  · intro j hj
    have := h (s + j) (by omega) (by omega)
    refine ⟨bs[s + j]'(by omega), by simp [List.getElem?_eq_getElem (show s + j < bs.length by omega)], ?_⟩
    rwa [byteAt_in (by omega)] at this
  · intro b hb
    rw [List.getElem?_drop] at hb
    rw [show s + (k - s) = k from by omega] at hb
    unfold byteAt at h'
    rw [List.getD_eq_getElem?_getD, hb] at h'
    exact h'

theorem digB_zero : digB 0 = false := by decide

/-- The lexer's seven cells. -/
abbrev lexC (src : Value) (text : ByteArray) (off : Int) (tv ov : Value) : Array Value := #[src, .string text, .int .i64 off, tv, ov, .int .i64 0, .int .i64 0]

theorem Blk.setOff {w : World} {L : Nat} {src tv ov : Value} {text : ByteArray} {o : Int} (h : Blk w L 66 (lexC src text o tv ov)) (o' : Int) : Blk (w.setCell ⟨L, 2, none⟩ (.int .i64 o')) L 66 (lexC src text o' tv ov) := h.set 2 _

set_option maxHeartbeats 1000000 in
theorem f42_any (X L s : Nat) (v tv ov : Value) (text : ByteArray) (bs : List UInt8) (w : World) (hX : Blk w X 50 #[.pointer (some ⟨L, 0, none⟩)]) (hL : Blk w L 66 (lexC v text s tv ov)) (hs : Src w v bs)
    (ho : s ≤ bs.length) (hn : bs.length ≤ 100000000) :
    Calls Try.prog 42 #[.pointer (some ⟨X, 0, none⟩)] w fun e w' => e = .returned (.tuple #[]) ∧ Blk w' L 66 (lexC v text (digEnd bs s : Nat) tv ov) ∧ Keep [L] w w' := by
  have hXL : X ≠ L := hX.ne hL (by decide)
  have hg := hs.blk_ne hL (by decide)
  go_enter Try.func42, Try.ntmps42
  go_wp2
  go_loopg [] (bs.length - s) (fun gk wr => ∃ k : Nat, s ≤ k ∧ gk + k = bs.length ∧ Hid (∀ j, s ≤ j → j < k → digB (byteAt bs j) = true) ∧ Blk wr L 66 (lexC v text k tv ov) ∧ Keep [L] w wr)
  case atStart => exact ⟨s, Nat.le_refl _, by omega, fun j h1 h2 => by omega, hL, Keep.refl _ _⟩
  case round =>
    obtain ⟨k, hk1, hk2, hdig, hLr, hKr⟩ := hrel
    have cX : wr.cell? ⟨X, 0, none⟩ = some (.pointer (some ⟨L, 0, none⟩)) := (hKr.blk hX (by simp [hXL])).cell 0
    have c0 : wr.cell? ⟨L, 0, none⟩ = some v := hLr.cell 0
    have c2 : wr.cell? ⟨L, 2, none⟩ = some (.int .i64 k) := hLr.cell 2
    have f2 : wr.frozen? ⟨L, 2, none⟩ = false := hLr.free 2
    have hsr : Src wr v bs := hKr.src hs (by intro g h; simpa using hg g h)
    have hZ := byteAt_range bs k
    have hk0 : (0 : Int) ≤ (k : Int) := by omega
    have hend : ∀ (wx : World), Keep [L] wr wx → Blk wx L 66 (lexC v text k tv ov) → digB (byteAt bs k) = false → Blk wx L 66 (lexC v text (digEnd bs s : Nat) tv ov) ∧ Keep [L] w wx := by
      intro wx h1 h2 h3
      rw [digEnd_eq hk1 (by omega) hdig h3]
      exact ⟨h2, hKr.trans' h1⟩
    have hnext : ∀ (wx : World), Keep [L] wr wx → Blk wx L 66 (lexC v text ((k : Int) + 1) tv ov) → k < bs.length → digB (byteAt bs k) = true → ∃ k' : Nat, s ≤ k' ∧ (gk - 1) + k' = bs.length ∧ Hid (∀ j, s ≤ j → j < k' → digB (byteAt bs j) = true) ∧ Blk wx L 66 (lexC v text k' tv ov) ∧ Keep [L] w wx := by
      intro wx h1 h2 h3 h4
      refine ⟨k + 1, by omega, by omega, fun j j1 j2 => ?_, h2, hKr.trans' h1⟩
      by_cases e : j = k
      · rw [e]; exact h4
      · exact hdig.out j j1 (by omega)
    have Hend : Hid _ := hend
    have Hnext : Hid _ := hnext
    clear hend hnext hdig
    rcases hsr with ⟨rfl, rfl⟩ | ⟨g, cap, cs, rfl, hle, hb, hc⟩
    · have hk00 : k = 0 := by simp at hk2; omega
      subst hk00
      clear hKr hs hg hX hL
      go_wp2_with fail
      go_quiet (fail)
      go_wp2
      go_end0
      exact ⟨rfl, Hend.out _ (Keep.drewN _ _ _) (hLr.drewN _) (by rw [byteAt_out (by simp)]; rfl)⟩
    · by_cases hlt : k < bs.length
      · have hc' : wr.cell? ⟨g, k, none⟩ = some (.int .u8 (byteAt bs k)) := by
          rw [hb.cell, hc _ hlt]
        clear hKr hs hg hX hL hb hc
        generalize hzz : byteAt bs k = z at *
        have hlt' : (k : Int) < (bs.length : Int) := by omega
        have Hzz : Hid (byteAt bs k = z) := hzz
        clear hzz
        cases hdz : digB z
        · go_wp2_with fail
          go_quiet ((go_at_call 43; exact Calls.quiet_of_same (f43_any _ _ hZ.1 hZ.2)))
          rw [hdz]
          go_wp2
          go_end0
          exact ⟨rfl, Hend.out _ (Keep.drewN _ _ _) (hLr.drewN _) hdz⟩
        · go_wp2_with fail
          go_quiet ((go_at_call 43; exact Calls.quiet_of_same (f43_any _ _ hZ.1 hZ.2)))
          rw [hdz]
          go_wp2
          go_roundg (gk - 1)
          case measure => omega
          case rel => exact Hnext.out _ ((Keep.drewN _ _ _).trans' (Keep.setCell _ _ _ (by simp))) ((hLr.drewN _).setOff _) hlt hdz
      · have hdd : decide ((k : Int) < (bs.length : Int)) = false := by simpa using hlt
        clear hKr hs hg hX hL hb hc
        go_wp2_with fail
        go_quiet (fail)
        go_wp2
        go_end0
        exact ⟨rfl, Hend.out _ (Keep.drewN _ _ _) (hLr.drewN _) (by rw [byteAt_out (by omega)]; rfl)⟩
end Go.Proofs.Qxb6601273a
