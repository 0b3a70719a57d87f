import Derived.Test.Qxb6001279aRows
import Derived.WalkKit
import Derived.WalkSpells
import Derived.WalkLawsBesides
import Derived.ProofKit
namespace Go.Proofs.Qxb6001279a
open Go.RowKit
set_option linter.unusedVariables false

def isD (c : UInt8) : Bool := decide (48 ≤ c.toNat) && decide (c.toNat ≤ 57)
def allD (s : ByteArray) : Bool := s.data.toList.all isD
def lead (s : ByteArray) : Nat := (s.data.toList.takeWhile isD).length

theorem isD_t {c : UInt8} (h1 : 48 ≤ (c.toNat : Int)) (h2 : (c.toNat : Int) ≤ 57) : isD c = true := by
  simp [isD]; omega
theorem isD_f {c : UInt8} (h : (c.toNat : Int) < 48 ∨ 57 < (c.toNat : Int)) : isD c = false := by
  simp [isD]; omega

theorem len_toList (s : ByteArray) : s.data.toList.length = s.size := rfl
theorem ret_bool {a b : Bool} (h : a = b) : Ending.returned (.bool a) = .returned (.bool b) := by rw [h]
theorem ret_int {k : IntKind} {a b : Int} (h : a = b) : Ending.returned (.int k a) = .returned (.int k b) := by rw [h]

theorem take_snoc (s : ByteArray) (k : Nat) (h : k < s.size) : s.data.toList.take (k + 1) = s.data.toList.take k ++ [s[k]] := by
  rw [List.take_succ_eq_append_getElem (by simpa using h)]; rfl

theorem allD_no (s : ByteArray) (k : Nat) (h : k < s.size) (hd : isD s[k] = false) : allD s = false := by
  unfold allD
  rw [List.all_eq_false]
  exact ⟨s[k], by simp [ByteArray.getElem_eq_getElem_data], by simp [hd]⟩

theorem allD_yes (s : ByteArray) (k : Nat) (h : ¬ k < s.size) (hd : (s.data.toList.take k).all isD = true) : allD s = true := by
  unfold allD
  rwa [List.take_of_length_le (by rw [len_toList]; omega)] at hd

theorem step_all (s : ByteArray) (k : Nat) (h : k < s.size) (hd : isD s[k] = true) (ha : (s.data.toList.take k).all isD = true) : (s.data.toList.take (k + 1)).all isD = true := by
  rw [take_snoc s k h]; rw [List.all_append]; rw [ha]; simp [hd]

theorem takeWhile_stop {l : List UInt8} {k : Nat} (h : k < l.length) (ha : (l.take k).all isD = true) (hd : isD l[k] = false) : (l.takeWhile isD).length = k := by
  induction l generalizing k with
  | nil => simp at h
  | cons a l ih =>
    cases k with
    | zero => simp at hd; simp [hd]
    | succ k =>
      simp at ha h hd
      rw [List.takeWhile_cons, if_pos ha.1]
      simp
      exact ih h (by simpa using ha.2) hd

theorem takeWhile_all {l : List UInt8} (ha : l.all isD = true) : l.takeWhile isD = l := by
  induction l with
  | nil => rfl
  | cons a l ih =>
    simp only [List.all_cons, Bool.and_eq_true] at ha
    rw [List.takeWhile_cons, if_pos ha.1, ih ha.2]

theorem lead_stop (s : ByteArray) (k : Nat) (h : k < s.size) (ha : (s.data.toList.take k).all isD = true) (hd : isD s[k] = false) : lead s = k :=
  takeWhile_stop (l := s.data.toList) (by simpa using h) ha hd

theorem lead_end (s : ByteArray) (k : Nat) (hk : k ≤ s.size) (h : ¬ k < s.size) (ha : (s.data.toList.take k).all isD = true) : lead s = k := by
  have e : s.data.toList.length = k := by rw [len_toList]; omega
  unfold lead
  rw [List.take_of_length_le (by omega)] at ha
  rw [takeWhile_all ha]; exact e

set_option maxHeartbeats 400000 in
theorem f16_any (s : ByteArray) (w : World) (hs : s.size ≤ maxLen) :
    Calls Try.prog 16 #[.string s] w fun e w' => e = .returned (.bool (allD s)) ∧ w' = w := by
  unfold maxLen at hs
  go_enter Try.func16, Try.ntmps16
  go_wp2
  go_loop [3] (fun i => ∃ k : Nat, k ≤ s.size ∧ i = .int .i64 k ∧ (s.data.toList.take k).all isD = true) (fun i => s.size - (intOf i).toNat)
  case atStart => exact ⟨0, Nat.zero_le _, rfl, rfl⟩
  case round =>
    obtain ⟨k, hk, rfl, hall⟩ := hrel
    by_cases hlt : k < s.size
    · have hstep := step_all s k hlt
      have hno := allD_no s k hlt
      go_wp2
      · go_ret
        exact ⟨ret_bool (by rw [hno (isD_f (by assumption))]), rfl⟩
      · go_round
        case rel => exact ⟨k + 1, by omega, by go_num, hstep (isD_t (by omega) (by omega)) hall⟩
        case measure => simp [intOf]; omega
      · go_ret
        exact ⟨ret_bool (by rw [hno (isD_f (by omega))]), rfl⟩
    · go_wp2
      go_ret
      exact ⟨ret_bool (by rw [allD_yes s k hlt hall]), rfl⟩

set_option maxHeartbeats 400000 in
theorem f30_any (s : ByteArray) (w : World) (hs : s.size ≤ maxLen) :
    Calls Try.prog 30 #[.string s] w fun e w' => e = .returned (.int .i64 (lead s)) ∧ w' = w := by
  unfold maxLen at hs
  go_enter Try.func30, Try.ntmps30
  go_wp2
  go_loop [3] (fun i => ∃ k : Nat, k ≤ s.size ∧ i = .int .i64 k ∧ (s.data.toList.take k).all isD = true) (fun i => s.size - (intOf i).toNat)
  case atStart => exact ⟨0, Nat.zero_le _, rfl, rfl⟩
  case round =>
    obtain ⟨k, hk, rfl, hall⟩ := hrel
    by_cases hlt : k < s.size
    · have hstep := step_all s k hlt
      have hno := lead_stop s k hlt hall
      go_wp2
      · go_round
        case rel => exact ⟨k + 1, by omega, by go_num, hstep (isD_t (by omega) (by omega)) hall⟩
        case measure => simp [intOf]; omega
      · go_ret
        exact ⟨ret_int (by rw [hno (isD_f (by omega))]), rfl⟩
      · go_ret
        exact ⟨ret_int (by rw [hno (isD_f (by omega))]), rfl⟩
    · go_wp2
      go_ret
      exact ⟨ret_int (by rw [lead_end s k hk hlt hall]), rfl⟩

set_option maxHeartbeats 400000 in
theorem f29_plus (s : ByteArray) (w : World) (hs : s.size ≤ maxLen) (h0 : 0 < s.size) (he : s.toList.isEmpty = false) (h1 : ((s[0].toNat : Int) == 43) = true) :
    Calls Try.prog 29 #[.string s] w fun e w' => e = .returned (.string (s.extract 1 s.size)) ∧ w' = w := by
  unfold maxLen at hs
  go_enter Try.func29, Try.ntmps29
  go_wp2
  go_ret
  exact ⟨rfl, rfl⟩

set_option maxHeartbeats 400000 in
theorem f29_minus (s : ByteArray) (w : World) (hs : s.size ≤ maxLen) (h0 : 0 < s.size) (he : s.toList.isEmpty = false) (h1 : ((s[0].toNat : Int) == 43) = false) (h2 : ((s[0].toNat : Int) == 45) = true) :
    Calls Try.prog 29 #[.string s] w fun e w' => e = .returned (.string (s.extract 1 s.size)) ∧ w' = w := by
  unfold maxLen at hs
  go_enter Try.func29, Try.ntmps29
  go_wp2
  go_ret
  exact ⟨rfl, rfl⟩

set_option maxHeartbeats 400000 in
theorem f29_none (s : ByteArray) (w : World) (h0 : 0 < s.size) (he : s.toList.isEmpty = false) (h1 : ((s[0].toNat : Int) == 43) = false) (h2 : ((s[0].toNat : Int) == 45) = false) :
    Calls Try.prog 29 #[.string s] w fun e w' => e = .returned (.string s) ∧ w' = w := by
  go_enter Try.func29, Try.ntmps29
  go_wp2
  go_ret
  exact ⟨rfl, rfl⟩

def Uns (s d : ByteArray) : Prop := ∀ w, Calls Try.prog 29 #[.string s] w fun e w' => e = .returned (.string d) ∧ w' = w

set_option maxHeartbeats 400000 in
theorem f27_whole (s d : ByteArray) (w : World) (hs : d.size ≤ maxLen) (hu : Uns s d) (h0 : 0 < d.size) (hl : Hid (lead d = d.size)) :
    Calls Try.prog 27 #[.string s] w fun e w' => e = .returned (.tuple #[.string d, .string ⟨#[]⟩, .bool false, .bool true]) ∧ w' = w := by
  unfold maxLen at hs
  go_enter Try.func27, Try.ntmps27
  go_wp2_with fail
  refine (hu _).mono ?_
  rintro e w' ⟨rfl, rfl⟩
  go_wp2_with fail
  refine (f30_any d _ hs).mono ?_
  rw [hl.out]
  rintro e w' ⟨rfl, rfl⟩
  go_wp2
  exact bodyPost_ret (v := .tuple #[.string d, .string ⟨#[]⟩, .bool false, .bool true]) (by simp [results, Try.results27, go_sem]) rfl ⟨rfl, rfl⟩

set_option maxHeartbeats 400000 in
theorem f27_point (s d f : ByteArray) (i : Nat) (w : World) (hs : d.size ≤ maxLen) (hu : Uns s d) (h0 : 0 < i) (hi : i < d.size) (hl : Hid (lead d = i)) (hp : ((d[i].toNat : Int) == 46) = true) (hfe : Hid (d.extract (i + 1) d.size = f)) (hf : Hid (lead f = f.size)) (hf0 : ((f.size : Int) == 0) = false) (hfs : f.size ≤ maxLen) :
    Calls Try.prog 27 #[.string s] w fun e w' => e = .returned (.tuple #[.string (d.extract 0 i), .string f, .bool true, .bool true]) ∧ w' = w := by
  unfold maxLen at hs
  go_enter Try.func27, Try.ntmps27
  go_wp2_with fail
  refine (hu _).mono ?_
  rintro e w' ⟨rfl, rfl⟩
  go_wp2_with fail
  refine (f30_any d _ hs).mono ?_
  rw [hl.out]
  rintro e w' ⟨rfl, rfl⟩
  go_wp2_with fail
  rw [hfe.out]
  refine (f30_any f _ hfs).mono ?_
  rw [hf.out]
  rintro e w' ⟨rfl, rfl⟩
  unfold maxLen at hfs
  go_wp2
  exact bodyPost_ret (v := .tuple #[.string (d.extract 0 i), .string f, .bool true, .bool true]) (by simp [results, Try.results27, go_sem]) rfl ⟨rfl, rfl⟩

def PP (s a b : ByteArray) (p q : Bool) : Prop := ∀ w, Calls Try.prog 27 #[.string s] w fun e w' => e = .returned (.tuple #[.string a, .string b, .bool p, .bool q]) ∧ w' = w

set_option maxHeartbeats 400000 in
theorem f15_of (s a b : ByteArray) (p q : Bool) (w : World) (h : PP s a b p q) :
    Calls Try.prog 15 #[.string s] w fun e w' => e = .returned (.tuple #[.string a, .string b, .bool p, .bool q]) ∧ w' = w := by
  go_enter Try.func15, Try.ntmps15
  go_wp2_with fail
  refine (h _).mono ?_
  rintro e w' ⟨rfl, rfl⟩
  go_wp2
  exact bodyPost_ret (v := .tuple #[.string a, .string b, .bool p, .bool q]) (by simp [results, Try.results15, go_sem]) rfl ⟨rfl, rfl⟩

def fits (a b : ByteArray) : Bool := decide (a.size ≤ 1048576) && decide (a.size + b.size ≤ 1048576)

set_option maxHeartbeats 400000 in
theorem f18_any (a0 : Int) (a1 a2 : ByteArray) (a3 : Bool) (w : World) (h1 : a1.size ≤ maxLen) (h2 : a2.size ≤ maxLen) :
    Calls Try.prog 18 #[.int .u8 a0, .string a1, .string a2, .bool a3] w fun e w' => e = .returned (.bool (fits a1 a2)) ∧ w' = w := by
  unfold maxLen at h1 h2
  go_enter Try.func18, Try.ntmps18
  go_wp2
  all_goals
    go_ret
    exact ⟨ret_bool (by unfold fits; simp; omega), rfl⟩


theorem ba_ext {a b : ByteArray} (h : a.data.toList = b.data.toList) : a = b := by
  cases a; cases b; simp at h; rw [h]

theorem toList_eq (s : ByteArray) : s.toList = s.data.toList := ByteArray.toList_eq s
theorem cat_data (a b : ByteArray) : (a ++ b).data.toList = a.data.toList ++ b.data.toList := by simp
theorem ext_data (a : ByteArray) (i j : Nat) : (a.extract i j).data.toList = (a.data.toList.take j).drop i := by
  simp [List.drop_take]

theorem nonempty_of {s : ByteArray} (h : 0 < s.size) : s.toList.isEmpty = false := by
  rw [toList_eq]
  have : 0 < s.data.toList.length := h
  cases hl : s.data.toList with
  | nil => rw [hl] at this; simp at this
  | cons a l => rfl

theorem size_of_nonempty {s : ByteArray} (h : s.toList.isEmpty = false) : 0 < s.size := by
  rw [toList_eq] at h
  rw [← len_toList]
  cases hl : s.data.toList with
  | nil => rw [hl] at h; cases h
  | cons a l => simp

theorem cat_extract (a b : ByteArray) : (a ++ b).extract a.size (a ++ b).size = b := by
  apply ba_ext
  rw [ext_data, cat_data, ← len_toList (a ++ b), cat_data, List.take_length, ← len_toList a, List.drop_left]

theorem uns_plus (x : ByteArray) (hs : x.size + 1 ≤ maxLen) : Uns (⟨#[43]⟩ ++ x) x := by
  intro w
  have hz : (⟨#[43]⟩ ++ x : ByteArray).size = 1 + x.size := ByteArray.size_append
  have h := f29_plus (⟨#[43]⟩ ++ x) w (by omega) (by omega) (nonempty_of (by omega)) (by rw [ByteArray.getElem_append_left (by exact Nat.zero_lt_one)]; rfl)
  have e : (⟨#[43]⟩ ++ x : ByteArray).extract 1 (⟨#[43]⟩ ++ x : ByteArray).size = x := cat_extract ⟨#[43]⟩ x
  rw [e] at h
  exact h

theorem uns_minus (x : ByteArray) (hs : x.size + 1 ≤ maxLen) : Uns (⟨#[45]⟩ ++ x) x := by
  intro w
  have hz : (⟨#[45]⟩ ++ x : ByteArray).size = 1 + x.size := ByteArray.size_append
  have h := f29_minus (⟨#[45]⟩ ++ x) w (by omega) (by omega) (nonempty_of (by omega)) (by rw [ByteArray.getElem_append_left (by exact Nat.zero_lt_one)]; rfl) (by rw [ByteArray.getElem_append_left (by exact Nat.zero_lt_one)]; rfl)
  have e : (⟨#[45]⟩ ++ x : ByteArray).extract 1 (⟨#[45]⟩ ++ x : ByteArray).size = x := cat_extract ⟨#[45]⟩ x
  rw [e] at h
  exact h

theorem isD_bounds {c : UInt8} (h : isD c = true) : 48 ≤ c.toNat ∧ c.toNat ≤ 57 := by
  simpa [isD] using h

theorem uns_none (x : ByteArray) (h0 : 0 < x.size) (hd : isD x[0] = true) : Uns x x := by
  intro w
  have hb := isD_bounds hd
  exact f29_none x w h0 (nonempty_of h0) (beq_eq_false_iff_ne.2 (by omega)) (beq_eq_false_iff_ne.2 (by omega))

theorem lead_all {d : ByteArray} (h : allD d = true) : lead d = d.size := by
  unfold lead
  rw [takeWhile_all h]; rfl

def Reads (s a b : ByteArray) (p : Bool) : Prop := ∀ w, Calls Try.prog 15 #[.string s] w fun e w' => e = .returned (.tuple #[.string a, .string b, .bool p, .bool true]) ∧ w' = w

theorem reads_whole {s d : ByteArray} (hu : Uns s d) (hd : allD d = true) (h0 : 0 < d.size) (hs : d.size ≤ maxLen) : Reads s d ⟨#[]⟩ false :=
  fun w => f15_of s d ⟨#[]⟩ false true w fun w => f27_whole s d w hs hu h0 (lead_all hd)

theorem all_get {d : ByteArray} (hd : allD d = true) (i : Nat) (h : i < d.size) : isD d[i] = true := by
  unfold allD at hd
  rw [List.all_eq_true] at hd
  exact hd _ (by simp [ByteArray.getElem_eq_getElem_data])

theorem reads_point {s a b : ByteArray} (hu : Uns s (a ++ ⟨#[46]⟩ ++ b)) (ha : allD a = true) (h0 : 0 < a.size) (hb : allD b = true) (hb0 : 0 < b.size) (hs : a.size + 1 + b.size ≤ maxLen) : Reads s a b true := by
  intro w
  refine f15_of s a b true true w fun w => ?_
  have hz : (a ++ ⟨#[46]⟩ ++ b : ByteArray).size = a.size + 1 + b.size := by rw [ByteArray.size_append, ByteArray.size_append]; rfl
  have hdat : (a ++ ⟨#[46]⟩ ++ b : ByteArray).data.toList = a.data.toList ++ 46 :: b.data.toList := by simp
  have hl : lead (a ++ ⟨#[46]⟩ ++ b) = a.size := by
    unfold lead
    rw [hdat]
    refine takeWhile_stop (by simp only [List.length_append, List.length_cons, len_toList]; omega) ?_ ?_
    · rw [List.take_left' (by rfl)]; exact ha
    · rw [List.getElem_append_right (by exact Nat.le_refl _)]; simp; rfl
  have hg : (a ++ ⟨#[46]⟩ ++ b : ByteArray)[a.size]'(by omega) = 46 := by
    rw [ByteArray.getElem_append_left (by rw [ByteArray.size_append]; exact Nat.lt_succ_self _), ByteArray.getElem_append_right (Nat.le_refl _)]
    simp; rfl
  have e0 : (a ++ ⟨#[46]⟩ ++ b : ByteArray).extract 0 a.size = a := by
    apply ba_ext
    rw [ext_data, hdat, ← len_toList a, List.take_left, List.drop_zero]
  have e1 : (a ++ ⟨#[46]⟩ ++ b : ByteArray).extract (a.size + 1) (a ++ ⟨#[46]⟩ ++ b : ByteArray).size = b := by
    have := cat_extract (a ++ ⟨#[46]⟩) b
    rwa [ByteArray.size_append] at this
  have h := f27_point s _ b a.size w (by omega) hu h0 (by omega) hl (by rw [hg]; rfl) e1 (lead_all hb) (beq_eq_false_iff_ne.2 (by omega)) (by omega)
  rw [e0] at h
  exact h

/-! f7 -/

set_option maxHeartbeats 1000000 in
theorem f7_a (a0 : Int) (a1 : ByteArray) (a2 : ByteArray) (a3 : Bool) (w : World) (w0 : 0 ≤ a0) (w0' : a0 ≤ 255) (w1 : a1.size ≤ maxLen) (w2 : a2.size ≤ maxLen)
    (hf : Hid (fits a1 a2 = false)) :
    Calls Try.prog 7 #[.int .u8 a0, .string a1, .string a2, .bool a3] w fun e w' => e = .returned (.bool true) ∧ w' = w := by
  go_enter Try.func7, Try.ntmps7
  go_wp2_with fail
  refine (f18_any _ _ _ _ _ w1 w2).mono ?_
  rw [hf.out]
  rintro e w' ⟨rfl, rfl⟩
  go_wp2_with fail
  go_ret
  exact ⟨rfl, rfl⟩

set_option maxHeartbeats 1000000 in
theorem f7_b (a0 : Int) (a1 : ByteArray) (a2 : ByteArray) (a3 : Bool) (w : World) (w0 : 0 ≤ a0) (w0' : a0 ≤ 255) (w1 : a1.size ≤ maxLen) (w2 : a2.size ≤ maxLen)
    (hf : Hid (fits a1 a2 = true)) (h1 : 524288 < a1.size) :
    Calls Try.prog 7 #[.int .u8 a0, .string a1, .string a2, .bool a3] w fun e w' => e = .returned (.bool true) ∧ w' = w := by
  go_enter Try.func7, Try.ntmps7
  go_wp2_with fail
  refine (f18_any _ _ _ _ _ w1 w2).mono ?_
  rw [hf.out]
  rintro e w' ⟨rfl, rfl⟩
  go_wp2_with fail
  go_ret
  exact ⟨rfl, rfl⟩

set_option maxHeartbeats 1000000 in
theorem f7_c (a0 : Int) (a1 : ByteArray) (a2 : ByteArray) (a3 : Bool) (w : World) (w0 : 0 ≤ a0) (w0' : a0 ≤ 255) (w1 : a1.size ≤ maxLen) (w2 : a2.size ≤ maxLen)
    (hf : Hid (fits a1 a2 = true)) (h1 : a1.size ≤ 524288) (h2 : 524288 < a2.size) :
    Calls Try.prog 7 #[.int .u8 a0, .string a1, .string a2, .bool a3] w fun e w' => e = .returned (.bool true) ∧ w' = w := by
  go_enter Try.func7, Try.ntmps7
  go_wp2_with fail
  refine (f18_any _ _ _ _ _ w1 w2).mono ?_
  rw [hf.out]
  rintro e w' ⟨rfl, rfl⟩
  go_wp2_with fail
  go_ret
  exact ⟨rfl, rfl⟩

set_option maxHeartbeats 1000000 in
theorem f7_d (a0 : Int) (a1 : ByteArray) (a2 : ByteArray) (a3 : Bool) (w : World) (w0 : 0 ≤ a0) (w0' : a0 ≤ 255) (w1 : a1.size ≤ maxLen) (w2 : a2.size ≤ maxLen)
    (hf : Hid (fits a1 a2 = true)) (h1 : a1.size ≤ 524288) (h2 : a2.size ≤ 524288) (h0 : 2 < a0) :
    Calls Try.prog 7 #[.int .u8 a0, .string a1, .string a2, .bool a3] w fun e w' => e = .returned (.bool true) ∧ w' = w := by
  go_enter Try.func7, Try.ntmps7
  go_wp2_with fail
  refine (f18_any _ _ _ _ _ w1 w2).mono ?_
  rw [hf.out]
  rintro e w' ⟨rfl, rfl⟩
  go_wp2_with fail
  go_ret
  exact ⟨rfl, rfl⟩

set_option maxHeartbeats 1000000 in
theorem f7_e (a0 : Int) (a1 : ByteArray) (a2 : ByteArray) (a3 : Bool) (w : World) (w0 : 0 ≤ a0) (w0' : a0 ≤ 255) (w1 : a1.size ≤ maxLen) (w2 : a2.size ≤ maxLen)
    (hf : Hid (fits a1 a2 = true)) (h1 : a1.size ≤ 524288) (h2 : a2.size ≤ 524288) (h0 : a0 ≤ 2) (he : a1.toList.isEmpty = true) :
    Calls Try.prog 7 #[.int .u8 a0, .string a1, .string a2, .bool a3] w fun e w' => e = .returned (.bool true) ∧ w' = w := by
  go_enter Try.func7, Try.ntmps7
  go_wp2_with fail
  refine (f18_any _ _ _ _ _ w1 w2).mono ?_
  rw [hf.out]
  rintro e w' ⟨rfl, rfl⟩
  go_wp2_with fail
  go_ret
  exact ⟨rfl, rfl⟩

set_option maxHeartbeats 1000000 in
theorem f7_f (a0 : Int) (a1 : ByteArray) (a2 : ByteArray) (a3 : Bool) (w : World) (w0 : 0 ≤ a0) (w0' : a0 ≤ 255) (w1 : a1.size ≤ maxLen) (w2 : a2.size ≤ maxLen)
    (hf : Hid (fits a1 a2 = true)) (h1 : a1.size ≤ 524288) (h2 : a2.size ≤ 524288) (h0 : a0 ≤ 2) (he : a1.toList.isEmpty = false) (hd1 : Hid (allD a1 = false)) :
    Calls Try.prog 7 #[.int .u8 a0, .string a1, .string a2, .bool a3] w fun e w' => e = .returned (.bool true) ∧ w' = w := by
  go_enter Try.func7, Try.ntmps7
  go_wp2_with fail
  refine (f18_any _ _ _ _ _ w1 w2).mono ?_
  rw [hf.out]
  rintro e w' ⟨rfl, rfl⟩
  go_wp2_with fail
  refine (f16_any _ _ w1).mono ?_
  rw [hd1.out]
  rintro e w' ⟨rfl, rfl⟩
  go_wp2_with fail
  go_ret
  exact ⟨rfl, rfl⟩

set_option maxHeartbeats 1000000 in
theorem f7_g (a0 : Int) (a1 : ByteArray) (a2 : ByteArray) (a3 : Bool) (w : World) (w0 : 0 ≤ a0) (w0' : a0 ≤ 255) (w1 : a1.size ≤ maxLen) (w2 : a2.size ≤ maxLen)
    (hf : Hid (fits a1 a2 = true)) (h1 : a1.size ≤ 524288) (h2 : a2.size ≤ 524288) (h0 : a0 ≤ 2) (he : a1.toList.isEmpty = false) (hd1 : Hid (allD a1 = true)) (hd2 : Hid (allD a2 = false)) :
    Calls Try.prog 7 #[.int .u8 a0, .string a1, .string a2, .bool a3] w fun e w' => e = .returned (.bool true) ∧ w' = w := by
  go_enter Try.func7, Try.ntmps7
  go_wp2_with fail
  refine (f18_any _ _ _ _ _ w1 w2).mono ?_
  rw [hf.out]
  rintro e w' ⟨rfl, rfl⟩
  go_wp2_with fail
  refine (f16_any _ _ w1).mono ?_
  rw [hd1.out]
  rintro e w' ⟨rfl, rfl⟩
  go_wp2_with fail
  refine (f16_any _ _ w2).mono ?_
  rw [hd2.out]
  rintro e w' ⟨rfl, rfl⟩
  go_wp2_with fail
  go_ret
  exact ⟨rfl, rfl⟩

set_option maxHeartbeats 1000000 in
theorem f7_h1 (a0 : Int) (a1 : ByteArray) (a2 : ByteArray) (w : World) (w0 : 0 ≤ a0) (w0' : a0 ≤ 255) (w1 : a1.size ≤ maxLen) (w2 : a2.size ≤ maxLen)
    (hf : Hid (fits a1 a2 = true)) (h1 : a1.size ≤ 524288) (h2 : a2.size ≤ 524288) (h0 : a0 ≤ 2) (he : a1.toList.isEmpty = false) (hd1 : Hid (allD a1 = true)) (hd2 : Hid (allD a2 = true)) (he2 : a2.toList.isEmpty = false) :
    Calls Try.prog 7 #[.int .u8 a0, .string a1, .string a2, .bool false] w fun e w' => e = .returned (.bool true) ∧ w' = w := by
  go_enter Try.func7, Try.ntmps7
  go_wp2_with fail
  refine (f18_any _ _ _ _ _ w1 w2).mono ?_
  rw [hf.out]
  rintro e w' ⟨rfl, rfl⟩
  go_wp2_with fail
  refine (f16_any _ _ w1).mono ?_
  rw [hd1.out]
  rintro e w' ⟨rfl, rfl⟩
  go_wp2_with fail
  refine (f16_any _ _ w2).mono ?_
  rw [hd2.out]
  rintro e w' ⟨rfl, rfl⟩
  go_wp2_with fail
  go_ret
  exact ⟨rfl, rfl⟩

set_option maxHeartbeats 1000000 in
theorem f7_h2 (a0 : Int) (a1 : ByteArray) (a2 : ByteArray) (w : World) (w0 : 0 ≤ a0) (w0' : a0 ≤ 255) (w1 : a1.size ≤ maxLen) (w2 : a2.size ≤ maxLen)
    (hf : Hid (fits a1 a2 = true)) (h1 : a1.size ≤ 524288) (h2 : a2.size ≤ 524288) (h0 : a0 ≤ 2) (he : a1.toList.isEmpty = false) (hd1 : Hid (allD a1 = true)) (hd2 : Hid (allD a2 = true)) (he2 : a2.toList.isEmpty = true) :
    Calls Try.prog 7 #[.int .u8 a0, .string a1, .string a2, .bool true] w fun e w' => e = .returned (.bool true) ∧ w' = w := by
  go_enter Try.func7, Try.ntmps7
  go_wp2_with fail
  refine (f18_any _ _ _ _ _ w1 w2).mono ?_
  rw [hf.out]
  rintro e w' ⟨rfl, rfl⟩
  go_wp2_with fail
  refine (f16_any _ _ w1).mono ?_
  rw [hd1.out]
  rintro e w' ⟨rfl, rfl⟩
  go_wp2_with fail
  refine (f16_any _ _ w2).mono ?_
  rw [hd2.out]
  rintro e w' ⟨rfl, rfl⟩
  go_wp2_with fail
  go_ret
  exact ⟨rfl, rfl⟩

set_option maxHeartbeats 1000000 in
theorem f7_m0w (a0 : Int) (a1 : ByteArray) (a2 : ByteArray) (w : World) (w0 : 0 ≤ a0) (w0' : a0 ≤ 255) (w1 : a1.size ≤ maxLen) (w2 : a2.size ≤ maxLen)
    (hf : Hid (fits a1 a2 = true)) (h1 : a1.size ≤ 524288) (h2 : a2.size ≤ 524288) (h0 : a0 ≤ 2) (he : a1.toList.isEmpty = false) (hd1 : Hid (allD a1 = true)) (hd2 : Hid (allD a2 = true)) (he2 : a2.toList.isEmpty = true) (hs1 : (a0 == 1) = false) (hs2 : (a0 == 2) = false) (hr : Reads (a1) a1 a2 false) :
    Calls Try.prog 7 #[.int .u8 a0, .string a1, .string a2, .bool false] w fun e w' => e = .returned (.bool true) ∧ w' = w := by
  go_enter Try.func7, Try.ntmps7
  go_wp2_with fail
  refine (f18_any _ _ _ _ _ w1 w2).mono ?_
  rw [hf.out]
  rintro e w' ⟨rfl, rfl⟩
  go_wp2_with fail
  refine (f16_any _ _ w1).mono ?_
  rw [hd1.out]
  rintro e w' ⟨rfl, rfl⟩
  go_wp2_with fail
  refine (f16_any _ _ w2).mono ?_
  rw [hd2.out]
  rintro e w' ⟨rfl, rfl⟩
  go_wp2_with fail
  refine (hr _).mono ?_
  rintro e w' ⟨rfl, rfl⟩
  go_wp2
  go_ret
  exact ⟨rfl, rfl⟩

set_option maxHeartbeats 1000000 in
theorem f7_m0p (a0 : Int) (a1 : ByteArray) (a2 : ByteArray) (w : World) (w0 : 0 ≤ a0) (w0' : a0 ≤ 255) (w1 : a1.size ≤ maxLen) (w2 : a2.size ≤ maxLen)
    (hf : Hid (fits a1 a2 = true)) (h1 : a1.size ≤ 524288) (h2 : a2.size ≤ 524288) (h0 : a0 ≤ 2) (he : a1.toList.isEmpty = false) (hd1 : Hid (allD a1 = true)) (hd2 : Hid (allD a2 = true)) (he2 : a2.toList.isEmpty = false) (hs1 : (a0 == 1) = false) (hs2 : (a0 == 2) = false) (hr : Reads (a1 ++ ⟨#[46]⟩ ++ a2) a1 a2 true) :
    Calls Try.prog 7 #[.int .u8 a0, .string a1, .string a2, .bool true] w fun e w' => e = .returned (.bool true) ∧ w' = w := by
  go_enter Try.func7, Try.ntmps7
  go_wp2_with fail
  refine (f18_any _ _ _ _ _ w1 w2).mono ?_
  rw [hf.out]
  rintro e w' ⟨rfl, rfl⟩
  go_wp2_with fail
  refine (f16_any _ _ w1).mono ?_
  rw [hd1.out]
  rintro e w' ⟨rfl, rfl⟩
  go_wp2_with fail
  refine (f16_any _ _ w2).mono ?_
  rw [hd2.out]
  rintro e w' ⟨rfl, rfl⟩
  go_wp2_with fail
  refine (hr _).mono ?_
  rintro e w' ⟨rfl, rfl⟩
  go_wp2
  go_ret
  exact ⟨rfl, rfl⟩

set_option maxHeartbeats 1000000 in
theorem f7_m1w (a0 : Int) (a1 : ByteArray) (a2 : ByteArray) (w : World) (w0 : 0 ≤ a0) (w0' : a0 ≤ 255) (w1 : a1.size ≤ maxLen) (w2 : a2.size ≤ maxLen)
    (hf : Hid (fits a1 a2 = true)) (h1 : a1.size ≤ 524288) (h2 : a2.size ≤ 524288) (h0 : a0 ≤ 2) (he : a1.toList.isEmpty = false) (hd1 : Hid (allD a1 = true)) (hd2 : Hid (allD a2 = true)) (he2 : a2.toList.isEmpty = true) (hs1 : (a0 == 1) = true) (hr : Reads (⟨#[43]⟩ ++ a1) a1 a2 false) :
    Calls Try.prog 7 #[.int .u8 a0, .string a1, .string a2, .bool false] w fun e w' => e = .returned (.bool true) ∧ w' = w := by
  go_enter Try.func7, Try.ntmps7
  go_wp2_with fail
  refine (f18_any _ _ _ _ _ w1 w2).mono ?_
  rw [hf.out]
  rintro e w' ⟨rfl, rfl⟩
  go_wp2_with fail
  refine (f16_any _ _ w1).mono ?_
  rw [hd1.out]
  rintro e w' ⟨rfl, rfl⟩
  go_wp2_with fail
  refine (f16_any _ _ w2).mono ?_
  rw [hd2.out]
  rintro e w' ⟨rfl, rfl⟩
  go_wp2_with fail
  refine (hr _).mono ?_
  rintro e w' ⟨rfl, rfl⟩
  go_wp2
  go_ret
  exact ⟨rfl, rfl⟩

set_option maxHeartbeats 1000000 in
theorem f7_m1p (a0 : Int) (a1 : ByteArray) (a2 : ByteArray) (w : World) (w0 : 0 ≤ a0) (w0' : a0 ≤ 255) (w1 : a1.size ≤ maxLen) (w2 : a2.size ≤ maxLen)
    (hf : Hid (fits a1 a2 = true)) (h1 : a1.size ≤ 524288) (h2 : a2.size ≤ 524288) (h0 : a0 ≤ 2) (he : a1.toList.isEmpty = false) (hd1 : Hid (allD a1 = true)) (hd2 : Hid (allD a2 = true)) (he2 : a2.toList.isEmpty = false) (hs1 : (a0 == 1) = true) (hr : Reads (⟨#[43]⟩ ++ a1 ++ ⟨#[46]⟩ ++ a2) a1 a2 true) :
    Calls Try.prog 7 #[.int .u8 a0, .string a1, .string a2, .bool true] w fun e w' => e = .returned (.bool true) ∧ w' = w := by
  go_enter Try.func7, Try.ntmps7
  go_wp2_with fail
  refine (f18_any _ _ _ _ _ w1 w2).mono ?_
  rw [hf.out]
  rintro e w' ⟨rfl, rfl⟩
  go_wp2_with fail
  refine (f16_any _ _ w1).mono ?_
  rw [hd1.out]
  rintro e w' ⟨rfl, rfl⟩
  go_wp2_with fail
  refine (f16_any _ _ w2).mono ?_
  rw [hd2.out]
  rintro e w' ⟨rfl, rfl⟩
  go_wp2_with fail
  refine (hr _).mono ?_
  rintro e w' ⟨rfl, rfl⟩
  go_wp2
  go_ret
  exact ⟨rfl, rfl⟩

set_option maxHeartbeats 1000000 in
theorem f7_m2w (a0 : Int) (a1 : ByteArray) (a2 : ByteArray) (w : World) (w0 : 0 ≤ a0) (w0' : a0 ≤ 255) (w1 : a1.size ≤ maxLen) (w2 : a2.size ≤ maxLen)
    (hf : Hid (fits a1 a2 = true)) (h1 : a1.size ≤ 524288) (h2 : a2.size ≤ 524288) (h0 : a0 ≤ 2) (he : a1.toList.isEmpty = false) (hd1 : Hid (allD a1 = true)) (hd2 : Hid (allD a2 = true)) (he2 : a2.toList.isEmpty = true) (hs1 : (a0 == 1) = false) (hs2 : (a0 == 2) = true) (hr : Reads (⟨#[45]⟩ ++ a1) a1 a2 false) :
    Calls Try.prog 7 #[.int .u8 a0, .string a1, .string a2, .bool false] w fun e w' => e = .returned (.bool true) ∧ w' = w := by
  go_enter Try.func7, Try.ntmps7
  go_wp2_with fail
  refine (f18_any _ _ _ _ _ w1 w2).mono ?_
  rw [hf.out]
  rintro e w' ⟨rfl, rfl⟩
  go_wp2_with fail
  refine (f16_any _ _ w1).mono ?_
  rw [hd1.out]
  rintro e w' ⟨rfl, rfl⟩
  go_wp2_with fail
  refine (f16_any _ _ w2).mono ?_
  rw [hd2.out]
  rintro e w' ⟨rfl, rfl⟩
  go_wp2_with fail
  refine (hr _).mono ?_
  rintro e w' ⟨rfl, rfl⟩
  go_wp2
  go_ret
  exact ⟨rfl, rfl⟩

set_option maxHeartbeats 1000000 in
theorem f7_m2p (a0 : Int) (a1 : ByteArray) (a2 : ByteArray) (w : World) (w0 : 0 ≤ a0) (w0' : a0 ≤ 255) (w1 : a1.size ≤ maxLen) (w2 : a2.size ≤ maxLen)
    (hf : Hid (fits a1 a2 = true)) (h1 : a1.size ≤ 524288) (h2 : a2.size ≤ 524288) (h0 : a0 ≤ 2) (he : a1.toList.isEmpty = false) (hd1 : Hid (allD a1 = true)) (hd2 : Hid (allD a2 = true)) (he2 : a2.toList.isEmpty = false) (hs1 : (a0 == 1) = false) (hs2 : (a0 == 2) = true) (hr : Reads (⟨#[45]⟩ ++ a1 ++ ⟨#[46]⟩ ++ a2) a1 a2 true) :
    Calls Try.prog 7 #[.int .u8 a0, .string a1, .string a2, .bool true] w fun e w' => e = .returned (.bool true) ∧ w' = w := by
  go_enter Try.func7, Try.ntmps7
  go_wp2_with fail
  refine (f18_any _ _ _ _ _ w1 w2).mono ?_
  rw [hf.out]
  rintro e w' ⟨rfl, rfl⟩
  go_wp2_with fail
  refine (f16_any _ _ w1).mono ?_
  rw [hd1.out]
  rintro e w' ⟨rfl, rfl⟩
  go_wp2_with fail
  refine (f16_any _ _ w2).mono ?_
  rw [hd2.out]
  rintro e w' ⟨rfl, rfl⟩
  go_wp2_with fail
  refine (hr _).mono ?_
  rintro e w' ⟨rfl, rfl⟩
  go_wp2
  go_ret
  exact ⟨rfl, rfl⟩

theorem f7_all (a0 : Int) (a1 : ByteArray) (a2 : ByteArray) (a3 : Bool) (w : World) (w0 : 0 ≤ a0) (w0' : a0 ≤ 255) (w1 : a1.size ≤ maxLen) (w2 : a2.size ≤ maxLen) :
    Calls Try.prog 7 #[.int .u8 a0, .string a1, .string a2, .bool a3] w fun e w' => e = .returned (.bool true) ∧ w' = w := by
  by_cases hf : fits a1 a2 = true
  case neg => exact f7_a a0 a1 a2 a3 w w0 w0' w1 w2 (Bool.eq_false_iff.2 hf)
  by_cases h1 : a1.size ≤ 524288
  case neg => exact f7_b a0 a1 a2 a3 w w0 w0' w1 w2 hf (by omega)
  by_cases h2 : a2.size ≤ 524288
  case neg => exact f7_c a0 a1 a2 a3 w w0 w0' w1 w2 hf h1 (by omega)
  by_cases h0 : a0 ≤ 2
  case neg => exact f7_d a0 a1 a2 a3 w w0 w0' w1 w2 hf h1 h2 (by omega)
  cases he : a1.toList.isEmpty
  case true => exact f7_e a0 a1 a2 a3 w w0 w0' w1 w2 hf h1 h2 h0 he
  by_cases hd1 : allD a1 = true
  case neg => exact f7_f a0 a1 a2 a3 w w0 w0' w1 w2 hf h1 h2 h0 he (Bool.eq_false_iff.2 hd1)
  by_cases hd2 : allD a2 = true
  case neg => exact f7_g a0 a1 a2 a3 w w0 w0' w1 w2 hf h1 h2 h0 he hd1 (Bool.eq_false_iff.2 hd2)
  have hz1 : 0 < a1.size := size_of_nonempty he
  have hx : isD a1[0] = true := all_get hd1 0 hz1
  unfold maxLen at w1 w2
  cases he2 : a2.toList.isEmpty
  · have hz2 : 0 < a2.size := size_of_nonempty he2
    cases a3
    · exact f7_h1 a0 a1 a2 w w0 w0' w1 w2 hf h1 h2 h0 he hd1 hd2 he2
    · have hsz : (a1 ++ ⟨#[46]⟩ ++ a2 : ByteArray).size = a1.size + 1 + a2.size := by rw [ByteArray.size_append, ByteArray.size_append]; rfl
      by_cases hs1 : a0 = 1
      · refine f7_m1p a0 a1 a2 w w0 w0' w1 w2 hf h1 h2 h0 he hd1 hd2 he2 (beq_iff_eq.2 hs1) ?_
        refine reads_point ?_ hd1 hz1 hd2 hz2 (by unfold maxLen; omega)
        have := uns_plus (a1 ++ ⟨#[46]⟩ ++ a2) (by unfold maxLen; omega)
        simpa only [ByteArray.append_assoc] using this
      by_cases hs2 : a0 = 2
      · refine f7_m2p a0 a1 a2 w w0 w0' w1 w2 hf h1 h2 h0 he hd1 hd2 he2 (beq_eq_false_iff_ne.2 hs1) (beq_iff_eq.2 hs2) ?_
        refine reads_point ?_ hd1 hz1 hd2 hz2 (by unfold maxLen; omega)
        have := uns_minus (a1 ++ ⟨#[46]⟩ ++ a2) (by unfold maxLen; omega)
        simpa only [ByteArray.append_assoc] using this
      · refine f7_m0p a0 a1 a2 w w0 w0' w1 w2 hf h1 h2 h0 he hd1 hd2 he2 (beq_eq_false_iff_ne.2 hs1) (beq_eq_false_iff_ne.2 hs2) ?_
        refine reads_point ?_ hd1 hz1 hd2 hz2 (by unfold maxLen; omega)
        refine uns_none _ (by omega) ?_
        rw [ByteArray.getElem_append_left (by rw [ByteArray.size_append]; exact Nat.lt_of_lt_of_le hz1 (Nat.le_add_right _ _)), ByteArray.getElem_append_left hz1]
        exact hx
  · have ea : a2 = ⟨#[]⟩ := by
      apply ba_ext
      rw [toList_eq] at he2
      simpa using he2
    cases a3
    · by_cases hs1 : a0 = 1
      · refine f7_m1w a0 a1 a2 w w0 w0' w1 w2 hf h1 h2 h0 he hd1 hd2 he2 (beq_iff_eq.2 hs1) ?_
        rw [ea]
        exact reads_whole (uns_plus a1 (by unfold maxLen; omega)) hd1 hz1 (by unfold maxLen; omega)
      by_cases hs2 : a0 = 2
      · refine f7_m2w a0 a1 a2 w w0 w0' w1 w2 hf h1 h2 h0 he hd1 hd2 he2 (beq_eq_false_iff_ne.2 hs1) (beq_iff_eq.2 hs2) ?_
        rw [ea]
        exact reads_whole (uns_minus a1 (by unfold maxLen; omega)) hd1 hz1 (by unfold maxLen; omega)
      · refine f7_m0w a0 a1 a2 w w0 w0' w1 w2 hf h1 h2 h0 he hd1 hd2 he2 (beq_eq_false_iff_ne.2 hs1) (beq_eq_false_iff_ne.2 hs2) ?_
        rw [ea]
        exact reads_whole (uns_none a1 hz1 hx) hd1 hz1 (by unfold maxLen; omega)
    · exact f7_h2 a0 a1 a2 w w0 w0' w1 w2 hf h1 h2 h0 he hd1 hd2 he2
end Go.Proofs.Qxb6001279a
