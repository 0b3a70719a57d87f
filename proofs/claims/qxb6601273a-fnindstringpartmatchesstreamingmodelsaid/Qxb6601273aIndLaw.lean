import Derived.Test.Qxb6601273aIndD
import Derived.Test.Qxb6601273aDec
namespace Go.Proofs.Qxb6601273a
set_option linter.unusedVariables false

/-- A text written as an indented string's body. -/
def encI : List UInt8 → List UInt8
  | [] => []
  | c :: t => (if c = 39 then [39, 39, 92, 39] else if c = 36 then [39, 39, 36] else [c]) ++ encI t

theorem encI_append (a b : List UInt8) : encI (a ++ b) = encI a ++ encI b := by
  induction a with
  | nil => rfl
  | cons c a ih => simp only [List.cons_append, encI, ih, List.append_assoc]
theorem encI_plain : ∀ (s : List UInt8), (∀ c ∈ s, c ≠ 39 ∧ c ≠ 36) → encI s = s
  | [], _ => rfl
  | c :: s, h => by
    have h1 := h c (by simp)
    simp only [encI, if_neg h1.1, if_neg h1.2, encI_plain s (fun x hx => h x (by simp [hx])), List.cons_append, List.nil_append]
theorem encI_len (t : List UInt8) : (encI t).length ≤ 4 * t.length := by
  induction t with
  | nil => simp [encI]
  | cons a t ih =>
    simp only [encI, List.length_append, List.length_cons]
    repeat' split
    all_goals simp; omega

theorem byteAt_mid0 (a b : List UInt8) : byteAt (a ++ b) a.length = byteAt b 0 := by
  have := byteAt_mid a b 0
  rwa [Nat.add_zero] at this
theorem atU_mid0 (a b : List UInt8) : atU (a ++ b) a.length = atU b 0 := by
  have := atU_mid a b 0
  rwa [Nat.add_zero] at this

theorem ind_plain : ∀ (s pre acc post : List UInt8) (f : Nat), (∀ c ∈ s, c ≠ 39 ∧ c ≠ 36) → s.length < f → indScan (pre ++ (s ++ (39 :: 39 :: post))) f pre.length acc = (0, pre.length + s.length, acc ++ s)
  | [], pre, acc, post, f, hs, hf => by
    obtain ⟨f, rfl⟩ : ∃ f', f = f' + 1 := ⟨f - 1, by omega⟩
    have h0 : byteAt (pre ++ ([] ++ (39 :: 39 :: post))) pre.length = 39 := by rw [byteAt_mid0]; rfl
    have h1 : byteAt (pre ++ ([] ++ (39 :: 39 :: post))) (pre.length + 1) = 39 := by rw [byteAt_mid]; rfl
    rw [ind_stop (by simp) (by unfold indStop; rw [h0, h1]; rfl)]
    simp
  | c :: s, pre, acc, post, f, hs, hf => by
    obtain ⟨f, rfl⟩ : ∃ f', f = f' + 1 := ⟨f - 1, by omega⟩
    have hc := hs c (by simp)
    have hb : byteAt (pre ++ (c :: s ++ (39 :: 39 :: post))) pre.length = (c.toNat : Int) := by rw [byteAt_mid0]; rfl
    have n1 : ((c.toNat : Nat) : Int) ≠ 39 := u8_ne (k := 39) hc.1
    have n2 : ((c.toNat : Nat) : Int) ≠ 36 := u8_ne (k := 36) hc.2
    rw [ind_oth (by simp) (by unfold indStop; rw [hb, decide_eq_false n1]; rfl) (by unfold indInt; rw [hb, decide_eq_false n2]; rfl) (by unfold indDol; rw [hb, decide_eq_false n2]; rfl)]
    have ha : atU (pre ++ (c :: s ++ (39 :: 39 :: post))) pre.length = c := by rw [atU_mid0]; rfl
    rw [ha]
    simp only [List.length_cons] at hf
    have ih := ind_plain s (pre ++ [c]) (acc ++ [c]) post f (fun x hx => hs x (by simp [hx])) (by omega)
    have e2 : pre ++ [c] ++ (s ++ (39 :: 39 :: post)) = pre ++ (c :: s ++ (39 :: 39 :: post)) := by simp
    have e3 : (pre ++ [c]).length = pre.length + 1 := by simp
    rw [e2, e3] at ih
    rw [ih]
    simp only [List.length_cons, List.append_assoc, List.cons_append, List.nil_append]
    congr 2; omega

theorem split_rest : ∀ (rest : List UInt8), ∃ s tl, rest = s ++ tl ∧ (∀ c ∈ s, c ≠ 39 ∧ c ≠ 36) ∧ (tl = [] ∨ ∃ c tl', tl = c :: tl' ∧ (c = 39 ∨ c = 36))
  | [] => ⟨[], [], rfl, by simp, .inl rfl⟩
  | c :: rest => by
    by_cases hc : c = 39 ∨ c = 36
    · exact ⟨[], c :: rest, rfl, by simp, .inr ⟨c, rest, rfl, hc⟩⟩
    · obtain ⟨s, tl, h1, h2, h3⟩ := split_rest rest
      refine ⟨c :: s, tl, by rw [h1]; rfl, ?_, h3⟩
      intro x hx
      rcases List.mem_cons.1 hx with rfl | hx
      · exact ⟨fun h => hc (.inl h), fun h => hc (.inr h)⟩
      · exact h2 x hx

/-- The call that meets the close. -/
theorem call_close (pre s : List UInt8) (hs : ∀ c ∈ s, c ≠ 39 ∧ c ≠ 36) :
    indAns (encI (pre ++ s) ++ [39, 39]) (indScan (encI (pre ++ s) ++ [39, 39]) ((encI (pre ++ s) ++ [39, 39]).length - (encI pre).length + 1) (encI pre).length []) (encI pre).length [] (0, 0, 0) =
      ⟨(encI (pre ++ s) ++ [39, 39]).length, litTok (encI pre).length s ++ [((⟨#[]⟩ : ByteArray), (((encI pre).length + s.length : Nat) : Int), 10)], [], false, 0, ⟨#[]⟩⟩ := by
  have e : encI (pre ++ s) ++ [39, 39] = encI pre ++ (s ++ (39 :: 39 :: [])) := by rw [encI_append, encI_plain s hs, List.append_assoc]
  rw [e]
  have h := ind_plain s (encI pre) [] [] ((encI pre ++ (s ++ (39 :: 39 :: []))).length - (encI pre).length + 1) hs (by simp; omega)
  rw [h]
  have h2 : byteAt (encI pre ++ (s ++ (39 :: 39 :: []))) ((encI pre).length + s.length + 2) = 0 := by
    rw [Nat.add_assoc, byteAt_mid, byteAt_mid]; rfl
  unfold indAns quoAns
  simp only [List.nil_append, if_true, h2]
  rw [if_neg (by decide), if_neg (by decide), if_neg (by decide)]
  simp only [List.length_append, List.length_cons, List.length_nil, Nat.zero_add, Nat.add_assoc]

/-- The call that meets an escape. -/
theorem call_esc (pre s tl : List UInt8) (c : UInt8) (hs : ∀ c ∈ s, c ≠ 39 ∧ c ≠ 36) (hc : c = 39 ∨ c = 36) :
    indAns (encI (pre ++ (s ++ c :: tl)) ++ [39, 39]) (indScan (encI (pre ++ (s ++ c :: tl)) ++ [39, 39]) ((encI (pre ++ (s ++ c :: tl)) ++ [39, 39]).length - (encI pre).length + 1) (encI pre).length []) (encI pre).length [] (0, 0, 0) =
      ⟨(encI (pre ++ (s ++ [c]))).length, litTok (encI pre).length s ++ [((⟨#[c]⟩ : ByteArray), (((encI pre).length + s.length : Nat) : Int), 9)], [(0, 0, 0)], false, 0, ⟨#[]⟩⟩ := by
  rcases hc with rfl | rfl
  · have e : encI (pre ++ (s ++ 39 :: tl)) ++ [39, 39] = encI pre ++ (s ++ (39 :: 39 :: (92 :: 39 :: (encI tl ++ [39, 39])))) := by
      rw [encI_append, encI_append, encI_plain s hs]; simp [encI]
    have e' : (encI (pre ++ (s ++ [39]))).length = (encI pre).length + s.length + 4 := by
      rw [encI_append, encI_append, encI_plain s hs]; simp [encI, Nat.add_assoc]
    rw [e, e']
    have h := ind_plain s (encI pre) [] (92 :: 39 :: (encI tl ++ [39, 39])) ((encI pre ++ (s ++ (39 :: 39 :: (92 :: 39 :: (encI tl ++ [39, 39]))))).length - (encI pre).length + 1) hs (by simp; omega)
    rw [h]
    have h2 : byteAt (encI pre ++ (s ++ (39 :: 39 :: (92 :: 39 :: (encI tl ++ [39, 39]))))) ((encI pre).length + s.length + 2) = 92 := by
      rw [Nat.add_assoc, byteAt_mid, byteAt_mid]; rfl
    have h3 : byteAt (encI pre ++ (s ++ (39 :: 39 :: (92 :: 39 :: (encI tl ++ [39, 39]))))) ((encI pre).length + s.length + 3) = 39 := by
      rw [Nat.add_assoc, byteAt_mid, byteAt_mid]; rfl
    unfold indAns quoAns
    simp only [List.nil_append, if_true, h2, h3]
    rw [if_neg (by decide), if_neg (by decide), if_neg (by simp; omega)]
    rfl
  · have e : encI (pre ++ (s ++ 36 :: tl)) ++ [39, 39] = encI pre ++ (s ++ (39 :: 39 :: (36 :: (encI tl ++ [39, 39])))) := by
      rw [encI_append, encI_append, encI_plain s hs]; simp [encI]
    have e' : (encI (pre ++ (s ++ [36]))).length = (encI pre).length + s.length + 3 := by
      rw [encI_append, encI_append, encI_plain s hs]; simp [encI, Nat.add_assoc]
    rw [e, e']
    have h := ind_plain s (encI pre) [] (36 :: (encI tl ++ [39, 39])) ((encI pre ++ (s ++ (39 :: 39 :: (36 :: (encI tl ++ [39, 39]))))).length - (encI pre).length + 1) hs (by simp; omega)
    rw [h]
    have h2 : byteAt (encI pre ++ (s ++ (39 :: 39 :: (36 :: (encI tl ++ [39, 39]))))) ((encI pre).length + s.length + 2) = 36 := by
      rw [Nat.add_assoc, byteAt_mid, byteAt_mid]; rfl
    unfold indAns quoAns
    simp only [List.nil_append, if_true, h2]
    rw [if_neg (by decide)]
end Go.Proofs.Qxb6601273a
