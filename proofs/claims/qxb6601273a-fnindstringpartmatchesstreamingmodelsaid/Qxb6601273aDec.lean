import Derived.Test.Qxb6601273aStrD
namespace Go.Proofs.Qxb6601273a
set_option linter.unusedVariables false

/-- A text written as a string literal's body. -/
def encS : List UInt8 → List UInt8
  | [] => []
  | c :: t => (if c = 34 ∨ c = 92 ∨ c = 36 then [92, c] else [c]) ++ encS t

theorem byteAt_mid (a b : List UInt8) (k : Nat) : byteAt (a ++ b) (a.length + k) = byteAt b k := by
  unfold byteAt
  rw [List.getD_eq_getElem?_getD, List.getD_eq_getElem?_getD, List.getElem?_append_right (by omega)]
  rw [show a.length + k - a.length = k from by omega]
theorem atU_mid (a b : List UInt8) (k : Nat) : atU (a ++ b) (a.length + k) = atU b k := by
  unfold atU
  rw [List.getD_eq_getElem?_getD, List.getD_eq_getElem?_getD, List.getElem?_append_right (by omega)]
  rw [show a.length + k - a.length = k from by omega]

theorem u8_ne {c k : UInt8} (h : c ≠ k) : ((c.toNat : Nat) : Int) ≠ ((k.toNat : Nat) : Int) := fun e => h (UInt8.toNat_inj.1 (by omega))

theorem scan_enc : ∀ (t pre acc : List UInt8) (f : Nat), (encS t).length < f → strScan (pre ++ (encS t ++ [34])) f pre.length acc = (0, pre.length + (encS t).length, acc ++ t)
  | [], pre, acc, f, hf => by
    obtain ⟨f, rfl⟩ : ∃ f', f = f' + 1 := ⟨f - 1, by omega⟩
    have hb : byteAt (pre ++ (encS [] ++ [34])) pre.length = 34 := by
      have := byteAt_mid pre (encS [] ++ [34]) 0
      rw [Nat.add_zero] at this
      rw [this]; rfl
    rw [scan_close (by simp [encS]) (by unfold stopB; rw [hb]; rfl) hb]
    simp [encS]
  | c :: t, pre, acc, f, hf => by
    obtain ⟨f, rfl⟩ : ∃ f', f = f' + 1 := ⟨f - 1, by omega⟩
    by_cases hc : c = 34 ∨ c = 92 ∨ c = 36
    · have e : encS (c :: t) = 92 :: c :: encS t := by simp [encS, hc]
      have hlen : (encS (c :: t)).length = (encS t).length + 2 := by rw [e]; simp
      rw [e]
      have hb : byteAt (pre ++ ((92 :: c :: encS t) ++ [34])) pre.length = 92 := by
        have := byteAt_mid pre ((92 :: c :: encS t) ++ [34]) 0
        rw [Nat.add_zero] at this
        rw [this]; rfl
      have hs : stopB (pre ++ ((92 :: c :: encS t) ++ [34])) pre.length = false := by unfold stopB; rw [hb]; simp
      have hes : escB (pre ++ ((92 :: c :: encS t) ++ [34])) pre.length = true := by unfold escB; rw [hb]; simp
      rw [scan_esc (by simp) hs hes]
      have ha : atU (pre ++ ((92 :: c :: encS t) ++ [34])) (pre.length + 1) = c := by rw [atU_mid]; rfl
      have hu : unescU c = c := by
        rcases hc with rfl | rfl | rfl <;> decide
      rw [ha, hu]
      have ih := scan_enc t (pre ++ [92, c]) (acc ++ [c]) f (by omega)
      have e2 : pre ++ [92, c] ++ (encS t ++ [34]) = pre ++ ((92 :: c :: encS t) ++ [34]) := by simp
      rw [e2] at ih
      have e3 : (pre ++ [92, c]).length = pre.length + 2 := by simp
      rw [e3] at ih
      rw [ih]
      simp only [List.length_cons, List.append_assoc, List.cons_append, List.nil_append]
      congr 2; omega
    · have e : encS (c :: t) = c :: encS t := by simp [encS, hc]
      have hlen : (encS (c :: t)).length = (encS t).length + 1 := by rw [e]; simp
      rw [e]
      have hb : byteAt (pre ++ ((c :: encS t) ++ [34])) pre.length = (c.toNat : Int) := by
        have := byteAt_mid pre ((c :: encS t) ++ [34]) 0
        rw [Nat.add_zero] at this
        rw [this]; rfl
      have n1 : ((c.toNat : Nat) : Int) ≠ 34 := u8_ne (k := 34) (fun h => hc (.inl h))
      have n2 : ((c.toNat : Nat) : Int) ≠ 92 := u8_ne (k := 92) (fun h => hc (.inr (.inl h)))
      have n3 : ((c.toNat : Nat) : Int) ≠ 36 := u8_ne (k := 36) (fun h => hc (.inr (.inr h)))
      have hs : stopB (pre ++ ((c :: encS t) ++ [34])) pre.length = false := by unfold stopB; rw [hb, decide_eq_false n1, decide_eq_false n3]; rfl
      have hes : escB (pre ++ ((c :: encS t) ++ [34])) pre.length = false := by unfold escB; rw [hb, decide_eq_false n2]; rfl
      have hd : dolB (pre ++ ((c :: encS t) ++ [34])) pre.length = false := by unfold dolB; rw [hb, decide_eq_false n3]; rfl
      rw [scan_oth (by simp) hs hes hd]
      have ha : atU (pre ++ ((c :: encS t) ++ [34])) pre.length = c := by
        have := atU_mid pre ((c :: encS t) ++ [34]) 0
        rw [Nat.add_zero] at this
        rw [this]; rfl
      rw [ha]
      have ih := scan_enc t (pre ++ [c]) (acc ++ [c]) f (by omega)
      have e2 : pre ++ [c] ++ (encS t ++ [34]) = pre ++ ((c :: encS t) ++ [34]) := by simp
      rw [e2] at ih
      have e3 : (pre ++ [c]).length = pre.length + 1 := by simp
      rw [e3] at ih
      rw [ih]
      simp only [List.length_cons, List.append_assoc, List.cons_append, List.nil_append]
      congr 2; omega
end Go.Proofs.Qxb6601273a
