import Derived.Test.Qxb6601273aAgrees
import Derived.Test.Qxb6601273aSLaw
namespace Go.Proofs.Qxb6601273a
open Go.RowKit
set_option linter.unusedVariables false

/-- The answer A is the expected one, M, at the openings os ++ [o]. -/
def Fits (A : Ans) (M : Want) (os : List Op3) (o : Op3) : Prop :=
  M.off = (A.off : Int) ∧ M.ts = A.ts ∧ M.er = A.er ∧ (A.er = true → A.eo = o.1 ∧ A.em = unterm) ∧ ((M.op = 0 ∧ A.os = os ++ [o]) ∨ (M.op = 1 ∧ A.os = os) ∨ (M.op = 2 ∧ A.os = os ++ [o] ++ [(M.push, 0, 0)]))

theorem getD_left {α : Type} (a b : List α) (d : α) {k : Nat} (h : k < a.length) : (a ++ b).getD k d = a.getD k d := by
  rw [List.getD_eq_getElem?_getD, List.getD_eq_getElem?_getD, List.getElem?_append_left h]
theorem getD_at {α : Type} (a : List α) (x d : α) : (a ++ [x]).getD a.length d = x := by
  rw [List.getD_eq_getElem?_getD]; simp

/-- agrees, where the answer fits. -/
theorem f27_fits (w : World) (r rw_ vo vk vb : Value) (A : Ans) (M : Want) (os : List Op3) (o : Op3) (B : Nat) (hF : Fits A M os o) (hO : OutIs w r (A.off : Int) A.ts A.os A.er A.eo A.em) (hW : WantIs w B rw_ M)
    (ho : RowAt w 3 vo (o1Cells (os ++ [o]))) (hk : RowAt w 3 vk (o2Cells (os ++ [o]))) (hb : RowAt w 3 vb (o3Cells (os ++ [o]))) (hm : os.length ≤ 100000) (hts : A.ts.length ≤ 1000000) :
    Calls Try.prog 27 #[r, rw_, vo, vk, vb] w fun e w' => e = .returned (.bool true) ∧ Keep [] w w' := by
  obtain ⟨Ao, At, As, Ae, Aeo, Aem⟩ := A
  obtain ⟨Mo, Mt, Mop, Mp, Me⟩ := M
  obtain ⟨h1, h2, h3, h4, h5⟩ := hF
  simp only at h1 h2 h3 h4 h5 hO hts
  subst h1 h2 h3
  obtain ⟨a, b, c, d, e, f, rfl, ha, hb', hc, hd, he, hf⟩ := hO
  obtain ⟨x, y, z, rfl, hx, hy, hz⟩ := hW
  simp only at hx hy hz ⊢
  have d0 : Tok := ((⟨#[]⟩ : ByteArray), 0, 0)
  have d3 : Op3 := (0, 0, 0)
  have hlen : (os ++ [o]).length = os.length + 1 := by simp
  have RF := f27_true w (Ao : Int) Aeo Mop Mp Me Aem Mt.length (os.length + 1) As.length (fun k => (Mt.getD k d0).2.2) (fun k => (Mt.getD k d0).2.1) (fun k => (Mt.getD k d0).1)
    (fun k => ((os ++ [o]).getD k d3).1) (fun k => ((os ++ [o]).getD k d3).2.1) (fun k => ((os ++ [o]).getD k d3).2.2) (fun k => (As.getD k d3).1) (fun k => (As.getD k d3).2.1) (fun k => (As.getD k d3).2.2)
    a b c d e f x y z vo vk vb (ha.rowF d0) (hb'.rowF d0) (hc.rowF d0) ((RowAt.of_owns hx).rowF d0) ((RowAt.of_owns hy).rowF d0) ((RowAt.of_owns hz).rowF d0) (hd.rowF d3) (he.rowF d3) (hf.rowF d3)
    (by rw [← hlen]; exact ho.rowF d3) (by rw [← hlen]; exact hk.rowF d3) (by rw [← hlen]; exact hb.rowF d3) (by omega) (by omega) hts
    (fun hE => by
      obtain ⟨e1, e2⟩ := h4 hE
      refine ⟨?_, e2⟩
      rw [e1, Nat.add_sub_cancel, getD_at])
    (by
      rcases h5 with ⟨e1, e2⟩ | ⟨e1, e2⟩ | ⟨e1, e2⟩
      · exact .inl ⟨e1, by rw [e2]; simp⟩
      · exact .inr (.inl ⟨e1, by rw [e2]⟩)
      · refine .inr (.inr ⟨e1, by rw [e2]; simp, ?_⟩)
        have : As.getD (os.length + 1) d3 = (Mp, 0, 0) := by rw [e2, ← hlen, getD_at]
        rw [this]
        exact ⟨rfl, rfl, rfl⟩)
    (by
      intro k hk1 hk2
      have : As.getD k d3 = (os ++ [o]).getD k d3 := by
        rcases h5 with ⟨_, e2⟩ | ⟨_, e2⟩ | ⟨_, e2⟩
        · rw [e2]
        · rw [e2, getD_left _ _ _ (by rw [← e2]; exact hk1)]
        · rw [e2, getD_left _ _ _ (by rw [hlen]; exact hk2)]
      rw [this]
      exact ⟨rfl, rfl, rfl⟩)
  exact RF

/-- stringPart's answer is the model's. -/
theorem str_fits (bs : List UInt8) (off : Nat) (os : List Op3) (o : Op3) (ho : off ≤ bs.length) :
    Fits (strAns (strScan bs (bs.length - off + 1) off []) off os o) (expectW (smod bs (bs.length - off + 1) off 0 []) ⟨#[]⟩ off 6) os o := by
  have h := model_is bs (bs.length - off + 1) off [] (bs.length - off + 1) (by omega) (by omega) ho (by simp)
  generalize strScan bs (bs.length - off + 1) off [] = R at *
  generalize smod bs (bs.length - off + 1) off 0 [] = M at *
  obtain ⟨r0, p, acc⟩ := R
  rcases h with ⟨h0, h1⟩ | ⟨h0, h1⟩ | ⟨h0, h1, h2, h3, h4, h5⟩
  · simp only at h0 h1
    subst h0 h1
    exact ⟨rfl, rfl, rfl, (fun h => by cases h), .inr (.inl ⟨rfl, rfl⟩)⟩
  · simp only at h0 h1
    subst h0 h1
    exact ⟨rfl, rfl, rfl, (fun h => by cases h), .inr (.inr ⟨rfl, rfl⟩)⟩
  · simp only at h0 h1
    subst h0 h1
    unfold expectW
    rw [if_pos h2]
    exact ⟨h4, rfl, rfl, fun _ => ⟨rfl, rfl⟩, .inl ⟨rfl, rfl⟩⟩
/-- What the model hands over is small. -/
theorem strScan_small (bs : List UInt8) : ∀ (f p : Nat) (acc : List UInt8), p ≤ bs.length → acc.length ≤ 2 * p → (strScan bs f p acc).2.1 ≤ bs.length ∧ (strScan bs f p acc).2.2.length ≤ 2 * bs.length := by
  intro f
  induction f with
  | zero => intro p acc hp ha; exact ⟨hp, by show acc.length ≤ _; omega⟩
  | succ f ih =>
    intro p acc hp ha
    by_cases h0 : bs.length ≤ p
    · rw [scan_end h0]; exact ⟨hp, by show acc.length ≤ _; omega⟩
    · have hlt : p < bs.length := by omega
      cases hst : stopB bs p
      · cases hes : escB bs p
        · cases hdo : dolB bs p
          · rw [scan_oth hlt hst hes hdo]
            exact ih (p + 1) _ (by omega) (by simp; omega)
          · rw [scan_dol hlt hst hes hdo]
            have : p + 1 < bs.length := by unfold dolB at hdo; simp at hdo; exact hdo.2
            exact ih (p + 2) _ (by omega) (by simp; omega)
        · rw [scan_esc hlt hst hes]
          have : p + 1 < bs.length := by unfold escB at hes; simp at hes; exact hes.2
          exact ih (p + 2) _ (by omega) (by simp; omega)
      · by_cases h1 : byteAt bs p = 34
        · rw [scan_close hlt hst h1]; exact ⟨hp, by show acc.length ≤ _; omega⟩
        · rw [scan_interp hlt hst h1]; exact ⟨hp, by show acc.length ≤ _; omega⟩
theorem smod_small (bs : List UInt8) (off : Nat) (ho : off ≤ bs.length) : ((smod bs (bs.length - off + 1) off 0 []).act = 0 ∨ (smod bs (bs.length - off + 1) off 0 []).act = 1 ∨ (smod bs (bs.length - off + 1) off 0 []).act = 2 ∨ (smod bs (bs.length - off + 1) off 0 []).act = 3 ∨ (smod bs (bs.length - off + 1) off 0 []).act = 4) ∧
    ((smod bs (bs.length - off + 1) off 0 []).act ≠ 3 → 0 ≤ (smod bs (bs.length - off + 1) off 0 []).at_ ∧ (smod bs (bs.length - off + 1) off 0 []).at_ ≤ (bs.length : Int)) ∧ (smod bs (bs.length - off + 1) off 0 []).text.length ≤ 2 * bs.length := by
  have h := model_is bs (bs.length - off + 1) off [] (bs.length - off + 1) (by omega) (by omega) ho (by simp)
  have hs := strScan_small bs (bs.length - off + 1) off [] ho (by simp)
  generalize strScan bs (bs.length - off + 1) off [] = R at *
  generalize smod bs (bs.length - off + 1) off 0 [] = M at *
  obtain ⟨r0, p, acc⟩ := R
  simp only at hs
  rcases h with ⟨h0, h1⟩ | ⟨h0, h1⟩ | ⟨h0, h1, h2, h3, h4, h5⟩
  · subst h1
    exact ⟨.inl rfl, fun _ => ⟨by show (0 : Int) ≤ (p : Int); omega, by show (p : Int) ≤ _; omega⟩, hs.2⟩
  · subst h1
    exact ⟨.inr (.inl rfl), fun _ => ⟨by show (0 : Int) ≤ (p : Int); omega, by show (p : Int) ≤ _; omega⟩, hs.2⟩
  · exact ⟨.inr (.inr (.inr (.inl h2))), fun h => absurd h2 h, h5⟩
end Go.Proofs.Qxb6601273a
