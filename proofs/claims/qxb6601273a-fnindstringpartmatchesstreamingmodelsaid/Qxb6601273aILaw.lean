import Derived.Test.Qxb6601273aIModel
import Derived.Test.Qxb6601273aMatch
import Derived.Test.Qxb6601273aIndD
namespace Go.Proofs.Qxb6601273a
set_option linter.unusedVariables false

/-- The model's outcome, as the string model's. -/
def IAns.m (R : IAns) : MAns := ⟨R.act, R.at_, R.text, R.fin⟩

/-- The answer at two quotes, from the model's side. -/
def iquo (bs : List UInt8) (p : Nat) (acc : List UInt8) : IAns :=
  if byteAt bs (p + 2) = 39 then ⟨2, p, acc, ⟨#[39, 39]⟩, (p : Int) + 3⟩
  else if byteAt bs (p + 2) = 36 then ⟨2, p, acc, ⟨#[36]⟩, (p : Int) + 3⟩
  else if byteAt bs (p + 2) = 92 then
    (if bs.length ≤ p + 3 then ⟨4, p, acc, ⟨#[]⟩, p⟩ else ⟨2, p, acc, Utf8.encode (unescI (byteAt bs (p + 3))), (p : Int) + 4⟩)
  else ⟨0, p, acc, ⟨#[]⟩, (p : Int) + 2⟩

/-- What the model answers, from what 'indStringPart' reads. -/
def iOf (bs : List UInt8) (R : Nat × Nat × List UInt8) (M : IAns) : Prop :=
  (R.1 = 0 ∧ R.2.1 + 1 < bs.length ∧ M = iquo bs R.2.1 R.2.2) ∨ (R.1 = 1 ∧ R.2.1 < bs.length ∧ M = ⟨1, (R.2.1 : Int), R.2.2, ⟨#[]⟩, (R.2.1 : Int) + 2⟩) ∨ (R.1 = 3 ∧ R.2.1 = bs.length ∧ M.act = 3 ∧ M.at_ = 0 ∧ M.fin = (bs.length : Int) ∧ M.esc = ⟨#[]⟩)

theorem imod_end {bs : List UInt8} {f p s q : Nat} {acc : List UInt8} (h : bs.length ≤ p) : imod bs f p s q acc = itail bs s q acc := by
  cases f with
  | zero => rfl
  | succ f => unfold imod; rw [if_pos h]

/-- Two quotes stand at p. -/
theorem imod_quo (bs : List UInt8) (p : Nat) (acc : List UInt8) (g : Nat) (h1 : p + 1 < bs.length) (hg : bs.length < g + (p + 2)) : imod bs g (p + 2) 2 p acc = iquo bs p acc := by
  by_cases h2 : bs.length ≤ p + 2
  · rw [imod_end h2]
    have hb : byteAt bs (p + 2) = 0 := byteAt_out h2
    unfold itail iquo
    rw [if_pos rfl, hb, if_neg (by decide), if_neg (by decide), if_neg (by decide)]
  · obtain ⟨g, rfl⟩ : ∃ g', g = g' + 1 := ⟨g - 1, by omega⟩
    have hm : imod bs (g + 1) (p + 2) 2 p acc = if byteAt bs (p + 2) = 39 then ⟨2, p, acc, ⟨#[39, 39]⟩, ((p + 2 : Nat) : Int) + 1⟩ else if byteAt bs (p + 2) = 36 then ⟨2, p, acc, ⟨#[36]⟩, ((p + 2 : Nat) : Int) + 1⟩ else if byteAt bs (p + 2) = 92 then imod bs g (p + 2 + 1) 3 p acc else ⟨0, p, acc, ⟨#[]⟩, (p : Int) + 2⟩ := by
      conv => lhs; unfold imod
      rw [if_neg h2, if_neg (by decide), if_pos rfl]
    rw [hm]
    unfold iquo
    have e3 : ((p + 2 : Nat) : Int) + 1 = (p : Int) + 3 := by omega
    rw [e3]
    by_cases k1 : byteAt bs (p + 2) = 39
    · rw [if_pos k1, if_pos k1]
    · rw [if_neg k1, if_neg k1]
      by_cases k2 : byteAt bs (p + 2) = 36
      · rw [if_pos k2, if_pos k2]
      · rw [if_neg k2, if_neg k2]
        by_cases k3 : byteAt bs (p + 2) = 92
        · rw [if_pos k3, if_pos k3]
          by_cases h3 : bs.length ≤ p + 3
          · rw [imod_end (by omega), if_pos h3]
            unfold itail
            rw [if_neg (by decide), if_pos rfl]
          · rw [if_neg h3]
            obtain ⟨g, rfl⟩ : ∃ g', g = g' + 1 := ⟨g - 1, by omega⟩
            unfold imod
            rw [if_neg (by omega), if_pos rfl]
            have e4 : ((p + 2 + 1 : Nat) : Int) + 1 = (p : Int) + 4 := by omega
            rw [e4]
        · rw [if_neg k3, if_neg k3]

theorem imodel_is (bs : List UInt8) : ∀ (f p : Nat) (acc : List UInt8) (g q : Nat), bs.length < f + p → bs.length < g + p → p ≤ bs.length → iOf bs (indScan bs f p acc) (imod bs g p 0 q acc) := by
  intro f
  induction f using Nat.strongRecOn with
  | _ f ih =>
    intro p acc g q hf hg hp
    have three : ∀ (f p : Nat) (acc acc' : List UInt8) (s q g : Nat), bs.length ≤ p → p = bs.length → 0 < f → s ≠ 2 → s ≠ 3 → iOf bs (indScan bs f p acc') (imod bs g p s q acc) := by
      intro f p acc acc' s q g h1 h2 h3 h4 h5
      obtain ⟨f, rfl⟩ : ∃ f', f = f' + 1 := ⟨f - 1, by omega⟩
      rw [ind_end h1, imod_end h1]
      unfold itail
      rw [if_neg h4, if_neg h5]
      exact .inr (.inr ⟨rfl, h2, rfl, rfl, rfl, rfl⟩)
    by_cases hend : bs.length ≤ p
    · exact three f p acc acc 0 q g hend (by omega) (by omega) (by decide) (by decide)
    · have hlt : p < bs.length := by omega
      obtain ⟨f, rfl⟩ : ∃ f', f = f' + 1 := ⟨f - 1, by omega⟩
      obtain ⟨g, rfl⟩ : ∃ g', g = g' + 1 := ⟨g - 1, by omega⟩
      have hm : imod bs (g + 1) p 0 q acc = if byteAt bs p = 39 then imod bs g (p + 1) 1 p acc else if byteAt bs p = 36 then imod bs g (p + 1) 4 p acc else imod bs g (p + 1) 0 q (acc ++ [atU bs p]) := by
        conv => lhs; unfold imod
        rw [if_neg hend, if_neg (by decide), if_neg (by decide), if_neg (by decide), if_neg (by decide)]
      rw [hm]
      by_cases k1 : byteAt bs p = 39
      · rw [if_pos k1]
        have ha : atU bs p = 39 := byteAt_eq_atU (c := 39) k1
        have hin : indInt bs p = false := by unfold indInt; simp [k1]
        have hdo : indDol bs p = false := by unfold indDol; simp [k1]
        by_cases h1 : p + 1 < bs.length
        · obtain ⟨g, rfl⟩ : ∃ g', g = g' + 1 := ⟨g - 1, by omega⟩
          have hm2 : imod bs (g + 1) (p + 1) 1 p acc = if byteAt bs (p + 1) = 39 then imod bs g (p + 1 + 1) 2 p acc else if byteAt bs (p + 1) = 36 then imod bs g (p + 1 + 1) 4 (p + 1) (acc ++ [39]) else imod bs g (p + 1 + 1) 0 p (acc ++ [39] ++ [atU bs (p + 1)]) := by
            conv => lhs; unfold imod
            rw [if_neg (by omega), if_neg (by decide), if_neg (by decide), if_neg (by decide), if_pos rfl]
          rw [hm2]
          by_cases k2 : byteAt bs (p + 1) = 39
          · have hst : indStop bs p = true := by unfold indStop; simp [k1, k2]
            rw [ind_stop hlt hst, if_pos k2]
            exact .inl ⟨rfl, h1, imod_quo bs p acc g h1 (by omega)⟩
          · have hst : indStop bs p = false := by unfold indStop; simp [k2]
            rw [ind_oth hlt hst hin hdo, if_neg k2, ha]
            have hm3 : imod bs (g + 1) (p + 1) 0 p (acc ++ [39]) = if byteAt bs (p + 1) = 36 then imod bs g (p + 1 + 1) 4 (p + 1) (acc ++ [39]) else imod bs g (p + 1 + 1) 0 p (acc ++ [39] ++ [atU bs (p + 1)]) := by
              conv => lhs; unfold imod
              rw [if_neg (by omega), if_neg (by decide), if_neg (by decide), if_neg (by decide), if_neg (by decide), if_neg k2]
            rw [← hm3]
            exact ih f (by omega) (p + 1) _ (g + 1) p (by omega) (by omega) (by omega)
        · have hb : byteAt bs (p + 1) = 0 := byteAt_out (by omega)
          have hst : indStop bs p = false := by unfold indStop; simp [hb]
          rw [ind_oth hlt hst hin hdo]
          exact three f (p + 1) acc _ 1 p g (by omega) (by omega) (by omega) (by decide) (by decide)
      · rw [if_neg k1]
        have hst : indStop bs p = false := by unfold indStop; simp [k1]
        by_cases k2 : byteAt bs p = 36
        · rw [if_pos k2]
          have ha : atU bs p = 36 := byteAt_eq_atU (c := 36) k2
          by_cases h1 : p + 1 < bs.length
          · obtain ⟨g, rfl⟩ : ∃ g', g = g' + 1 := ⟨g - 1, by omega⟩
            have hm2 : imod bs (g + 1) (p + 1) 4 p acc = if byteAt bs (p + 1) = 123 then ⟨1, p, acc, ⟨#[]⟩, ((p + 1 : Nat) : Int) + 1⟩ else if byteAt bs (p + 1) = 39 then imod bs g (p + 1 + 1) 1 (p + 1) (acc ++ [36]) else imod bs g (p + 1 + 1) 0 p (acc ++ [36] ++ [atU bs (p + 1)]) := by
              conv => lhs; unfold imod
              rw [if_neg (by omega), if_neg (by decide), if_neg (by decide), if_pos rfl]
            rw [hm2]
            by_cases k3 : byteAt bs (p + 1) = 123
            · have hin : indInt bs p = true := by unfold indInt; simp [k2, k3]
              rw [ind_int hlt hst hin, if_pos k3]
              refine .inr (.inl ⟨rfl, hlt, ?_⟩)
              have e2 : ((p + 1 : Nat) : Int) + 1 = (p : Int) + 2 := by omega
              rw [e2]
            · have hin : indInt bs p = false := by unfold indInt; simp [k3]
              rw [if_neg k3]
              by_cases k4 : byteAt bs (p + 1) = 39
              · have hdo : indDol bs p = false := by unfold indDol; simp [k4]
                rw [ind_oth hlt hst hin hdo, if_pos k4, ha]
                have hm3 : imod bs (g + 1) (p + 1) 0 p (acc ++ [36]) = imod bs g (p + 1 + 1) 1 (p + 1) (acc ++ [36]) := by
                  conv => lhs; unfold imod
                  rw [if_neg (by omega), if_neg (by decide), if_neg (by decide), if_neg (by decide), if_neg (by decide), if_pos k4]
                rw [← hm3]
                exact ih f (by omega) (p + 1) _ (g + 1) p (by omega) (by omega) (by omega)
              · have hdo : indDol bs p = true := by unfold indDol; simp [k2, k4, h1]
                rw [ind_dol hlt hst hin hdo, if_neg k4, ha, List.append_assoc]
                exact ih f (by omega) (p + 2) _ g p (by omega) (by omega) (by omega)
          · have hb : byteAt bs (p + 1) = 0 := byteAt_out (by omega)
            have hin : indInt bs p = false := by unfold indInt; simp [hb]
            have hdo : indDol bs p = false := by unfold indDol; rw [decide_eq_false h1, Bool.and_false]
            rw [ind_oth hlt hst hin hdo]
            exact three f (p + 1) acc _ 4 p g (by omega) (by omega) (by omega) (by decide) (by decide)
        · rw [if_neg k2]
          have hin : indInt bs p = false := by unfold indInt; simp [k2]
          have hdo : indDol bs p = false := by unfold indDol; simp [k2]
          rw [ind_oth hlt hst hin hdo]
          exact ih f (by omega) (p + 1) _ g q (by omega) (by omega) (by omega)

theorem indScan_small (bs : List UInt8) : ∀ (f p : Nat) (acc : List UInt8), p ≤ bs.length → acc.length ≤ p → (indScan bs f p acc).2.2.length ≤ bs.length := by
  intro f
  induction f with
  | zero => intro p acc hp ha; show acc.length ≤ _; omega
  | succ f ih =>
    intro p acc hp ha
    by_cases h0 : bs.length ≤ p
    · rw [ind_end h0]; show acc.length ≤ _; omega
    · have hlt : p < bs.length := by omega
      cases hst : indStop bs p
      · cases hin : indInt bs p
        · cases hdo : indDol bs p
          · rw [ind_oth hlt hst hin hdo]; exact ih (p + 1) _ (by omega) (by simp; omega)
          · rw [ind_dol hlt hst hin hdo]
            have : p + 1 < bs.length := by unfold indDol at hdo; simp at hdo; exact hdo.2
            exact ih (p + 2) _ (by omega) (by simp; omega)
        · rw [ind_int hlt hst hin]; show acc.length ≤ _; omega
      · rw [ind_stop hlt hst]; show acc.length ≤ _; omega

theorem imod_text (bs : List UInt8) : ∀ (f p s q : Nat) (acc : List UInt8), p ≤ bs.length → acc.length ≤ 2 * p → (imod bs f p s q acc).text.length ≤ 2 * bs.length := by
  intro f
  induction f with
  | zero => intro p s q acc hp ha; unfold imod itail; repeat' split
            all_goals (show acc.length ≤ _; omega)
  | succ f ih =>
    intro p s q acc hp ha
    unfold imod
    by_cases h0 : bs.length ≤ p
    · rw [if_pos h0]; unfold itail; repeat' split
      all_goals (show acc.length ≤ _; omega)
    · rw [if_neg h0]
      repeat' split
      all_goals first
        | (show acc.length ≤ _; omega)
        | exact ih _ _ _ _ (by omega) (by simp; omega)
        | exact ih _ _ _ _ (by omega) (by omega)

/-- indStringPart's answer is the model's. -/
theorem ind_fits (bs : List UInt8) (off : Nat) (os : List Op3) (o : Op3) (ho : off ≤ bs.length) :
    Fits (indAns bs (indScan bs (bs.length - off + 1) off []) off os o) (expectW (imod bs (bs.length - off + 1) off 0 0 []).m (imod bs (bs.length - off + 1) off 0 0 []).esc off 10) os o := by
  have h := imodel_is bs (bs.length - off + 1) off [] (bs.length - off + 1) 0 (by omega) (by omega) ho
  generalize indScan bs (bs.length - off + 1) off [] = R at *
  generalize imod bs (bs.length - off + 1) off 0 0 [] = M at *
  obtain ⟨r0, p, acc⟩ := R
  rcases h with ⟨h0, _, h1⟩ | ⟨h0, _, h1⟩ | ⟨h0, h1, h2, h3, h4, h5⟩
  · simp only at h0 h1
    subst h0 h1
    show Fits (quoAns bs p (litTok off acc) os o) _ os o
    unfold quoAns iquo
    by_cases k1 : byteAt bs (p + 2) = 39
    · rw [if_pos k1, if_pos k1]
      exact ⟨rfl, rfl, rfl, (fun h => by cases h), .inl ⟨rfl, rfl⟩⟩
    · rw [if_neg k1, if_neg k1]
      by_cases k2 : byteAt bs (p + 2) = 36
      · rw [if_pos k2, if_pos k2]
        exact ⟨rfl, rfl, rfl, (fun h => by cases h), .inl ⟨rfl, rfl⟩⟩
      · rw [if_neg k2, if_neg k2]
        by_cases k3 : byteAt bs (p + 2) = 92
        · rw [if_pos k3, if_pos k3]
          by_cases k4 : bs.length ≤ p + 3
          · rw [if_pos k4, if_pos k4]
            exact ⟨rfl, rfl, rfl, (fun _ => ⟨rfl, rfl⟩), .inl ⟨rfl, rfl⟩⟩
          · rw [if_neg k4, if_neg k4]
            exact ⟨rfl, rfl, rfl, (fun h => by cases h), .inl ⟨rfl, rfl⟩⟩
        · rw [if_neg k3, if_neg k3]
          exact ⟨rfl, rfl, rfl, (fun h => by cases h), .inr (.inl ⟨rfl, rfl⟩)⟩
  · simp only at h0 h1
    subst h0 h1
    exact ⟨rfl, rfl, rfl, (fun h => by cases h), .inr (.inr ⟨rfl, rfl⟩)⟩
  · simp only at h0 h1
    subst h0 h1
    unfold expectW
    rw [if_pos (show M.m.act = 3 from h2)]
    exact ⟨h4, rfl, rfl, (fun _ => ⟨rfl, rfl⟩), .inl ⟨rfl, rfl⟩⟩

/-- What the model hands over is small. -/
theorem imod_small (bs : List UInt8) (off : Nat) (ho : off ≤ bs.length) : ((imod bs (bs.length - off + 1) off 0 0 []).act = 0 ∨ (imod bs (bs.length - off + 1) off 0 0 []).act = 1 ∨ (imod bs (bs.length - off + 1) off 0 0 []).act = 2 ∨ (imod bs (bs.length - off + 1) off 0 0 []).act = 3 ∨ (imod bs (bs.length - off + 1) off 0 0 []).act = 4) ∧
    ((imod bs (bs.length - off + 1) off 0 0 []).act ≠ 3 → 0 ≤ (imod bs (bs.length - off + 1) off 0 0 []).at_ ∧ (imod bs (bs.length - off + 1) off 0 0 []).at_ ≤ (bs.length : Int)) ∧ (imod bs (bs.length - off + 1) off 0 0 []).text.length ≤ 2 * bs.length := by
  have h := imodel_is bs (bs.length - off + 1) off [] (bs.length - off + 1) 0 (by omega) (by omega) ho
  have ht := imod_text bs (bs.length - off + 1) off 0 0 [] ho (by simp)
  generalize indScan bs (bs.length - off + 1) off [] = R at *
  generalize imod bs (bs.length - off + 1) off 0 0 [] = M at *
  obtain ⟨r0, p, acc⟩ := R
  refine ⟨?_, ?_, ht⟩
  · rcases h with ⟨h0, _, h1⟩ | ⟨h0, _, h1⟩ | ⟨h0, h1, h2, h3, h4, h5⟩
    · rw [h1]; unfold iquo; repeat' split
      all_goals simp
    · rw [h1]; simp
    · rw [h2]; simp
  · intro hne
    rcases h with ⟨h0, hp, h1⟩ | ⟨h0, hp, h1⟩ | ⟨h0, h1, h2, h3, h4, h5⟩
    · have e : M.at_ = (p : Int) := by rw [h1]; unfold iquo; repeat' split
                                       all_goals rfl
      simp only at hp
      rw [e]; omega
    · have e : M.at_ = (p : Int) := by rw [h1]
      simp only at hp
      rw [e]; omega
    · exact absurd h2 hne
end Go.Proofs.Qxb6601273a
