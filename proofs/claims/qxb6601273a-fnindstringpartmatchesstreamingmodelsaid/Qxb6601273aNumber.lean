import Derived.Test.Qxb6601273aLexer
import Derived.Deep.DeepCutAuto
namespace Go.Proofs.Qxb6601273a
open Go.RowKit
set_option linter.unusedVariables false

theorem digEnd_ge (bs : List UInt8) (k : Nat) : k ≤ digEnd bs k := by unfold digEnd; omega
theorem digEnd_le (bs : List UInt8) (k : Nat) (h : k ≤ bs.length) : digEnd bs k ≤ bs.length := by
  unfold digEnd
  have := (List.takeWhile_sublist (l := bs.drop k) fun b => digB (b.toNat : Int)).length_le
  simp at this
  omega

/-- Is what begins at off, its digits ending at d, a float? -/
def floatB (bs : List UInt8) (off d : Nat) : Bool :=
  decide (byteAt bs d = 46) && ((decide (d ≠ off) && decide (byteAt bs off ≠ 48)) || ((decide (d = off) || (decide (d = off + 1) && decide (byteAt bs off = 48))) && digB (byteAt bs (d + 1))))
def isE (z : Int) : Bool := decide (z = 101) || decide (z = 69)
def isSign (z : Int) : Bool := decide (z = 43) || decide (z = 45)
def signEnd (bs : List UInt8) (q : Nat) : Nat := if isSign (byteAt bs q) = true then q + 1 else q
def expEnd (bs : List UInt8) (p : Nat) : Nat :=
  if isE (byteAt bs p) = true then (if digB (byteAt bs (signEnd bs (p + 1))) = true then digEnd bs (signEnd bs (p + 1)) else p) else p
def numEnd (bs : List UInt8) (off : Nat) : Nat :=
  if floatB bs off (digEnd bs off) = true then expEnd bs (digEnd bs (digEnd bs off + 1)) else digEnd bs off
def numKind (bs : List UInt8) (off : Nat) : Int := if floatB bs off (digEnd bs off) = true then 3 else 2

theorem ext_list (bs : List UInt8) (i j : Nat) : ((⟨bs.toArray⟩ : ByteArray).extract i j).data.toList = (bs.take j).drop i := by
  simp [List.drop_take]
theorem lead_nil {text : ByteArray} {bs : List UInt8} (ht : text = ⟨bs.toArray⟩) (off : Nat) : (text.extract off off).toList.isEmpty = true := by
  rw [ht, ByteArray.toList_eq, ext_list]; simp
theorem lead_pos {text : ByteArray} {bs : List UInt8} (ht : text = ⟨bs.toArray⟩) {off d : Nat} (h : off < d) (hd : d ≤ bs.length) :
    (text.extract off d).toList.isEmpty = false ∧ 0 < (text.extract off d).size ∧ ∀ h, (((text.extract off d)[0]'h).toNat : Int) = byteAt bs off := by
  have hl := ext_list bs off d
  rw [← ht] at hl
  have hz : (text.extract off d).size = d - off := by
    have : (text.extract off d).data.toList.length = d - off := by rw [hl]; simp; omega
    exact this
  refine ⟨?_, by omega, fun h0 => ?_⟩
  · rw [ByteArray.toList_eq, List.isEmpty_eq_false_iff, hl, ne_eq, List.drop_eq_nil_iff, List.length_take]; omega
  · rw [byteAt_in (by omega)]
    have e : (text.extract off d)[0] = (text.extract off d).data.toList[0]'(by exact h0) := rfl
    rw [e]
    have : (text.extract off d).data.toList[0]? = some bs[off] := by
      rw [hl, List.getElem?_drop, List.getElem?_take, if_pos (by omega)]
      simp
    rw [List.getElem?_eq_getElem (by exact h0)] at this
    simp only [Option.some.injEq] at this
    rw [this]
theorem lead_zero {text : ByteArray} {bs : List UInt8} (ht : text = ⟨bs.toArray⟩) {off d : Nat} (h : off < d) (hd : d ≤ bs.length) :
    ((text.extract off d).toList == [48]) = (decide (d = off + 1) && decide (byteAt bs off = 48)) := by
  rw [ByteArray.toList_eq, ht, ext_list]
  rw [Bool.eq_iff_iff]
  simp only [beq_iff_eq, Bool.and_eq_true, decide_eq_true_eq]
  rw [byteAt_in (by omega)]
  have e1 : (bs.take d).drop off = bs[off] :: (bs.take d).drop (off + 1) := by
    rw [List.drop_eq_getElem_cons (by simp; omega)]; simp
  rw [e1]
  simp only [List.cons.injEq, List.drop_eq_nil_iff, List.length_take]
  constructor
  · rintro ⟨h1, h2⟩
    exact ⟨by omega, by rw [h1]; rfl⟩
  · rintro ⟨h1, h2⟩
    exact ⟨UInt8.toNat_inj.1 (by have : ((48 : UInt8).toNat : Int) = 48 := rfl; omega), by omega⟩

theorem byteAt_lt {bs : List UInt8} {k : Nat} (h : byteAt bs k ≠ 0) : k < bs.length := by
  rcases Nat.lt_or_ge k bs.length with h1 | h1
  · exact h1
  · exact absurd (byteAt_out h1) h
theorem isE_lt {bs : List UInt8} {k : Nat} (h : isE (byteAt bs k) = true) : k < bs.length := byteAt_lt (by intro e; rw [e] at h; revert h; decide)
theorem isSign_lt {bs : List UInt8} {k : Nat} (h : isSign (byteAt bs k) = true) : k < bs.length := byteAt_lt (by intro e; rw [e] at h; revert h; decide)
theorem digB_lt {bs : List UInt8} {k : Nat} (h : digB (byteAt bs k) = true) : k < bs.length := byteAt_lt (by intro e; rw [e] at h; revert h; decide)
theorem floatB_lt {bs : List UInt8} {off d : Nat} (h : floatB bs off d = true) : d < bs.length := byteAt_lt (by
  intro e; unfold floatB at h; rw [e] at h; simp at h)
theorem signEnd_ge (bs : List UInt8) (q : Nat) : q ≤ signEnd bs q := by unfold signEnd; split <;> omega
theorem signEnd_le (bs : List UInt8) (q : Nat) (h : q ≤ bs.length) : signEnd bs q ≤ bs.length := by
  unfold signEnd
  split
  · rename_i hs; exact isSign_lt hs
  · exact h

theorem expEnd_ge (bs : List UInt8) (p : Nat) : p ≤ expEnd bs p := by
  unfold expEnd
  have h1 := signEnd_ge bs (p + 1)
  have h2 := digEnd_ge bs (signEnd bs (p + 1))
  split
  · split <;> omega
  · omega
theorem expEnd_le (bs : List UInt8) (p : Nat) (h : p ≤ bs.length) : expEnd bs p ≤ bs.length := by
  unfold expEnd
  split
  · rename_i hE
    have := isE_lt hE
    split
    · exact digEnd_le bs _ (signEnd_le bs _ (by omega))
    · exact h
  · exact h

/-- What the lexer holds behind 'number'. -/
def NumPost (w : World) (L off : Nat) (v ov : Value) (bs : List UInt8) (text : ByteArray) (e : Ending) (w' : World) : Prop :=
  e = .returned (.tuple #[]) ∧ ∃ g cap, Blk w' L 66 (lexC v text (numEnd bs off : Nat) (.slice (some ⟨g, 0, none⟩) 1 cap) ov) ∧
    w'.ownsRow w.heap.size 71 3 (.slice (some ⟨g, 0, none⟩) 1 cap) 1 [.string (text.extract off (numEnd bs off)), .int .i32 off, .int .u8 (numKind bs off)] ∧ Keep [L] w w'

set_option maxRecDepth 100000 in
set_option maxHeartbeats 2000000 in
theorem f33_any (L off : Nat) (v ov : Value) (bs : List UInt8) (text : ByteArray) (w : World) (hL : Blk w L 66 (lexC v text off (.slice none 0 0) ov)) (hs : Src w v bs) (ht : Hid (text = ⟨bs.toArray⟩))
    (ho : off ≤ bs.length) (hn : bs.length ≤ 10000000) :
    Calls Try.prog 33 #[.pointer (some ⟨L, 0, none⟩)] w (NumPost w L off v ov bs text) := by
  have htz : text.size = bs.length := by rw [ht.out]; simp [ByteArray.size]
  have hlL := hL.lt
  have hX : Blk (w.alloc (.cells #[.pointer (some ⟨L, 0, none⟩)] 50)) w.heap.size 50 #[.pointer (some ⟨L, 0, none⟩)] := Blk.new w 50 _
  have hL1 := hL.alloc (.cells #[.pointer (some ⟨L, 0, none⟩)] 50)
  have hs1 : Src (w.alloc (.cells #[.pointer (some ⟨L, 0, none⟩)] 50)) v bs := (Keep.alloc [] _ _).src hs (by simp)
  have c2 : w.cell? ⟨L, 2, none⟩ = some (.int .i64 off) := hL.cell 2
  go_enter Try.func33, Try.ntmps33
  go_wp2_with fail
  refine (f42_any w.heap.size L off v _ ov text bs _ hX hL1 hs1 ho (by omega)).mono ?_
  rintro e w1 ⟨rfl, hL2, hK1⟩
  have hX2 := hK1.blk hX (by simp; omega)
  have hs2 := hK1.src hs1 (by intro g hg; have := hs.blk_ne hL (by decide) g hg; simpa using this)
  have hd1 := digEnd_ge bs off
  have hd2 := digEnd_le bs off ho
  have hK : Keep [L] w w1 := (Keep.alloc _ _ _).trans' hK1
  clear hX hL1 hs1 hK1 hs c2
  generalize hdd : digEnd bs off = d at *
  have Hdd : Hid (digEnd bs off = d) := hdd
  clear hdd
  have cX := hX2.cell 0
  have cL1 := hL2.cell 1
  have cL2 := hL2.cell 2
  simp only [List.getElem?_toArray, List.getElem?_cons_zero, List.getElem?_cons_succ] at cX cL1 cL2
  have b1 : (0 : Int) ≤ (off : Int) := by omega
  have b2 : (off : Int) ≤ (d : Int) := by omega
  have b3 : (d : Int) ≤ (text.size : Int) := by omega
  go_wp2_with fail
  go_quiet (fail)
  go_upto_region 5 with fail
  have cL0 := hL2.cell 0
  simp only [List.getElem?_toArray, List.getElem?_cons_zero] at cL0
  go_cut [4, 5] (fun ld fl wx => ld = .string (text.extract off d) ∧ fl = .bool (floatB bs off d) ∧ ∃ m, wx = w1.drewN m)
  case first =>
    go_wp2_with fail
    refine (peek0 L v bs d _ (by exact cL2) (by exact cL0) (by exact hs2.drewN _) (by omega) (by omega)).mono ?_
    rintro e w' ⟨rfl, m, rfl⟩
    by_cases hp : byteAt bs d = 46
    · have hpb : (byteAt bs d == 46) = true := beq_iff_eq.2 hp
      by_cases he : d = off
      · subst he
        have hle := lead_nil ht.out d
        have hfl : floatB bs d d = digB (byteAt bs (d + 1)) := by unfold floatB; simp [hp]
        have Hfl : Hid _ := hfl
        clear hfl hp
        go_wp2_with fail
        refine (peek1 L v bs d _ (by exact cL2) (by exact cL0) (by exact hs2.drewN _) (by omega) (by omega)).mono ?_
        rintro e w' ⟨rfl, m', rfl⟩
        go_wp2_with fail
        refine (f43_any _ _ (byteAt_range _ _).1 (byteAt_range _ _).2).mono ?_
        rintro e w' ⟨rfl, rfl⟩
        go_wp2_with fail
        go_meet
        case rel => exact ⟨by simp, by rw [Hfl.out], _, rfl⟩
      · obtain ⟨hq1, hq2, hqq⟩ := lead_pos ht.out (show off < d by omega) hd2
        have hq4 := lead_zero ht.out (show off < d by omega) hd2
        generalize text.extract off d = ld at *
        have hq3 := hqq hq2
        clear hqq
        by_cases hz : byteAt bs off = 48
        · have hqz : ((ld[0].toNat : Int) != 48) = false := by rw [hq3]; simp [hz]
          by_cases h1 : d = off + 1
          · have hq5 : (ld.toList == [48]) = true := by rw [hq4]; simp [h1, hz]
            have hfl : floatB bs off d = digB (byteAt bs (d + 1)) := by subst h1; unfold floatB; simp [hp, hz]
            have Hfl : Hid _ := hfl
            clear hfl hp hz hq4 hq3 h1 he
            go_wp2_with fail
            refine (peek1 L v bs d _ (by exact cL2) (by exact cL0) (by exact hs2.drewN _) (by omega) (by omega)).mono ?_
            rintro e w' ⟨rfl, m', rfl⟩
            go_wp2_with fail
            refine (f43_any _ _ (byteAt_range _ _).1 (byteAt_range _ _).2).mono ?_
            rintro e w' ⟨rfl, rfl⟩
            go_wp2_with fail
            go_meet
            case rel => exact ⟨rfl, by rw [Hfl.out], _, rfl⟩
          · have hq5 : (ld.toList == [48]) = false := by rw [hq4]; simp [h1]
            have hfl : floatB bs off d = false := by unfold floatB; simp [hz, h1, he]
            have Hfl : Hid _ := hfl
            clear hfl hp hz hq4 hq3 h1 he
            go_wp2_with fail
            go_meet
            case rel => exact ⟨rfl, by rw [Hfl.out], _, rfl⟩
        · have hqz : ((ld[0].toNat : Int) != 48) = true := by rw [hq3]; simp [hz]
          have hfl : floatB bs off d = true := by unfold floatB; simp [hp, hz, he]
          have Hfl : Hid _ := hfl
          clear hfl hp hz hq4 hq3 he
          go_wp2_with fail
          go_meet
          case rel => exact ⟨rfl, by rw [Hfl.out], _, rfl⟩
    · have hpb : (byteAt bs d == 46) = false := beq_eq_false_iff_ne.2 hp
      have hfl : floatB bs off d = false := by unfold floatB; simp [hp]
      have Hfl : Hid _ := hfl
      clear hfl hp
      go_wp2_with fail
      go_meet
      case rel => exact ⟨rfl, by rw [Hfl.out], _, rfl⟩
  case rest =>
    obtain ⟨rfl, rfl, m, rfl⟩ := hcut
    have hL3 := hL2.drewN m
    have hX3 := hX2.drewN m
    have hs3 := hs2.drewN m
    have hK3 : Keep [L] w (w1.drewN m) := hK.trans' (Keep.drewN _ _ _)
    clear hL2 hX2 hs2 hK cX cL1 cL2 cL0
    generalize w1.drewN m = w2 at *
    cases hfl : floatB bs off d
    · have cX := hX3.cell 0
      simp only [List.getElem?_toArray, List.getElem?_cons_zero] at cX
      have fin : ∀ w', (∃ g cap, Blk w' L 66 (lexC v text d (.slice (some ⟨g, 0, none⟩) (0 + 1) cap) ov) ∧ w'.ownsRow w.heap.size 71 3 (.slice (some ⟨g, 0, none⟩) (0 + 1) cap) (0 + 1) ([] ++ [.string (text.extract off d), .int .i32 off, .int .u8 2]) ∧ Keep [L] w2 w') → NumPost w L off v ov bs text (.returned (.tuple #[])) w' := by
        rintro w' ⟨g, cap, h1, h2, h3⟩
        have e1 : numEnd bs off = d := by unfold numEnd; rw [Hdd.out, hfl]; rfl
        have e2 : numKind bs off = 2 := by unfold numKind; rw [Hdd.out, hfl]; rfl
        refine ⟨rfl, g, cap, ?_, ?_, hK3.trans' h3⟩
        · rw [e1]; exact h1
        · rw [e1, e2]; exact h2
      have Hfin : Hid _ := fin
      clear fin
      go_wp2_with fail
      refine (f45_any L w.heap.size 0 v _ ov text _ _ _ _ [] _ hL3 (World.ownsRow_nil _ _ _ _) ?_ (by omega) (by omega) (by omega) (by omega) (by omega)).mono ?_
      · exact hK3.size
      rintro e w' ⟨rfl, g, cap, h1, h2, h3, _⟩
      have hf := Hfin.out w' ⟨g, cap, h1, h2, h3⟩
      clear h1 h2 h3
      go_wp2_with fail
      go_end0
      exact hf
    · have hdl := floatB_lt hfl
      have cX := hX3.cell 0
      have cL2 := hL3.cell 2
      have fL2 := hL3.free 2
      simp only [List.getElem?_toArray, List.getElem?_cons_zero, List.getElem?_cons_succ] at cX cL2
      have hL4 : Blk (w2.setCell ⟨L, 2, none⟩ (.int .i64 ((d : Int) + 1))) L 66 (lexC v text ((d + 1 : Nat) : Int) (.slice none 0 0) ov) := hL3.setOff _
      have hX4 : Blk (w2.setCell ⟨L, 2, none⟩ (.int .i64 ((d : Int) + 1))) w.heap.size 50 #[.pointer (some ⟨L, 0, none⟩)] := hX3.other _ _ (by show w.heap.size ≠ L; omega)
      have hgne := hs3.blk_ne hL3 (by decide)
      have hs4 : Src (w2.setCell ⟨L, 2, none⟩ (.int .i64 ((d : Int) + 1))) v bs := (Keep.setCell (S := [L]) _ _ _ (by simp)).src hs3 (by intro g hg; have := hgne g hg; simpa using this)
      have hK4 : Keep [L] w (w2.setCell ⟨L, 2, none⟩ (.int .i64 ((d : Int) + 1))) := hK3.trans' (Keep.setCell _ _ _ (by simp))
      clear hL3 hX3 hs3 hK3
      go_wp2_with fail
      refine (f42_any w.heap.size L (d + 1) v _ ov text bs _ hX4 hL4 hs4 (by omega) (by omega)).mono ?_
      rintro e w3 ⟨rfl, hL5, hK5⟩
      have hX5 := hK5.blk hX4 (by simp; omega)
      have hs5 := hK5.src hs4 (by intro g hg; have := hgne g hg; simpa using this)
      have hp1 := digEnd_ge bs (d + 1)
      have hp2 := digEnd_le bs (d + 1) (by omega)
      have hK : Keep [L] w w3 := hK4.trans' hK5
      clear hX4 hL4 hs4 hK4 hK5 cX cL2 fL2
      generalize hpp : digEnd bs (d + 1) = p at *
      have Hpp : Hid (digEnd bs (d + 1) = p) := hpp
      clear hpp
      have cX := hX5.cell 0
      have cL0 := hL5.cell 0
      have cL2 := hL5.cell 2
      simp only [List.getElem?_toArray, List.getElem?_cons_zero, List.getElem?_cons_succ] at cX cL0 cL2
      go_wp2_with fail
      refine (peek0 L v bs p _ (by exact cL2) (by exact cL0) (by exact hs5) (by omega) (by omega)).mono ?_
      rintro e w' ⟨rfl, m, rfl⟩
      have hL6 := hL5.drewN m
      have hX6 := hX5.drewN m
      have hs6 := hs5.drewN m
      have hK6 : Keep [L] w (w3.drewN m) := hK.trans' (Keep.drewN _ _ _)
      clear hL5 hX5 hs5 hK cX cL0 cL2
      generalize w3.drewN m = w4 at *
      go_upto_region 11 with fail
      go_cut [73] (fun b wx => b = .bool (isE (byteAt bs p)) ∧ w4 = wx)
      case first =>
        by_cases h1 : byteAt bs p = 101
        · have h1b : (byteAt bs p == 101) = true := beq_iff_eq.2 h1
          have hv : isE (byteAt bs p) = true := by unfold isE; simp [h1]
          have HV : Hid _ := hv
          clear hv h1
          go_wp2_with fail
          go_meet
          case rel => exact ⟨by rw [HV.out], rfl⟩
        · have h1b : (byteAt bs p == 101) = false := beq_eq_false_iff_ne.2 h1
          have hv : isE (byteAt bs p) = (byteAt bs p == 69) := by unfold isE; simp [h1]; rw [Bool.eq_iff_iff]; simp
          have HV : Hid _ := hv
          clear hv h1
          go_wp2_with fail
          go_meet
          case rel => exact ⟨by rw [HV.out], rfl⟩
      case rest =>
        obtain ⟨rfl, rfl⟩ := hcut
        go_upto_if 73 with fail
        go_cut [] (fun wx => Blk wx L 66 (lexC v text ((expEnd bs p : Nat) : Int) (.slice none 0 0) ov) ∧ Keep [L] w4 wx)
        case first =>
          cases hE : isE (byteAt bs p)
          · have e1 : expEnd bs p = p := by unfold expEnd; rw [hE]; rfl
            have r : Blk w4 L 66 (lexC v text ((expEnd bs p : Nat) : Int) (.slice none 0 0) ov) := by rw [e1]; exact hL6
            have HR : Hid _ := r
            clear r e1
            go_wp2_with fail
            go_meet
            case rel => exact ⟨HR.out, Keep.refl _ _⟩
          · have hpl := isE_lt hE
            have cX := hX6.cell 0
            have cL2 := hL6.cell 2
            have fL2 := hL6.free 2
            have cL0 := hL6.cell 0
            simp only [List.getElem?_toArray, List.getElem?_cons_zero, List.getElem?_cons_succ] at cX cL2 cL0
            have hLa : Blk (w4.setCell ⟨L, 2, none⟩ (.int .i64 ((p : Int) + 1))) L 66 (lexC v text ((p + 1 : Nat) : Int) (.slice none 0 0) ov) := hL6.setOff _
            have hXa : Blk (w4.setCell ⟨L, 2, none⟩ (.int .i64 ((p : Int) + 1))) w.heap.size 50 #[.pointer (some ⟨L, 0, none⟩)] := hX6.other _ _ (by show w.heap.size ≠ L; omega)
            have hsa : Src (w4.setCell ⟨L, 2, none⟩ (.int .i64 ((p : Int) + 1))) v bs := (Keep.setCell (S := [L]) _ _ _ (by simp)).src hs6 (by intro g hg; have := hgne g hg; simpa using this)
            have hKa : Keep [L] w4 (w4.setCell ⟨L, 2, none⟩ (.int .i64 ((p : Int) + 1))) := Keep.setCell _ _ _ (by simp)
            have c2a := hLa.cell 2
            have c0a := hLa.cell 0
            simp only [List.getElem?_toArray, List.getElem?_cons_zero, List.getElem?_cons_succ] at c2a c0a
            have Hc2a : Hid _ := c2a
            have Hc0a : Hid _ := c0a
            clear c2a c0a
            go_wp2_with fail
            refine (peek0 L v bs (p + 1) _ (by exact Hc2a.out) (by exact Hc0a.out) (by exact hsa) (by omega) (by omega)).mono ?_
            rintro e w' ⟨rfl, m, rfl⟩
            have hLb := hLa.drewN m
            have hXb := hXa.drewN m
            have hsb := hsa.drewN m
            have hKb : Keep [L] w4 ((w4.setCell ⟨L, 2, none⟩ (.int .i64 ((p : Int) + 1))).drewN m) := hKa.trans' (Keep.drewN _ _ _)
            clear hLa hXa hsa hKa cX cL2 fL2 cL0 Hc2a Hc0a
            generalize (w4.setCell ⟨L, 2, none⟩ (.int .i64 ((p : Int) + 1))).drewN m = w5 at *
            go_upto_region 15 with fail
            go_cut [92] (fun b wx => b = .bool (isSign (byteAt bs (p + 1))) ∧ w5 = wx)
            case first =>
              by_cases h1 : byteAt bs (p + 1) = 43
              · have h1b : (byteAt bs (p + 1) == 43) = true := beq_iff_eq.2 h1
                have hv : isSign (byteAt bs (p + 1)) = true := by unfold isSign; simp [h1]
                have HV : Hid _ := hv
                clear hv h1
                go_wp2_with fail
                go_meet
                case rel => exact ⟨by rw [HV.out], rfl⟩
              · have h1b : (byteAt bs (p + 1) == 43) = false := beq_eq_false_iff_ne.2 h1
                have hv : isSign (byteAt bs (p + 1)) = (byteAt bs (p + 1) == 45) := by unfold isSign; simp [h1]; rw [Bool.eq_iff_iff]; simp
                have HV : Hid _ := hv
                clear hv h1
                go_wp2_with fail
                go_meet
                case rel => exact ⟨by rw [HV.out], rfl⟩
            case rest =>
              obtain ⟨rfl, rfl⟩ := hcut
              go_upto_if 92 with fail
              go_cut [] (fun wx => Blk wx L 66 (lexC v text ((signEnd bs (p + 1) : Nat) : Int) (.slice none 0 0) ov) ∧ Keep [L] w5 wx)
              case first =>
                cases hS : isSign (byteAt bs (p + 1))
                · have e1 : signEnd bs (p + 1) = p + 1 := by unfold signEnd; rw [hS]; rfl
                  have r : Blk w5 L 66 (lexC v text ((signEnd bs (p + 1) : Nat) : Int) (.slice none 0 0) ov) := by rw [e1]; exact hLb
                  have HR : Hid _ := r
                  clear r e1
                  go_wp2_with fail
                  go_meet
                  case rel => exact ⟨HR.out, Keep.refl _ _⟩
                · have hql := isSign_lt hS
                  have cX := hXb.cell 0
                  have cL2 := hLb.cell 2
                  have fL2 := hLb.free 2
                  simp only [List.getElem?_toArray, List.getElem?_cons_zero, List.getElem?_cons_succ] at cX cL2
                  have e1 : ((signEnd bs (p + 1) : Nat) : Int) = ((p + 1 : Nat) : Int) + 1 := by unfold signEnd; rw [hS, if_pos rfl]; omega
                  have r : Blk (w5.setCell ⟨L, 2, none⟩ (.int .i64 (((p + 1 : Nat) : Int) + 1))) L 66 (lexC v text ((signEnd bs (p + 1) : Nat) : Int) (.slice none 0 0) ov) := by rw [e1]; exact hLb.setOff _
                  have HR : Hid _ := r
                  clear r e1
                  go_wp2_with fail
                  go_meet
                  case rel => exact ⟨by exact HR.out, Keep.setCell _ _ _ (by simp)⟩
              case rest =>
                obtain ⟨hLq, hKq⟩ := hcut
                have hXq := hKq.blk hXb (by simp; omega)
                have hsq := hKq.src hsb (by intro g hg; have := hgne g hg; simpa using this)
                have hKq2 : Keep [L] w4 wc := hKb.trans' hKq
                have hq1 := signEnd_ge bs (p + 1)
                have hq2 := signEnd_le bs (p + 1) (by omega)
                have hexp : expEnd bs p = if digB (byteAt bs (signEnd bs (p + 1))) = true then digEnd bs (signEnd bs (p + 1)) else p := by unfold expEnd; rw [hE, if_pos rfl]
                have Hexp : Hid _ := hexp
                clear hLb hXb hsb hKb hexp hKq
                generalize signEnd bs (p + 1) = q at *
                have cX := hXq.cell 0
                have cL0 := hLq.cell 0
                have cL2 := hLq.cell 2
                simp only [List.getElem?_toArray, List.getElem?_cons_zero, List.getElem?_cons_succ] at cX cL0 cL2
                go_wp2_with fail
                refine (peek0 L v bs q _ (by exact cL2) (by exact cL0) (by exact hsq) (by omega) (by omega)).mono ?_
                rintro e w' ⟨rfl, m, rfl⟩
                go_wp2_with fail
                refine (f43_any _ _ (byteAt_range _ _).1 (byteAt_range _ _).2).mono ?_
                rintro e w' ⟨rfl, rfl⟩
                have hLr := hLq.drewN m
                have hXr := hXq.drewN m
                have hsr := hsq.drewN m
                have hKr : Keep [L] w4 (wc.drewN m) := hKq2.trans' (Keep.drewN _ _ _)
                clear hLq hXq hsq hKq2 cX cL0 cL2
                generalize wc.drewN m = w6 at *
                cases hD : digB (byteAt bs q)
                · have r : Blk (w6.setCell ⟨L, 2, none⟩ (.int .i64 (p : Int))) L 66 (lexC v text ((expEnd bs p : Nat) : Int) (.slice none 0 0) ov) := by rw [Hexp.out, hD]; exact hLr.setOff _
                  have r2 : Keep [L] w4 (w6.setCell ⟨L, 2, none⟩ (.int .i64 (p : Int))) := hKr.trans' (Keep.setCell _ _ _ (by simp))
                  have cX := hXr.cell 0
                  have cL2 := hLr.cell 2
                  have fL2 := hLr.free 2
                  simp only [List.getElem?_toArray, List.getElem?_cons_zero, List.getElem?_cons_succ] at cX cL2
                  have HR : Hid _ := r
                  clear r
                  go_wp2_with fail
                  go_meet
                  case rel => exact ⟨HR.out, r2⟩
                · go_wp2_with fail
                  refine (f42_any w.heap.size L q v _ ov text bs _ hXr hLr hsr (by omega) (by omega)).mono ?_
                  rintro e w7 ⟨rfl, h1, h2⟩
                  have r : Blk w7 L 66 (lexC v text ((expEnd bs p : Nat) : Int) (.slice none 0 0) ov) := by rw [Hexp.out, hD]; exact h1
                  have r2 : Keep [L] w4 w7 := hKr.trans' h2
                  have HR : Hid _ := r
                  clear r h1 h2
                  go_wp2_with fail
                  go_meet
                  case rel => exact ⟨HR.out, r2⟩
        case rest =>
          obtain ⟨hLz, hKz⟩ := hcut
          have hXz := hKz.blk hX6 (by simp; omega)
          have hKz2 : Keep [L] w wc := hK6.trans' hKz
          have e1 : numEnd bs off = expEnd bs p := by unfold numEnd; rw [Hdd.out, hfl, if_pos rfl, Hpp.out]
          have e2 : numKind bs off = 3 := by unfold numKind; rw [Hdd.out, hfl]; rfl
          have fin : ∀ w', (∃ g cap, Blk w' L 66 (lexC v text ((expEnd bs p : Nat) : Int) (.slice (some ⟨g, 0, none⟩) (0 + 1) cap) ov) ∧ w'.ownsRow w.heap.size 71 3 (.slice (some ⟨g, 0, none⟩) (0 + 1) cap) (0 + 1) ([] ++ [.string (text.extract off (expEnd bs p)), .int .i32 off, .int .u8 3]) ∧ Keep [L] w w') → NumPost w L off v ov bs text (.returned (.tuple #[])) w' := by
            rintro w' ⟨g, cap, h1, h2, h3⟩
            refine ⟨rfl, g, cap, ?_, ?_, h3⟩
            · rw [e1]; exact h1
            · rw [e1, e2]; exact h2
          have Hfin : Hid _ := fin
          clear fin e1 e2 hL6 hX6 hs6 hK6 hKz
          have hz1 : p ≤ expEnd bs p := expEnd_ge bs p
          have hz2 : expEnd bs p ≤ bs.length := expEnd_le bs p hp2
          generalize expEnd bs p = z at *
          have cX := hXz.cell 0
          have cL1 := hLz.cell 1
          have cL2 := hLz.cell 2
          simp only [List.getElem?_toArray, List.getElem?_cons_zero, List.getElem?_cons_succ] at cX cL1 cL2
          have b1 : (0 : Int) ≤ (off : Int) := by omega
          have b2 : (off : Int) ≤ (z : Int) := by omega
          have b3 : (z : Int) ≤ (text.size : Int) := by omega
          go_wp2_with fail
          go_region_held3 (fun w' => w'.cell? ⟨w.heap.size, 0, none⟩ = some (.pointer (some ⟨L, 0, none⟩)) ∧ w'.cell? ⟨L, 1, none⟩ = some (.string text) ∧ w'.cell? ⟨L, 2, none⟩ = some (.int .i64 z)) (go_keep)
            ((go_at_call 45; refine (f45_any L w.heap.size 0 v (.slice none 0 0) ov text (text.extract off z) z off 3 [] _ (by first | exact hLz.drew | exact hLz) (World.ownsRow_nil _ _ _ _) (by exact hKz2.size) (by omega) (by omega) (by omega) (by omega) (by omega)).mono ?_; rintro e w' ⟨rfl, g, cap, h1, h2, h3, _⟩; have hc1 := h1.cell 1; have hc2 := h1.cell 2; have hcX := h3.cell (a := ⟨w.heap.size, 0, none⟩) (v := .pointer (some ⟨L, 0, none⟩)) (by exact cX) (by simp [Value.ownBlock]; omega)))
          go_end0
          exact Hfin.out _ ⟨g, cap, h1, h2, (hKz2.trans' (Keep.drew _ _)).trans' h3⟩
end Go.Proofs.Qxb6601273a
