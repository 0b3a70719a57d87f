import Derived.Test.Qxb6601273aStrD
import Derived.Test.Qxb6601273aZNum
namespace Go.Proofs.Qxb6601273a
open Go.RowKit
set_option linter.unusedVariables false

/-- The six words of the answer: off, tokens, openings, error, its place, its text. -/
structure Ans where
  off : Nat
  ts : List Tok
  os : List Op3
  er : Bool
  eo : Int
  em : ByteArray

def strAns (R : Nat × Nat × List UInt8) (off : Nat) (os : List Op3) (o : Op3) : Ans :=
  if R.1 = 0 then ⟨R.2.1 + 1, litTok off R.2.2 ++ [((⟨#[]⟩ : ByteArray), (R.2.1 : Int), 6)], os, false, 0, ⟨#[]⟩⟩
  else if R.1 = 1 then ⟨R.2.1 + 2, litTok off R.2.2 ++ [((⟨#[]⟩ : ByteArray), (R.2.1 : Int), 7)], os ++ [o] ++ [((R.2.1 : Int), 0, 0)], false, 0, ⟨#[]⟩⟩
  else ⟨R.2.1, [], os ++ [o], true, o.1, unterm⟩

/-- The lexer behind either reader of strings, and what it handed back. -/
def AnsPost (w : World) (L base : Nat) (v : Value) (text : ByteArray) (A : Ans) (e : Ending) (w' : World) : Prop :=
  Fr L base w w' ∧ LexIs w' L base v text (A.off : Int) A.ts A.os ∧ ∃ ep, e = .returned ep ∧ ((ep = .pointer none ∧ A.er = false ∧ A.eo = 0 ∧ A.em = ⟨#[]⟩) ∨ (A.er = true ∧ ∃ E, ep = .pointer (some ⟨E, 0, none⟩) ∧ Blk w' E 73 #[.int .i64 A.eo, .string A.em]))

theorem StrPost.ans {w : World} {L base off : Nat} {v : Value} {text : ByteArray} {os : List Op3} {o : Op3} {R : Nat × Nat × List UInt8} {e : Ending} {w' : World} (h : StrPost w L base off v text os o R e w') : AnsPost w L base v text (strAns R off os o) e w' := by
  obtain ⟨hF, h⟩ := h
  refine ⟨hF, ?_⟩
  unfold strAns
  rcases h with ⟨h0, he, hl⟩ | ⟨h0, he, hl⟩ | ⟨h0, hl, E, he, hE, _⟩
  · rw [if_pos h0]
    exact ⟨hl, _, he, .inl ⟨rfl, rfl, rfl, rfl⟩⟩
  · rw [if_neg (by omega), if_pos h0]
    exact ⟨hl, _, he, .inl ⟨rfl, rfl, rfl, rfl⟩⟩
  · rw [if_neg (by omega), if_neg (by omega)]
    exact ⟨hl, _, he, .inr ⟨rfl, E, rfl, hE⟩⟩

/-- The end of either 'ZZ..StringPart': the answer is stored and handed back. -/
theorem Fr.keep {L base : Nat} {w w1 w2 : World} (h : Fr L base w1 w2) (hk : Keep [] w w1) (hb : w.heap.size ≤ base) (hL : w.heap.size ≤ L) : Keep [] w w2 :=
  ⟨h.1.trans hk.os, h.2.1.trans hk.tape, h.2.2.1.trans hk.output, Nat.le_trans hk.size h.2.2.2.1, fun k h1 _ => (h.2.2.2.2.2 k (Nat.lt_of_lt_of_le h1 hk.size) (by omega) (by omega)).trans (hk.block k h1 (by simp))⟩

set_option maxRecDepth 100000 in
set_option maxHeartbeats 2000000 in
theorem f18_of (v vo vk vb : Value) (bs : List UInt8) (off : Nat) (os : List Op3) (o : Op3) (w : World) (hs : Src w v bs)
    (ho : RowAt w 3 vo ((os ++ [o]).map fun o => .int .i64 o.1)) (hk : RowAt w 3 vk ((os ++ [o]).map fun o => .int .i64 o.2.1)) (hb : RowAt w 3 vb ((os ++ [o]).map fun o => .int .i64 o.2.2))
    (hm : os.length ≤ 100000) (A : Ans) (hA1 : A.ts.length ≤ 1000000) (hA2 : A.os.length ≤ 1000000)
    (H : ∀ (L base : Nat) (w1 : World), LexIs w1 L base v ⟨bs.toArray⟩ off [] (os ++ [o]) → Src w1 v bs → base ≤ w1.heap.size → Calls Try.prog 36 #[.pointer (some ⟨L, 0, none⟩)] w1 (AnsPost w1 L base v ⟨bs.toArray⟩ A)) :
    Calls Try.prog 18 #[v, .int .i64 off, vo, vk, vb] w fun e w' => ∃ r, e = .returned r ∧ OutIs w' r (A.off : Int) A.ts A.os A.er A.eo A.em ∧ Keep [] w w' := by
  obtain ⟨Ao, At, As, Ae, Aeo, Aem⟩ := A
  simp only at hA1 hA2
  have kz := Keep.alloc [] w (.cells zeroOut 29)
  have hs0 := kz.src hs (by simp)
  have ho0 := kz.row ho (by simp)
  have hk0 := kz.row hk (by simp)
  have hb0 := kz.row hb (by simp)
  have hZ0 := Blk.new w 29 zeroOut
  have hsz : (w.alloc (.cells zeroOut 29)).heap.size = w.heap.size + 1 := by simp
  have Hsz : Hid _ := hsz
  have HH : Hid _ := H
  have HA1 : Hid _ := hA1
  have HA2 : Hid _ := hA2
  clear hsz hs ho hk hb H hA1 hA2
  go_enter Try.func18, Try.ntmps18
  go_wp2_with fail
  refine (f32_any v vo vk vb bs off (os ++ [o]) _ hs0 ho0 hk0 hb0 (by simp; omega)).mono ?_
  rintro e w1 ⟨L, ov, rfl, hL, hov, hLs, hK1⟩
  have hs1 := hK1.src hs0 (by simp)
  have hZ1 := hK1.blk hZ0 (by simp)
  rw [Hsz.out] at hLs hov
  have hKw : Keep [] w w1 := kz.trans' hK1
  have hbw : w.heap.size + 1 ≤ w1.heap.size := by have := hL.lt; omega
  have h36 := HH.out L (w.heap.size + 1) w1 ⟨_, ov, hL, World.ownsRow_nil _ _ _ _, hov⟩ hs1 hbw
  have H36 := hidden h36
  clear h36 HH hs0 ho0 hk0 hb0 hL hov hs1 hK1 kz hZ0
  go_wp2_with fail
  refine Calls.mono H36.out ?_
  rintro e w2 ⟨hF, hI, ep, rfl, hep⟩
  have hZ2 : Blk w2 w.heap.size 29 zeroOut := hF.2.2.2.2.1 _ _ _ hZ1 (by omega) (.inr ⟨by decide, by decide⟩)
  have hKw2 : Keep [] w w2 := hF.keep hKw (by omega) (by omega)
  obtain ⟨tv, ov, hL, htv, hov⟩ := hI
  have hepf : ∃ x, ep = .pointer x := by
    rcases hep with ⟨h, _⟩ | ⟨_, E, h, _⟩
    · exact ⟨_, h⟩
    · exact ⟨_, h⟩
  obtain ⟨ex, rfl⟩ := hepf
  have Hep := hidden hep
  have HZ2 := hidden hZ2
  clear hep H36 hF hZ1 hKw hZ2
  go_wp2_with fail
  refine (f34_any L v tv ov (.pointer ex) ⟨bs.toArray⟩ Ao At As Ae Aeo Aem (w.heap.size + 1) (w.heap.size + 1) _ hL htv hov HA1.out HA2.out Hep.out).mono ?_
  rintro e w3 ⟨r, rfl, hout, hK3⟩
  have hZ3 := hK3.blk HZ2.out (by simp)
  obtain ⟨n, hn⟩ : ∃ n, At.length = n := ⟨_, rfl⟩
  obtain ⟨m, hm'⟩ : ∃ m, As.length = m := ⟨_, rfl⟩
  obtain ⟨a0, a2, b0, b2, c0, c2, d0, d2, e0, e2, f0, f2, rfl⟩ := hout.form hn hm'
  obtain ⟨z0, z1, z2, z3, z4, z5, z6, z7, z8, z9⟩ := cells10 hZ3
  have hfz := hZ3.free
  have hKw3 : Keep [] w w3 := hKw2.trans' hK3
  clear Hep HZ2 hL htv hov hKw2 hK3 HA1 HA2
  have Hn := hidden hn
  have Hm := hidden hm'
  clear hn hm'
  have fin : ∀ W, Keep [w.heap.size] w3 W → OutIs W (.agg #[.int .i64 (Ao : Int), .slice a0 n a2, .slice b0 n b2, .slice c0 n c2, .slice d0 m d2, .slice e0 m e2, .slice f0 m f2, .bool Ae, .int .i64 Aeo, .string Aem]) (Ao : Int) At As Ae Aeo Aem ∧ Keep [] w W :=
    fun W hW => ⟨hout.after hW hZ3, hKw3.trans hW (by intro x hx; right; simp at hx; omega)⟩
  have Hfin := hidden fin
  have HZ := hidden hZ3
  clear fin hZ3 hout hKw3
  go_wp2
  obtain ⟨q, qk⟩ := ten_sets (w := w3) (b := w.heap.size) (t := 29) HZ.out (.int .i64 (Ao : Int)) (.slice a0 n a2) (.slice b0 n b2) (.slice c0 n c2) (.slice d0 m d2) (.slice e0 m e2) (.slice f0 m f2) (.bool Ae) (.int .i64 Aeo) (.string Aem)
  have hf := Hfin.out _ qk
  obtain ⟨q0, q1, q2, q3, q4, q5, q6, q7, q8, q9⟩ := cells10 q
  clear Hfin HZ qk q z0 z1 z2 z3 z4 z5 z6 z7 z8 z9
  generalize ((((((((((w3.setCell ⟨w.heap.size, 0, none⟩ (.int .i64 (Ao : Int))).setCell ⟨w.heap.size, 1, none⟩ (.slice a0 n a2)).setCell ⟨w.heap.size, 2, none⟩ (.slice b0 n b2)).setCell ⟨w.heap.size, 3, none⟩ (.slice c0 n c2)).setCell ⟨w.heap.size, 4, none⟩ (.slice d0 m d2)).setCell ⟨w.heap.size, 5, none⟩ (.slice e0 m e2)).setCell ⟨w.heap.size, 6, none⟩ (.slice f0 m f2)).setCell ⟨w.heap.size, 7, none⟩ (.bool Ae)).setCell ⟨w.heap.size, 8, none⟩ (.int .i64 Aeo)).setCell ⟨w.heap.size, 9, none⟩ (.string Aem)) = W at *
  refine bodyPost_ret (v := .agg #[.int .i64 (Ao : Int), .slice a0 n a2, .slice b0 n b2, .slice c0 n c2, .slice d0 m d2, .slice e0 m e2, .slice f0 m f2, .bool Ae, .int .i64 Aeo, .string Aem]) ?_ rfl ⟨_, rfl, hf⟩
  simp [results, Try.results18, go_sem, q0, q1, q2, q3, q4, q5, q6, q7, q8, q9]

set_option maxRecDepth 100000 in
set_option maxHeartbeats 2000000 in
theorem f20_of (v vo vk vb : Value) (bs : List UInt8) (off : Nat) (os : List Op3) (o : Op3) (w : World) (hs : Src w v bs)
    (ho : RowAt w 3 vo ((os ++ [o]).map fun o => .int .i64 o.1)) (hk : RowAt w 3 vk ((os ++ [o]).map fun o => .int .i64 o.2.1)) (hb : RowAt w 3 vb ((os ++ [o]).map fun o => .int .i64 o.2.2))
    (hm : os.length ≤ 100000) (A : Ans) (hA1 : A.ts.length ≤ 1000000) (hA2 : A.os.length ≤ 1000000)
    (H : ∀ (L base : Nat) (w1 : World), LexIs w1 L base v ⟨bs.toArray⟩ off [] (os ++ [o]) → Src w1 v bs → base ≤ w1.heap.size → Calls Try.prog 37 #[.pointer (some ⟨L, 0, none⟩)] w1 (AnsPost w1 L base v ⟨bs.toArray⟩ A)) :
    Calls Try.prog 20 #[v, .int .i64 off, vo, vk, vb] w fun e w' => ∃ r, e = .returned r ∧ OutIs w' r (A.off : Int) A.ts A.os A.er A.eo A.em ∧ Keep [] w w' := by
  obtain ⟨Ao, At, As, Ae, Aeo, Aem⟩ := A
  simp only at hA1 hA2
  have kz := Keep.alloc [] w (.cells zeroOut 29)
  have hs0 := kz.src hs (by simp)
  have ho0 := kz.row ho (by simp)
  have hk0 := kz.row hk (by simp)
  have hb0 := kz.row hb (by simp)
  have hZ0 := Blk.new w 29 zeroOut
  have hsz : (w.alloc (.cells zeroOut 29)).heap.size = w.heap.size + 1 := by simp
  have Hsz : Hid _ := hsz
  have HH : Hid _ := H
  have HA1 : Hid _ := hA1
  have HA2 : Hid _ := hA2
  clear hsz hs ho hk hb H hA1 hA2
  go_enter Try.func20, Try.ntmps20
  go_wp2_with fail
  refine (f32_any v vo vk vb bs off (os ++ [o]) _ hs0 ho0 hk0 hb0 (by simp; omega)).mono ?_
  rintro e w1 ⟨L, ov, rfl, hL, hov, hLs, hK1⟩
  have hs1 := hK1.src hs0 (by simp)
  have hZ1 := hK1.blk hZ0 (by simp)
  rw [Hsz.out] at hLs hov
  have hKw : Keep [] w w1 := kz.trans' hK1
  have hbw : w.heap.size + 1 ≤ w1.heap.size := by have := hL.lt; omega
  have h37 := HH.out L (w.heap.size + 1) w1 ⟨_, ov, hL, World.ownsRow_nil _ _ _ _, hov⟩ hs1 hbw
  have H37 := hidden h37
  clear h37 HH hs0 ho0 hk0 hb0 hL hov hs1 hK1 kz hZ0
  go_wp2_with fail
  refine Calls.mono H37.out ?_
  rintro e w2 ⟨hF, hI, ep, rfl, hep⟩
  have hZ2 : Blk w2 w.heap.size 29 zeroOut := hF.2.2.2.2.1 _ _ _ hZ1 (by omega) (.inr ⟨by decide, by decide⟩)
  have hKw2 : Keep [] w w2 := hF.keep hKw (by omega) (by omega)
  obtain ⟨tv, ov, hL, htv, hov⟩ := hI
  have hepf : ∃ x, ep = .pointer x := by
    rcases hep with ⟨h, _⟩ | ⟨_, E, h, _⟩
    · exact ⟨_, h⟩
    · exact ⟨_, h⟩
  obtain ⟨ex, rfl⟩ := hepf
  have Hep := hidden hep
  have HZ2 := hidden hZ2
  clear hep H37 hF hZ1 hKw hZ2
  go_wp2_with fail
  refine (f34_any L v tv ov (.pointer ex) ⟨bs.toArray⟩ Ao At As Ae Aeo Aem (w.heap.size + 1) (w.heap.size + 1) _ hL htv hov HA1.out HA2.out Hep.out).mono ?_
  rintro e w3 ⟨r, rfl, hout, hK3⟩
  have hZ3 := hK3.blk HZ2.out (by simp)
  obtain ⟨n, hn⟩ : ∃ n, At.length = n := ⟨_, rfl⟩
  obtain ⟨m, hm'⟩ : ∃ m, As.length = m := ⟨_, rfl⟩
  obtain ⟨a0, a2, b0, b2, c0, c2, d0, d2, e0, e2, f0, f2, rfl⟩ := hout.form hn hm'
  obtain ⟨z0, z1, z2, z3, z4, z5, z6, z7, z8, z9⟩ := cells10 hZ3
  have hfz := hZ3.free
  have hKw3 : Keep [] w w3 := hKw2.trans' hK3
  clear Hep HZ2 hL htv hov hKw2 hK3 HA1 HA2
  have Hn := hidden hn
  have Hm := hidden hm'
  clear hn hm'
  have fin : ∀ W, Keep [w.heap.size] w3 W → OutIs W (.agg #[.int .i64 (Ao : Int), .slice a0 n a2, .slice b0 n b2, .slice c0 n c2, .slice d0 m d2, .slice e0 m e2, .slice f0 m f2, .bool Ae, .int .i64 Aeo, .string Aem]) (Ao : Int) At As Ae Aeo Aem ∧ Keep [] w W :=
    fun W hW => ⟨hout.after hW hZ3, hKw3.trans hW (by intro x hx; right; simp at hx; omega)⟩
  have Hfin := hidden fin
  have HZ := hidden hZ3
  clear fin hZ3 hout hKw3
  go_wp2
  obtain ⟨q, qk⟩ := ten_sets (w := w3) (b := w.heap.size) (t := 29) HZ.out (.int .i64 (Ao : Int)) (.slice a0 n a2) (.slice b0 n b2) (.slice c0 n c2) (.slice d0 m d2) (.slice e0 m e2) (.slice f0 m f2) (.bool Ae) (.int .i64 Aeo) (.string Aem)
  have hf := Hfin.out _ qk
  obtain ⟨q0, q1, q2, q3, q4, q5, q6, q7, q8, q9⟩ := cells10 q
  clear Hfin HZ qk q z0 z1 z2 z3 z4 z5 z6 z7 z8 z9
  generalize ((((((((((w3.setCell ⟨w.heap.size, 0, none⟩ (.int .i64 (Ao : Int))).setCell ⟨w.heap.size, 1, none⟩ (.slice a0 n a2)).setCell ⟨w.heap.size, 2, none⟩ (.slice b0 n b2)).setCell ⟨w.heap.size, 3, none⟩ (.slice c0 n c2)).setCell ⟨w.heap.size, 4, none⟩ (.slice d0 m d2)).setCell ⟨w.heap.size, 5, none⟩ (.slice e0 m e2)).setCell ⟨w.heap.size, 6, none⟩ (.slice f0 m f2)).setCell ⟨w.heap.size, 7, none⟩ (.bool Ae)).setCell ⟨w.heap.size, 8, none⟩ (.int .i64 Aeo)).setCell ⟨w.heap.size, 9, none⟩ (.string Aem)) = W at *
  refine bodyPost_ret (v := .agg #[.int .i64 (Ao : Int), .slice a0 n a2, .slice b0 n b2, .slice c0 n c2, .slice d0 m d2, .slice e0 m e2, .slice f0 m f2, .bool Ae, .int .i64 Aeo, .string Aem]) ?_ rfl ⟨_, rfl, hf⟩
  simp [results, Try.results20, go_sem, q0, q1, q2, q3, q4, q5, q6, q7, q8, q9]

/-- What 'ZZStringPart' answers, for whatever it is handed. -/
def S18 : Prop := ∀ (v vo vk vb : Value) (bs : List UInt8) (off : Nat) (os : List Op3) (o : Op3) (w : World), Src w v bs → RowAt w 3 vo (o1Cells (os ++ [o])) → RowAt w 3 vk (o2Cells (os ++ [o])) → RowAt w 3 vb (o3Cells (os ++ [o])) →
  os.length ≤ 100000 → off ≤ bs.length → bs.length ≤ 10000000 →
  Calls Try.prog 18 #[v, .int .i64 off, vo, vk, vb] w fun e w' => ∃ r, e = .returned r ∧ OutIs w' r ((strAns (strScan bs (bs.length - off + 1) off []) off os o).off : Int) (strAns (strScan bs (bs.length - off + 1) off []) off os o).ts (strAns (strScan bs (bs.length - off + 1) off []) off os o).os
    (strAns (strScan bs (bs.length - off + 1) off []) off os o).er (strAns (strScan bs (bs.length - off + 1) off []) off os o).eo (strAns (strScan bs (bs.length - off + 1) off []) off os o).em ∧ Keep [] w w'

theorem litTok_length (off : Nat) (acc : List UInt8) : (litTok off acc).length ≤ 1 := by unfold litTok; split <;> simp
theorem strAns_small (R : Nat × Nat × List UInt8) (off : Nat) (os : List Op3) (o : Op3) (h : os.length ≤ 100000) : (strAns R off os o).ts.length ≤ 1000000 ∧ (strAns R off os o).os.length ≤ 1000000 := by
  have hl := litTok_length off R.2.2
  unfold strAns
  split
  · simp only [List.length_append, List.length_cons, List.length_nil]; omega
  · split
    · simp only [List.length_append, List.length_cons, List.length_nil]; omega
    · simp only [List.length_append, List.length_cons, List.length_nil]; omega
end Go.Proofs.Qxb6601273a
