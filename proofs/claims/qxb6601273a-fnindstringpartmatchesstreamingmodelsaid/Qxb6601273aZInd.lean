import Derived.Test.Qxb6601273aZStr
import Derived.Test.Qxb6601273aOutN
namespace Go.Proofs.Qxb6601273a
open Go.RowKit
set_option linter.unusedVariables false

set_option maxRecDepth 100000 in
set_option maxHeartbeats 2000000 in
theorem f20_new (v vo vk vb : Value) (bs : List UInt8) (off : Nat) (os : List Op3) (o : Op3) (w : World) (hs : Src w v bs)
    (ho : RowAt w 3 vo ((os ++ [o]).map fun o => .int .i64 o.1)) (hk : RowAt w 3 vk ((os ++ [o]).map fun o => .int .i64 o.2.1)) (hb : RowAt w 3 vb ((os ++ [o]).map fun o => .int .i64 o.2.2))
    (hm : os.length ≤ 100000) (A : Ans) (hA1 : A.ts.length ≤ 1000000) (hA2 : A.os.length ≤ 1000000)
    (H : ∀ (L base : Nat) (w1 : World), LexIs w1 L base v ⟨bs.toArray⟩ off [] (os ++ [o]) → Src w1 v bs → base ≤ w1.heap.size → Calls Try.prog 37 #[.pointer (some ⟨L, 0, none⟩)] w1 (AnsPost w1 L base v ⟨bs.toArray⟩ A)) :
    Calls Try.prog 20 #[v, .int .i64 off, vo, vk, vb] w fun e w' => ∃ r, e = .returned r ∧ OutIs w' r (A.off : Int) A.ts A.os A.er A.eo A.em ∧ Keep [] w w' ∧ NewIn w.heap.size r := by
  obtain ⟨Ao, At, As, Ae, Aeo, Aem⟩ := A
  simp only at hA1 hA2
  have kz := Keep.alloc [] w (.cells zeroOut 29)
  have hs0 := kz.src hs (by simp)
  have ho0 := kz.row ho (by simp)
  have hk0 := kz.row hk (by simp)
  have hb0 := kz.row hb (by simp)
  have hZ0 := Blk.new w 29 zeroOut
  have hsz : (w.alloc (.cells zeroOut 29)).heap.size = w.heap.size + 1 := by simp
  have Hsz : Hid _ := hsz
  have HH : Hid _ := H
  have HA1 : Hid _ := hA1
  have HA2 : Hid _ := hA2
  clear hsz hs ho hk hb H hA1 hA2
  go_enter Try.func20, Try.ntmps20
  go_wp2_with fail
  refine (f32_any v vo vk vb bs off (os ++ [o]) _ hs0 ho0 hk0 hb0 (by simp; omega)).mono ?_
  rintro e w1 ⟨L, ov, rfl, hL, hov, hLs, hK1⟩
  have hs1 := hK1.src hs0 (by simp)
  have hZ1 := hK1.blk hZ0 (by simp)
  rw [Hsz.out] at hLs hov
  have hKw : Keep [] w w1 := kz.trans' hK1
  have hbw : w.heap.size + 1 ≤ w1.heap.size := by have := hL.lt; omega
  have h37 := HH.out L (w.heap.size + 1) w1 ⟨_, ov, hL, World.ownsRow_nil _ _ _ _, hov⟩ hs1 hbw
  have H37 := hidden h37
  clear h37 HH hs0 ho0 hk0 hb0 hL hov hs1 hK1 kz hZ0
  go_wp2_with fail
  refine Calls.mono H37.out ?_
  rintro e w2 ⟨hF, hI, ep, rfl, hep⟩
  have hZ2 : Blk w2 w.heap.size 29 zeroOut := hF.2.2.2.2.1 _ _ _ hZ1 (by omega) (.inr ⟨by decide, by decide⟩)
  have hKw2 : Keep [] w w2 := hF.keep hKw (by omega) (by omega)
  obtain ⟨tv, ov, hL, htv, hov⟩ := hI
  have hepf : ∃ x, ep = .pointer x := by
    rcases hep with ⟨h, _⟩ | ⟨_, E, h, _⟩
    · exact ⟨_, h⟩
    · exact ⟨_, h⟩
  obtain ⟨ex, rfl⟩ := hepf
  have Hep := hidden hep
  have HZ2 := hidden hZ2
  clear hep H37 hF hZ1 hKw hZ2
  go_wp2_with fail
  refine (f34_new L v tv ov (.pointer ex) ⟨bs.toArray⟩ Ao At As Ae Aeo Aem (w.heap.size + 1) (w.heap.size + 1) _ hL htv hov HA1.out HA2.out Hep.out).mono ?_
  rintro e w3 ⟨r, rfl, hout, hK3, hN⟩
  have hZ3 := hK3.blk HZ2.out (by simp)
  obtain ⟨n, hn⟩ : ∃ n, At.length = n := ⟨_, rfl⟩
  obtain ⟨m, hm'⟩ : ∃ m, As.length = m := ⟨_, rfl⟩
  obtain ⟨a0, a2, b0, b2, c0, c2, d0, d2, e0, e2, f0, f2, rfl⟩ := hout.form hn hm'
  obtain ⟨z0, z1, z2, z3, z4, z5, z6, z7, z8, z9⟩ := cells10 hZ3
  have hfz := hZ3.free
  have hKw3 : Keep [] w w3 := hKw2.trans' hK3
  have hN3 := hN.mono hKw2.size
  clear Hep HZ2 hL htv hov hKw2 hK3 HA1 HA2 hN
  have Hn := hidden hn
  have Hm := hidden hm'
  clear hn hm'
  have fin : ∀ W, Keep [w.heap.size] w3 W → OutIs W (.agg #[.int .i64 (Ao : Int), .slice a0 n a2, .slice b0 n b2, .slice c0 n c2, .slice d0 m d2, .slice e0 m e2, .slice f0 m f2, .bool Ae, .int .i64 Aeo, .string Aem]) (Ao : Int) At As Ae Aeo Aem ∧ Keep [] w W ∧ NewIn w.heap.size (.agg #[.int .i64 (Ao : Int), .slice a0 n a2, .slice b0 n b2, .slice c0 n c2, .slice d0 m d2, .slice e0 m e2, .slice f0 m f2, .bool Ae, .int .i64 Aeo, .string Aem]) :=
    fun W hW => ⟨hout.after hW hZ3, hKw3.trans hW (by intro x hx; right; simp at hx; omega), hN3⟩
  have Hfin := hidden fin
  have HZ := hidden hZ3
  clear fin hZ3 hout hKw3 hN3
  go_wp2
  obtain ⟨q, qk⟩ := ten_sets (w := w3) (b := w.heap.size) (t := 29) HZ.out (.int .i64 (Ao : Int)) (.slice a0 n a2) (.slice b0 n b2) (.slice c0 n c2) (.slice d0 m d2) (.slice e0 m e2) (.slice f0 m f2) (.bool Ae) (.int .i64 Aeo) (.string Aem)
  have hf := Hfin.out _ qk
  obtain ⟨q0, q1, q2, q3, q4, q5, q6, q7, q8, q9⟩ := cells10 q
  clear Hfin HZ qk q z0 z1 z2 z3 z4 z5 z6 z7 z8 z9
  generalize ((((((((((w3.setCell ⟨w.heap.size, 0, none⟩ (.int .i64 (Ao : Int))).setCell ⟨w.heap.size, 1, none⟩ (.slice a0 n a2)).setCell ⟨w.heap.size, 2, none⟩ (.slice b0 n b2)).setCell ⟨w.heap.size, 3, none⟩ (.slice c0 n c2)).setCell ⟨w.heap.size, 4, none⟩ (.slice d0 m d2)).setCell ⟨w.heap.size, 5, none⟩ (.slice e0 m e2)).setCell ⟨w.heap.size, 6, none⟩ (.slice f0 m f2)).setCell ⟨w.heap.size, 7, none⟩ (.bool Ae)).setCell ⟨w.heap.size, 8, none⟩ (.int .i64 Aeo)).setCell ⟨w.heap.size, 9, none⟩ (.string Aem)) = W at *
  refine bodyPost_ret (v := .agg #[.int .i64 (Ao : Int), .slice a0 n a2, .slice b0 n b2, .slice c0 n c2, .slice d0 m d2, .slice e0 m e2, .slice f0 m f2, .bool Ae, .int .i64 Aeo, .string Aem]) ?_ rfl ⟨_, rfl, hf⟩
  simp [results, Try.results20, go_sem, q0, q1, q2, q3, q4, q5, q6, q7, q8, q9]

end Go.Proofs.Qxb6601273a
