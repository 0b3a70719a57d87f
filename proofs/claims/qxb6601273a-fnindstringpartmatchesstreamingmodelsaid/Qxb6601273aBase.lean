/- WORDS ON WORLDS for this seat's walks: a block that is known whole ('Blk'); all blocks but the listed ones are as they were ('Keep'); a slice of bytes that lies somewhere ('Src'). No Go program is named here. -/
import Derived.WalkKit
import Derived.ProofKit
import Derived.Deep.QuietTactic
namespace Go.Proofs.Qxb6601273a
open Go.RowKit

/-- Block b is the row of cells cs of type t, none of them frozen. -/
def Blk (w : World) (b : Nat) (t : TypeId) (cs : Array Value) : Prop := w.heap[b]? = some (.cells cs t (0, 0))

/-- All old blocks but those of S are as they were; no stream has turned. -/
structure Keep (S : List Nat) (w w' : World) : Prop where
  os : w'.os = w.os
  tape : w'.tape = w.tape
  output : w'.output = w.output
  size : w.heap.size ≤ w'.heap.size
  block : ∀ k, k < w.heap.size → k ∉ S → w'.heap[k]? = w.heap[k]?

theorem Blk.lt {w : World} {b : Nat} {t : TypeId} {cs : Array Value} (h : Blk w b t cs) : b < w.heap.size := lt_of_block h

theorem Keep.refl (S : List Nat) (w : World) : Keep S w w := ⟨rfl, rfl, rfl, Nat.le_refl _, fun _ _ _ => rfl⟩

theorem Keep.trans {S S' : List Nat} {a b c : World} (h : Keep S a b) (k : Keep S' b c) (hS : ∀ x ∈ S', x ∈ S ∨ a.heap.size ≤ x) : Keep S a c :=
  ⟨k.os.trans h.os, k.tape.trans h.tape, k.output.trans h.output, Nat.le_trans h.size k.size, fun i hi hn =>
    (k.block i (Nat.lt_of_lt_of_le hi h.size) (fun hm => by rcases hS i hm with h1 | h1; exact hn h1; omega)).trans (h.block i hi hn)⟩

theorem Keep.trans' {S : List Nat} {a b c : World} (h : Keep S a b) (k : Keep S b c) : Keep S a c := h.trans k fun _ hx => .inl hx

theorem Keep.mono {S S' : List Nat} {a b : World} (h : Keep S a b) (hS : ∀ x ∈ S, x ∈ S' ∨ a.heap.size ≤ x) : Keep S' a b :=
  (Keep.refl S' a).trans h hS

theorem Keep.drewN (S : List Nat) (w : World) (n : Nat) : Keep S w (w.drewN n) := ⟨rfl, rfl, rfl, Nat.le_refl _, fun _ _ _ => rfl⟩
theorem Keep.drew (S : List Nat) (w : World) : Keep S w w.drew := ⟨rfl, rfl, rfl, Nat.le_refl _, fun _ _ _ => rfl⟩

theorem Keep.alloc (S : List Nat) (w : World) (o : Obj) : Keep S w (w.alloc o) :=
  ⟨rfl, rfl, rfl, by simp, fun k hk _ => Below.heap_alloc _ _ _ hk⟩

theorem Keep.setCell {S : List Nat} (w : World) (a : Addr) (u : Value) (h : a.block ∈ S) : Keep S w (w.setCell a u) :=
  ⟨rfl, rfl, rfl, by simp [World.setCell], fun k _ hn => Below.heap_setCell _ _ _ _ (fun e => hn (e ▸ h))⟩

theorem Keep.grown {S : List Nat} {w w' : World} {row : Option Nat} (h : w.grownBy w' row) (hr : ∀ k, row = some k → k ∈ S) : Keep S w w' :=
  ⟨h.os, h.tape, h.output, h.size, fun k hk hn => h.block k hk (fun e => hn (hr k e.symm))⟩

theorem Keep.below {w w' : World} (h : Keep [] w w') : Below w.heap.size w w' :=
  ⟨h.os, h.tape, h.output, h.size, fun k hk => h.block k hk (by simp)⟩

theorem Keep.of_below {w w' : World} (h : Below w.heap.size w w') : Keep [] w w' :=
  ⟨h.os, h.tape, h.output, h.size, fun k hk _ => h.block k hk⟩

theorem Keep.blk {S : List Nat} {w w' : World} {b : Nat} {t : TypeId} {cs : Array Value} (h : Keep S w w') (hb : Blk w b t cs) (hn : b ∉ S) : Blk w' b t cs :=
  (h.block b hb.lt hn).trans hb

theorem Keep.cell {S : List Nat} {w w' : World} {a : Addr} {v : Value} (h : Keep S w w') (hc : w.cell? a = some v) (hn : a.block ∉ S) : w'.cell? a = some v :=
  (World.cell?_of_block (h.block a.block (World.block_lt_of_cell? w a hc) hn)).trans hc

theorem Blk.cell {w : World} {b : Nat} {t : TypeId} {cs : Array Value} (h : Blk w b t cs) (i : Nat) : w.cell? ⟨b, i, none⟩ = cs[i]? := by
  have h' : w.heap[b]? = some (.cells cs t (0, 0)) := h
  simp [World.cell?, h']
theorem Blk.free {w : World} {b : Nat} {t : TypeId} {cs : Array Value} (h : Blk w b t cs) (i : Nat) : w.frozen? ⟨b, i, none⟩ = false := by
  have h' : w.heap[b]? = some (.cells cs t (0, 0)) := h
  simp [World.frozen?, h']

theorem Blk.set {w : World} {b : Nat} {t : TypeId} {cs : Array Value} (h : Blk w b t cs) (i : Nat) (u : Value) : Blk (w.setCell ⟨b, i, none⟩ u) b t (cs.setIfInBounds i u) := by
  have hlt := h.lt
  have h' : w.heap[b] = .cells cs t (0, 0) := by
    have : w.heap[b]? = some (.cells cs t (0, 0)) := h
    simpa [Array.getElem?_eq_getElem hlt] using this
  show (w.heap.modify b _)[b]? = _
  rw [Array.getElem?_eq_getElem (by simpa using hlt), Array.getElem_modify_self, h']
  rfl

theorem Blk.drewN {w : World} {b : Nat} {t : TypeId} {cs : Array Value} (h : Blk w b t cs) (n : Nat) : Blk (w.drewN n) b t cs := h
theorem Blk.drew {w : World} {b : Nat} {t : TypeId} {cs : Array Value} (h : Blk w b t cs) : Blk w.drew b t cs := h
theorem Blk.ne {w : World} {b b' : Nat} {t t' : TypeId} {cs cs' : Array Value} (h : Blk w b t cs) (h' : Blk w b' t' cs') (hne : t ≠ t') : b ≠ b' := by
  intro e; subst e
  have h1 : w.heap[b]? = some (.cells cs t (0, 0)) := h
  have h2 : w.heap[b]? = some (.cells cs' t' (0, 0)) := h'
  rw [h1] at h2; simp at h2; exact hne h2.2

theorem Blk.other {w : World} {b : Nat} {t : TypeId} {cs : Array Value} (h : Blk w b t cs) (a : Addr) (u : Value) (hne : b ≠ a.block) : Blk (w.setCell a u) b t cs :=
  (Below.heap_setCell w a u b hne).trans h
theorem Blk.alloc {w : World} {b : Nat} {t : TypeId} {cs : Array Value} (h : Blk w b t cs) (o : Obj) : Blk (w.alloc o) b t cs :=
  (Below.heap_alloc w o b h.lt).trans h
theorem Blk.new (w : World) (t : TypeId) (cs : Array Value) : Blk (w.alloc (.cells cs t)) w.heap.size t cs := heap_alloc_new w _

/-- The byte at place k, 0 behind the end. -/
def byteAt (bs : List UInt8) (k : Nat) : Int := ((bs.getD k 0).toNat : Int)
theorem byteAt_range (bs : List UInt8) (k : Nat) : 0 ≤ byteAt bs k ∧ byteAt bs k ≤ 255 := by
  unfold byteAt
  have := (bs.getD k 0).toNat_lt
  omega
theorem byteAt_out {bs : List UInt8} {k : Nat} (h : bs.length ≤ k) : byteAt bs k = 0 := by
  unfold byteAt
  rw [List.getD_eq_getElem?_getD, List.getElem?_eq_none h]; rfl
theorem byteAt_in {bs : List UInt8} {k : Nat} (h : k < bs.length) : byteAt bs k = (bs[k].toNat : Int) := by
  unfold byteAt
  rw [List.getD_eq_getElem?_getD, List.getElem?_eq_getElem h]; rfl

/-- v is a slice of the bytes bs: nil, or at the head of block g. -/
def Src (w : World) (v : Value) (bs : List UInt8) : Prop :=
  (v = .slice none 0 0 ∧ bs = []) ∨ ∃ g cap cs, v = .slice (some ⟨g, 0, none⟩) bs.length cap ∧ bs.length ≤ cap ∧ Blk w g 5 cs ∧ ∀ k, k < bs.length → cs[k]? = some (.int .u8 (byteAt bs k))

def byteCells (bs : List UInt8) : List Value := bs.map fun b => .int .u8 (b.toNat : Int)
theorem byteCells_length (bs : List UInt8) : (byteCells bs).length = bs.length := by simp [byteCells]
theorem byteCells_get {bs : List UInt8} {k : Nat} (h : k < bs.length) : (byteCells bs)[k]? = some (.int .u8 (byteAt bs k)) := by
  simp [byteCells, List.getElem?_eq_getElem h, byteAt_in h]

theorem Src.of_owns {w : World} {base : Nat} {v : Value} {bs : List UInt8} (h : w.ownsRow base 5 1 v bs.length (byteCells bs)) : Src w v bs := by
  rcases h.2 with ⟨hv, hn⟩ | ⟨g, cap, cur, hv, _, hg, hle, _, hsz, ht⟩
  · exact .inl ⟨hv, List.eq_nil_of_length_eq_zero hn⟩
  · refine .inr ⟨g, cap, cur, hv, hle, hg, fun k hk => ?_⟩
    have := byteCells_get hk
    rw [← ht, List.getElem?_take] at this
    rw [if_pos (by omega)] at this
    simpa using this

theorem Keep.src {S : List Nat} {w w' : World} {v : Value} {bs : List UInt8} (h : Keep S w w') (hs : Src w v bs) (hn : ∀ g, v.ownBlock = some g → g ∉ S) : Src w' v bs := by
  rcases hs with h1 | ⟨g, cap, cs, hv, hle, hb, hc⟩
  · exact .inl h1
  · exact .inr ⟨g, cap, cs, hv, hle, h.blk hb (hn g (by rw [hv]; rfl)), hc⟩

theorem Src.blk_ne {w : World} {v : Value} {bs : List UInt8} (hs : Src w v bs) {b : Nat} {t : TypeId} {cs : Array Value} (hb : Blk w b t cs) (ht : t ≠ 5) : ∀ g, v.ownBlock = some g → g ≠ b := by
  intro g hg
  rcases hs with ⟨h1, _⟩ | ⟨g', cap, cs', hv, _, hb', _⟩
  · rw [h1] at hg; simp [Value.ownBlock] at hg
  · rw [hv] at hg; simp [Value.ownBlock] at hg
    subst hg
    exact hb'.ne hb (Ne.symm ht)

theorem ret_bool {a b : Bool} (h : a = b) : Ending.returned (.bool a) = .returned (.bool b) := by rw [h]
theorem ret_int {k : IntKind} {a b : Int} (h : a = b) : Ending.returned (.int k a) = .returned (.int k b) := by rw [h]
theorem drewN_two (w : World) (a b : Nat) : ∃ m, (w.drewN a).drewN b = w.drewN m := ⟨a + b, by simp [World.drewN]; omega⟩
end Go.Proofs.Qxb6601273a
