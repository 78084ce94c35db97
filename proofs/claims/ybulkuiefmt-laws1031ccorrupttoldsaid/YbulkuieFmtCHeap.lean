/-
  The C heap (seat b1031aF): what its cells hold; a world that has turned in one block alone ('But').
-/
import Derived.Test.YbulkuieFmtCSmall
import Derived.Test.YbulkuieFmtBRead
namespace Go.Proofs.YbulkuieFmt
open Go.RowKit C

/-- Of the blocks that lay in w all but sb are as they were. -/
structure But (sb : Nat) (w w' : World) : Prop where
  os : w'.os = w.os
  tape : w'.tape = w.tape
  output : w'.output = w.output
  size : w.heap.size ≤ w'.heap.size
  block : ∀ k, k < w.heap.size → k ≠ sb → w'.heap[k]? = w.heap[k]?

namespace But
variable {sb : Nat} {w w' w'' : World}
theorem refl (sb : Nat) (w : World) : But sb w w := ⟨rfl, rfl, rfl, Nat.le_refl _, fun _ _ _ => rfl⟩
theorem trans (h : But sb w w') (k : But sb w' w'') : But sb w w'' :=
  ⟨k.os.trans h.os, k.tape.trans h.tape, k.output.trans h.output, Nat.le_trans h.size k.size, fun i hi hn => (k.block i (Nat.lt_of_lt_of_le hi h.size) hn).trans (h.block i hi hn)⟩
theorem of_below (h : Below w.heap.size w w') : But sb w w' := ⟨h.os, h.tape, h.output, h.size, fun k hk _ => h.block k hk⟩
theorem set (w : World) (i : Nat) (v : Value) : But sb w (w.setCell ⟨sb, i, none⟩ v) := by
  refine ⟨rfl, rfl, rfl, by simp, fun k _ hn => Deep.blk_setCell_other _ _ _ _ hn⟩
theorem drewN (w : World) (n : Nat) : But sb w (w.drewN n) := of_below (below_drewN (Below.refl _ _) n)
theorem cell (h : But sb w w') {p : Addr} (hp : p.block < w.heap.size) (hn : p.block ≠ sb) : w'.cell? p = w.cell? p := World.cell?_of_block (w := w) (h.block _ hp hn)
theorem below (h : But sb w w') {B : Nat} (hB : B ≤ w.heap.size) (hs : B ≤ sb) : Below B w w' := ⟨h.os, h.tape, h.output, h.size, fun k hk => h.block k (by omega) (by omega)⟩
end But

/-- What the heap's cells hold, the start bits aside. -/
structure CR (w : World) (hb ab sb rb top L : Nat) (A sm : Nat → Nat) (nz m mc : Nat) (R : Nat → Nat) (dr : Nat) (foot : Int) : Prop where
  lh : hb < w.heap.size
  la : ab < w.heap.size
  lr : rb < w.heap.size
  nh : hb ≠ sb
  na : ab ≠ sb
  nr : rb ≠ sb
  ht : top ≤ 10000
  hL : L ≤ 1000
  hLt : top < 64 * L
  c4 : w.cell? ⟨hb, 4, none⟩ = some (.slice (some ⟨ab, 0, none⟩) top top)
  c6 : w.cell? ⟨hb, 6, none⟩ = some (.int .i64 (top : Int))
  c7 : w.cell? ⟨hb, 7, none⟩ = some (.int .i64 ((top : Int) + 16))
  c9 : w.cell? ⟨hb, 9, none⟩ = some (.slice (some ⟨sb, 0, none⟩) L L)
  cs : ∀ n, n < 64 → w.cell? ⟨hb, 10 + n, none⟩ = some (.int .u64 ((sm n : Nat) : Int))
  c74 : w.cell? ⟨hb, 74, none⟩ = some (.int .u64 (nz : Int))
  c75 : w.cell? ⟨hb, 75, none⟩ = some (.int .u64 0)
  c79 : w.cell? ⟨hb, 79, none⟩ = some (.slice (some ⟨rb, 0, none⟩) m mc)
  c80 : w.cell? ⟨hb, 80, none⟩ = some (.int .i64 (dr : Int))
  c85 : w.cell? ⟨hb, 85, none⟩ = some (.int .i64 foot)
  c87 : w.cell? ⟨hb, 87, none⟩ = some (.int .i64 (((top : Int) + 16 + 100) * 8))
  ca : ∀ i, i < top → w.cell? ⟨ab, i, none⟩ = some (.int .u64 ((A i : Nat) : Int))
  cr : ∀ i, i < m → w.cell? ⟨rb, i, none⟩ = some (.int .u64 ((R i : Nat) : Int))

theorem CR.but {w w' : World} {hb ab sb rb top L : Nat} {A sm : Nat → Nat} {nz m mc : Nat} {R : Nat → Nat} {dr : Nat} {foot : Int} (h : CR w hb ab sb rb top L A sm nz m mc R dr foot) (k : But sb w w') : CR w' hb ab sb rb top L A sm nz m mc R dr foot := by
  have z := k.size
  have e : ∀ o, w'.cell? ⟨hb, o, none⟩ = w.cell? ⟨hb, o, none⟩ := fun o => k.cell (p := ⟨hb, o, none⟩) h.lh h.nh
  exact ⟨Nat.lt_of_lt_of_le h.lh z, Nat.lt_of_lt_of_le h.la z, Nat.lt_of_lt_of_le h.lr z, h.nh, h.na, h.nr, h.ht, h.hL, h.hLt, by rw [e]; exact h.c4, by rw [e]; exact h.c6, by rw [e]; exact h.c7, by rw [e]; exact h.c9, fun n hn => by rw [e]; exact h.cs n hn, by rw [e]; exact h.c74,
    by rw [e]; exact h.c75, by rw [e]; exact h.c79, by rw [e]; exact h.c80, by rw [e]; exact h.c85, by rw [e]; exact h.c87, fun i hi => by rw [k.cell (p := ⟨ab, i, none⟩) h.la h.na]; exact h.ca i hi, fun i hi => by rw [k.cell (p := ⟨rb, i, none⟩) h.lr h.nr]; exact h.cr i hi⟩

theorem BitsAt.drewN {w : World} {sb L : Nat} {C : Nat → Bool} (h : BitsAt w sb L C) (n : Nat) : BitsAt (w.drewN n) sb L C := h.of_block ((below_drewN (Below.refl w.heap.size w) n).block _ h.lt)
theorem BitsAt.below {w w' : World} {sb L : Nat} {C : Nat → Bool} (h : BitsAt w sb L C) (hb : Below w.heap.size w w') : BitsAt w' sb L C := h.of_block (hb.block _ h.lt)
theorem Sent.but {w w' : World} {g sb : Nat} {a : Addr} {s : ByteArray} (h : Sent w g a s) (k : But sb w w') (hg : g ≠ sb) (ha : a.block ≠ sb) : Sent w' g a s :=
  ⟨Nat.lt_of_lt_of_le h.lg k.size, Nat.lt_of_lt_of_le h.la k.size, by rw [k.cell (p := ⟨g, 0, none⟩) h.lg hg]; exact h.cg, by rw [k.cell (p := a) h.la ha]; exact h.ca⟩
end Go.Proofs.YbulkuieFmt
