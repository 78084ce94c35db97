/-
  zzs1031cbuild (seat b1031aF): the rows that its loops keep, as one predicate ('Mid').
-/
import Derived.Test.YbulkuieFmtCVerify
import Derived.Test.YbulkuieFmtCopy
import Derived.OwnWalk
import Derived.Laws.OwnMore
namespace Go.Proofs.YbulkuieFmt
open Go.RowKit C

/-- The cells of the heap's own block, as the loops turn them. -/
structure HIs (H : Nat → Value) (ab sb top L : Nat) (sm : Nat → Nat) (nz : Nat) : Prop where
  h4 : H 4 = .slice (some ⟨ab, 0, none⟩) top top
  h6 : H 6 = .int .i64 (top : Int)
  h7 : H 7 = .int .i64 ((top : Int) + 16)
  h9 : H 9 = .slice (some ⟨sb, 0, none⟩) L L
  hs : ∀ z, z < 64 → H (10 + z) = .int .u64 ((sm z : Nat) : Int)
  h74 : H 74 = .int .u64 (nz : Int)
  h75 : H 75 = .int .u64 0

/-- What the loops of zzs1031cbuild keep: the rows that it has made, and nothing of the caller's turned. -/
structure Mid (w wr : World) (ab sb hb ob n top L : Nat) (A : Nat → Nat) (C : Nat → Bool) (H : Nat → Value) (xs : List Nat) : Prop where
  bel : Below w.heap.size w wr
  o1 : w.heap.size ≤ ab
  o2 : ab < sb
  o3 : sb < hb
  o4 : hb < ob
  o5 : ob < wr.heap.size
  arena : wr.rowIs ab 24 top (fun i => .int .u64 ((A i : Nat) : Int))
  bits : BitsAt wr sb L C
  hp : wr.rowIs hb 53 89 H
  ow : wr.ownsRow w.heap.size 3 1 (.slice (some ⟨ob, 0, none⟩) xs.length n) xs.length (xs.map fun p : Nat => Value.int .i64 (p : Int))

namespace Mid
variable {w wr : World} {ab sb hb ob n top L : Nat} {A : Nat → Nat} {C : Nat → Bool} {H : Nat → Value} {xs : List Nat}
theorem below (M : Mid w wr ab sb hb ob n top L A C H xs) {w' : World} (hb' : Below wr.heap.size wr w') : Mid w w' ab sb hb ob n top L A C H xs :=
  { bel := M.bel.trans (hb'.mono M.bel.size), o1 := M.o1, o2 := M.o2, o3 := M.o3, o4 := M.o4, o5 := Nat.lt_of_lt_of_le M.o5 hb'.size,
    arena := M.arena.of_block (hb'.block _ (by have := M.o2; have := M.o3; have := M.o4; have := M.o5; omega)), bits := M.bits.of_block (hb'.block _ (by have := M.o3; have := M.o4; have := M.o5; omega)),
    hp := M.hp.of_block (hb'.block _ (by have := M.o4; have := M.o5; omega)),
    ow := M.ow.kept (row := none) ⟨hb'.os, hb'.tape, hb'.output, hb'.size, fun k hk _ => hb'.block k hk⟩ (.inr (by simp [Value.ownBlock])) }
theorem grown {w' : World} {row : Nat} (h : wr.grownBy w' (some row)) {k : Nat} (hk : k < wr.heap.size) (hne : k ≠ row) : w'.heap[k]? = wr.heap[k]? := h.block k hk (by simpa using hne)
theorem grown_set (wr : World) (b i : Nat) (v : Value) : wr.grownBy (wr.setCell ⟨b, i, none⟩ v) (some b) :=
  ⟨rfl, rfl, rfl, by simp, fun k _ hne => Deep.blk_setCell_other _ _ _ _ (by simpa using hne)⟩
theorem below_grown {w' : World} {row : Nat} (hb' : Below w.heap.size w wr) (h : wr.grownBy w' (some row)) (hr : w.heap.size ≤ row) : Below w.heap.size w w' :=
  ⟨h.os.trans hb'.os, h.tape.trans hb'.tape, h.output.trans hb'.output, Nat.le_trans hb'.size h.size, fun k hk => (h.block k (Nat.lt_of_lt_of_le hk hb'.size) (by intro e; simp only [Option.some.injEq] at e; omega)).trans (hb'.block k hk)⟩
theorem setA (M : Mid w wr ab sb hb ob n top L A C H xs) (i v : Nat) : Mid w (wr.setCell ⟨ab, i, none⟩ (.int .u64 ((v : Nat) : Int))) ab sb hb ob n top L (upd A i v) C H xs := by
  have h2 := M.o2; have h3 := M.o3; have h4 := M.o4; have h5 := M.o5
  have G := grown_set wr ab i (.int .u64 ((v : Nat) : Int))
  exact { bel := below_grown M.bel G M.o1, o1 := M.o1, o2 := h2, o3 := h3, o4 := h4, o5 := by simpa using h5,
          arena := by
            have h := M.arena.set i (.int .u64 ((v : Nat) : Int))
            refine h.congr ?_
            intro j _
            unfold upd
            split <;> rfl
          bits := M.bits.of_block (grown G (by omega) (by omega)), hp := M.hp.of_block (grown G (by omega) (by omega)),
          ow := M.ow.kept G (.inr (by simp [Value.ownBlock]; omega)) }
theorem setH (M : Mid w wr ab sb hb ob n top L A C H xs) (i : Nat) (v : Value) : Mid w (wr.setCell ⟨hb, i, none⟩ v) ab sb hb ob n top L A C (upd H i v) xs := by
  have h1 := M.o1; have h2 := M.o2; have h3 := M.o3; have h4 := M.o4; have h5 := M.o5
  have G := grown_set wr hb i v
  exact { bel := below_grown M.bel G (by omega), o1 := h1, o2 := h2, o3 := h3, o4 := h4, o5 := by simpa using h5,
          arena := M.arena.of_block (grown G (by omega) (by omega)), bits := M.bits.of_block (grown G (by omega) (by omega)),
          hp := by
            have h := M.hp.set i v
            refine h.congr ?_
            intro j _
            unfold upd
            split <;> rfl
          ow := M.ow.kept G (.inr (by simp [Value.ownBlock]; omega)) }
theorem setC (M : Mid w wr ab sb hb ob n top L A C H xs) {w' : World} {C' : Nat → Bool} (hC : BitsAt w' sb L C') (i : Nat) (v : Value) (hw : w' = wr.setCell ⟨sb, i, none⟩ v) : Mid w w' ab sb hb ob n top L A C' H xs := by
  have h1 := M.o1; have h2 := M.o2; have h3 := M.o3; have h4 := M.o4; have h5 := M.o5
  have G := grown_set wr sb i v
  rw [← hw] at G
  exact { bel := below_grown M.bel G (by omega), o1 := h1, o2 := h2, o3 := h3, o4 := h4, o5 := Nat.lt_of_lt_of_le h5 G.size,
          arena := M.arena.of_block (grown G (by omega) (by omega)), bits := hC, hp := M.hp.of_block (grown G (by omega) (by omega)),
          ow := M.ow.kept G (.inr (by simp [Value.ownBlock]; omega)) }
theorem push (M : Mid w wr ab sb hb ob n top L A C H xs) {w' : World} {p : Nat} (G : wr.grownBy w' (some ob))
    (h : w'.ownsRow w.heap.size 3 1 (.slice (some ⟨ob, 0, none⟩) (xs ++ [p]).length n) (xs ++ [p]).length ((xs ++ [p]).map fun p : Nat => Value.int .i64 (p : Int))) : Mid w w' ab sb hb ob n top L A C H (xs ++ [p]) := by
  have h1 := M.o1; have h2 := M.o2; have h3 := M.o3; have h4 := M.o4; have h5 := M.o5
  exact { bel := below_grown M.bel G (by omega), o1 := h1, o2 := h2, o3 := h3, o4 := h4, o5 := Nat.lt_of_lt_of_le h5 G.size,
          arena := M.arena.of_block (grown G (by omega) (by omega)), bits := M.bits.of_block (grown G (by omega) (by omega)), hp := M.hp.of_block (grown G (by omega) (by omega)), ow := h }
theorem obj (M : Mid w wr ab sb hb ob n top L A C H xs) (i : Nat) (hi : i < xs.length) : wr.cell? ⟨ob, i, none⟩ = some (.int .i64 ((xs.getD i 0 : Nat) : Int)) := by
  have h := M.ow.cellAt i (by simpa using hi)
  rw [h]
  simp [List.getD, hi]
end Mid
/-- Block k of the argument lies in w. -/
def BlkIn (w : World) (ao : Option Addr) (b : Blk) (k : Nat) : Prop :=
  b.refs ≤ 255 ∧ b.words ≤ 255 ∧ b.target ≤ 255 ∧ ∃ ad : Addr, ao = some ad ∧ (ad.add (k * 4)).block < w.heap.size ∧ w.cell? (ad.add (k * 4)) = some (.bool b.free) ∧ w.cell? ⟨(ad.add (k * 4)).block, (ad.add (k * 4)).off + 1, none⟩ = some (.int .u8 (b.refs : Int)) ∧
    w.cell? ⟨(ad.add (k * 4)).block, (ad.add (k * 4)).off + 2, none⟩ = some (.int .u8 (b.words : Int)) ∧ w.cell? ⟨(ad.add (k * 4)).block, (ad.add (k * 4)).off + 3, none⟩ = some (.int .u8 (b.target : Int))

theorem BlkIn.below {w w' : World} {ao : Option Addr} {b : Blk} {k : Nat} (h : BlkIn w ao b k) (hb : Below w.heap.size w w') : BlkIn w' ao b k := by
  obtain ⟨h1, h2, h3, ad, rfl, hlt, k0, k1, k2, k3⟩ := h
  exact ⟨h1, h2, h3, ad, rfl, Nat.lt_of_lt_of_le hlt hb.size, (hb.cell (p := ad.add (k * 4)) hlt).trans k0, (hb.cell (p := ⟨(ad.add (k * 4)).block, (ad.add (k * 4)).off + 1, none⟩) hlt).trans k1, (hb.cell (p := ⟨(ad.add (k * 4)).block, (ad.add (k * 4)).off + 2, none⟩) hlt).trans k2, (hb.cell (p := ⟨(ad.add (k * 4)).block, (ad.add (k * 4)).off + 3, none⟩) hlt).trans k3⟩

theorem info3 : (Ybaf.prog.info? 3).map (fun i => (i.zero, i.size, i.bytes)) = some (some (.int .i64 0), 1, 8) := by kernel_rfl
end Go.Proofs.YbulkuieFmt
