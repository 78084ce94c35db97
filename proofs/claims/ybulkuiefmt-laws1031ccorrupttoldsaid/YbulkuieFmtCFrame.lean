/-
  The arguments of the C laws, opened (seat b1031aF).
-/
import Derived.Test.YbulkuieFmtCMid
import Derived.Test.YbulkuieFmtFrame
import Derived.Deep.Slices
namespace Go.Proofs.YbulkuieFmt
open Go.ChangeShapes Go.WideShapes Go.ChangeAt Go.RowKit C

instance : Inhabited Blk := ⟨⟨false, 0, 0, 0⟩⟩

section
variable {H : Type} {enc : TypeId × Value → H} {w : World} {base : Nat} {spare : Nat → Bool} {held : Bool}

set_option maxRecDepth 100000 in
theorem open_block {n : Nat} {cs : List Value} {x : DataW H × List MemPlace} (h : DataW.trod enc Ybaf.prog w base spare held n 69 cs = some x) :
    ∃ b : Blk, b.refs ≤ 255 ∧ b.words ≤ 255 ∧ b.target ≤ 255 ∧ cs = [.bool b.free, .int .u8 (b.refs : Int), .int .u8 (b.words : Int), .int .u8 (b.target : Int)] := by
  obtain ⟨xs, n', rfl, rfl, hl, hlen, hf⟩ := DataW.trod_struct Ybaf.underlying69 h
  have hlc : cs.length = 4 := hl.trans (by kernel_rfl)
  clear hl
  have c4 : Ybaf.prog.cellsOf 4 = 1 := by kernel_rfl
  have c5 : Ybaf.prog.cellsOf 5 = 1 := by kernel_rfl
  match cs, hlc with
  | [v0, v1, v2, v3], _ =>
  match xs, hlen with
  | [y0, y1, y2, y3], _ =>
  have e0 : DataW.trod enc Ybaf.prog w base spare held n' 4 ((([v0, v1, v2, v3] : List Value).drop 0).take (Ybaf.prog.cellsOf 4)) = ([y0, y1, y2, y3] : List (DataW H × List MemPlace))[0]? := hf 0 _ rfl
  have e1 : DataW.trod enc Ybaf.prog w base spare held n' 5 ((([v0, v1, v2, v3] : List Value).drop 1).take (Ybaf.prog.cellsOf 5)) = ([y0, y1, y2, y3] : List (DataW H × List MemPlace))[1]? := hf 1 _ rfl
  have e2 : DataW.trod enc Ybaf.prog w base spare held n' 5 ((([v0, v1, v2, v3] : List Value).drop 2).take (Ybaf.prog.cellsOf 5)) = ([y0, y1, y2, y3] : List (DataW H × List MemPlace))[2]? := hf 2 _ rfl
  have e3 : DataW.trod enc Ybaf.prog w base spare held n' 5 ((([v0, v1, v2, v3] : List Value).drop 3).take (Ybaf.prog.cellsOf 5)) = ([y0, y1, y2, y3] : List (DataW H × List MemPlace))[3]? := hf 3 _ rfl
  rw [c4] at e0
  rw [c5] at e1 e2 e3
  simp only [List.drop, List.take, List.getElem?_cons_zero, List.getElem?_cons_succ] at e0 e1 e2 e3
  obtain ⟨f, h0, _⟩ := DataW.trod_bool Ybaf.underlying4 e0
  obtain ⟨r, h1, _, w1⟩ := DataW.trod_int Ybaf.underlying5 e1
  obtain ⟨u, h2, _, w2⟩ := DataW.trod_int Ybaf.underlying5 e2
  obtain ⟨t, h3, _, w3⟩ := DataW.trod_int Ybaf.underlying5 e3
  obtain ⟨a1, b1⟩ := bounds_u8 w1
  obtain ⟨a2, b2⟩ := bounds_u8 w2
  obtain ⟨a3, b3⟩ := bounds_u8 w3
  simp only [List.cons.injEq, and_true] at h0 h1 h2 h3
  subst h0 h1 h2 h3
  exact ⟨⟨f, r.toNat, u.toNat, t.toNat⟩, by show r.toNat ≤ 255; omega, by show u.toNat ≤ 255; omega, by show t.toNat ≤ 255; omega, by simp only [Int.toNat_of_nonneg a1, Int.toNat_of_nonneg a2, Int.toNat_of_nonneg a3]⟩

theorem add_some (d : Addr) (j : Nat) (h : j ≠ 0) : d.add j = ⟨d.block, d.off + j, none⟩ := by
  unfold Addr.add
  rw [if_neg h]

theorem open_blocks {fuel : Nat} {ao : Option Addr} {len cap : Nat} {x : DataW H × List MemPlace} (h : DataW.trod enc Ybaf.prog w base spare held fuel 37 [.slice ao len cap] = some x) :
    len ≤ maxLen ∧ ∃ bs : Nat → Blk, ∀ k, k < len → BlkIn w ao (bs k) k := by
  rcases Deep.open_slice Ybaf.underlying37 h with ⟨h0, _⟩ | ⟨a, l, c, m, n, D, Pl, h0, hb, hl, hm, hmm, _, hx⟩
  · simp only [List.cons.injEq, Value.slice.injEq, and_true] at h0
    obtain ⟨rfl, rfl, rfl⟩ := h0
    exact ⟨by unfold maxLen; omega, fun _ => default, fun k hk => by omega⟩
  · simp only [List.cons.injEq, Value.slice.injEq, and_true] at h0
    obtain ⟨rfl, rfl, rfl⟩ := h0
    have hlm : len ≤ m := by rw [hmm]; split <;> omega
    refine ⟨by omega, Deep.choose_lt (p := fun k b => BlkIn w (some a) b k) (fun k hk => ?_)⟩
    obtain ⟨cs', h1, h2⟩ := hx k (by omega)
    have c69 : Ybaf.prog.cellsOf 69 = 4 := by kernel_rfl
    rw [c69] at h1
    obtain ⟨b, b1, b2, b3, rfl⟩ := open_block h2
    obtain ⟨_, _, hc⟩ := World.cells?_some h1
    have k0 := hc 0 (by omega)
    have k1 := hc 1 (by omega)
    have k2 := hc 2 (by omega)
    have k3 := hc 3 (by omega)
    simp only [List.getElem?_cons_zero, List.getElem?_cons_succ] at k0 k1 k2 k3
    rw [add_some _ _ (by decide)] at k1 k2 k3
    rw [show (a.add (k * 4)).add 0 = a.add (k * 4) from rfl] at k0
    exact ⟨b, b1, b2, b3, a, rfl, World.block_lt_of_cell? _ _ k0, k0, k1, k2, k3⟩
end
end Go.Proofs.YbulkuieFmt
