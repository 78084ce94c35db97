/-
  zzs1036cbuild (seat b1036a): a new row of hashed pieces.
-/
import Derived.Test.YbulkukwGrow
import Derived.Deep.LoopGhost
import Derived.Lib.SliceRun
namespace Go.Proofs.Ybulkukw
open Go.RowKit

theorem info42 : (Yba.prog.info? 42).map (fun i => (i.zero, i.size, i.bytes)) = some (some (.agg #[.int .u64 0, .int .i64 0]), 2, 16) := by kernel_rfl

theorem make_hp (n : Nat) (hn : n ≤ 1024) (w : World) : (Instr.makeSlice 24 (.int .i64 (n : Int)) (.int .i64 (n : Int))).run Yba.prog w = .ok (.slice (some ⟨w.heap.size, 0, none⟩) n n) (w.alloc (.cells (madeCells #[.int .u64 0, .int .i64 0] (n * 2)) 42)) := by
  obtain ⟨i, hi, hzz⟩ := Option.map_eq_some_iff.1 info42
  simp only [Prod.mk.injEq] at hzz
  obtain ⟨hz, hs, hb⟩ := hzz
  have hr := run_make (P := Yba.prog) w 24 42 i _ Yba.underlying24 hi hz .i64 .i64 n n (by omega) (by omega) (by rw [hb]; omega) (by omega)
  simp only [Int.toNat_natCast, hs] at hr
  exact hr

theorem made2 (n i : Nat) (h : i < n) : (madeCells #[.int .u64 0, .int .i64 0] n)[i]? = some (if i % 2 = 0 then .int .u64 0 else .int .i64 0) := by
  have h3 : i % 2 = 0 ∨ i % 2 = 1 := by omega
  rcases h3 with h3 | h3 <;> simp [madeCells, h, h3]

/-- A row of n hashed pieces, the first i with the hashes H. -/
def Pieces (w : World) (pb n : Nat) (H : Nat → Int) (i : Nat) : Prop :=
  ∃ f : Nat → Value, w.rowIs pb 42 (n * 2) f ∧ (∀ j, j < i → f (j * 2) = .int .u64 (H j)) ∧ ∀ j, ∃ z, f (j * 2 + 1) = .int .i64 z

theorem Pieces.set {w : World} {pb n : Nat} {H : Nat → Int} {i : Nat} (h : Pieces w pb n H i) (z : Int) : Pieces ((w.setCell ⟨pb, i * 2, none⟩ (.int .u64 (H i))).setCell ⟨pb, i * 2 + 1, none⟩ (.int .i64 z)) pb n H (i + 1) := by
  obtain ⟨f, hr, h1, h2⟩ := h
  refine ⟨_, (hr.set (i * 2) _).set (i * 2 + 1) _, fun j hj => ?_, fun j => ?_⟩
  · show (if j * 2 = i * 2 + 1 then _ else if j * 2 = i * 2 then _ else _) = _
    rw [if_neg (by omega)]
    by_cases hji : j = i
    · subst hji; rw [if_pos rfl]
    · rw [if_neg (by omega)]; exact h1 j (by omega)
  · show ∃ z', (if j * 2 + 1 = i * 2 + 1 then _ else if j * 2 + 1 = i * 2 then _ else _) = _
    by_cases hji : j = i
    · subst hji; rw [if_pos rfl]; exact ⟨_, rfl⟩
    · rw [if_neg (by omega), if_neg (by omega)]; exact h2 j

theorem add_block (y : Addr) (i : Nat) : (y.add i).block = y.block := by unfold Addr.add; split <;> rfl

theorem nil22 (w : World) (a : Option Addr) (n c n' c' : Nat) : (binOp .eql 22 (.slice a n c) (.slice none n' c')).run Yba.prog w = .ok (.bool a.isNone) w := Lib.run_eql_slice_nil w _ _ a n c n' c' Yba.underlying22

theorem build_nil (a1 : Option Addr) (l1 c1 : Nat) (w : World) : Calls Yba.prog 5 #[.slice none 0 0, .slice a1 l1 c1] w fun e w' => e = .returned (.slice none 0 0) ∧ w' = w := by
  have q22 := nil22
  go_enter Yba.func5, Yba.ntmps5
  go_wp2_with fail
  go_ret
  exact ⟨rfl, rfl⟩

set_option maxRecDepth 100000 in
theorem build_any (x : Addr) (n c0 l1 c1 : Nat) (a1 : Option Addr) (H : Nat → Int) (w : World) (hn : n ≤ 1024) (hh : ∀ i, i < n → w.cell? (x.add i) = some (.int .u64 (H i)))
    (hp : ∀ i, i < l1 → ∃ y z, a1 = some y ∧ w.cell? (y.add i) = some (.int .i64 z)) :
    Calls Yba.prog 5 #[.slice (some x) n c0, .slice a1 l1 c1] w fun e w' => e = .returned (.slice (some ⟨w.heap.size, 0, none⟩) n n) ∧ Pieces w' w.heap.size n H n ∧ Below w.heap.size w w' := by
  have hmk := make_hp n hn
  have HP : Hid _ := hp
  have HH : Hid _ := hh
  clear hp hh
  have q22 := nil22
  go_enter Yba.func5, Yba.ntmps5
  go_wp2_with fail
  obtain ⟨pb, hpb⟩ : ∃ pb, pb = w.heap.size := ⟨_, rfl⟩
  rw [← hpb]
  have HPB : Hid _ := hpb
  clear hpb
  go_loopg [6] n (fun g kv wr => ∃ i : Nat, kv = .int .i64 (i : Int) ∧ (i + g = n ∧ Pieces wr pb n H i ∧ Below w.heap.size w wr))
  case atStart =>
    refine ⟨0, rfl, by omega, ⟨fun i => if i % 2 = 0 then .int .u64 0 else .int .i64 0, ?_, fun j hj => by omega, fun j => ⟨0, if_neg (by omega)⟩⟩, ?_⟩
    · rw [HPB.out]
      have h := World.rowIs_alloc w (madeCells #[.int .u64 0, .int .i64 0] (n * 2)) 42 (fun i => if i % 2 = 0 then .int .u64 0 else .int .i64 0) (fun i hi => by
        rw [size_madeCells] at hi
        exact made2 _ _ hi)
      rw [size_madeCells] at h
      exact h
    · exact (Below.refl _ _).alloc (Nat.le_refl _) _
  case round =>
    clear hmk
    obtain ⟨i, rfl, hE⟩ := hrel
    have HE : Hid _ := hE
    clear hE
    by_cases hi : i < n
    · have ch : wr.cell? (x.add i) = some (.int .u64 (H i)) := (HE.out.2.2.cell (p := x.add i) (World.block_lt_of_cell? _ _ (HH.out i hi))).trans (HH.out i hi)
      obtain ⟨f, hr, h1, h2⟩ := HE.out.2.1
      have s0 := hr.cell (i := i * 2) (by omega)
      have s1 := hr.cell (i := i * 2 + 1) (by omega)
      have z0 := hr.frozen (i * 2)
      have z1 := hr.frozen (i * 2 + 1)
      have HS : Hid (∀ z, Pieces ((wr.setCell ⟨pb, i * 2, none⟩ (.int .u64 (H i))).setCell ⟨pb, i * 2 + 1, none⟩ (.int .i64 z)) pb n H (i + 1)) := HE.out.2.1.set
      generalize f (i * 2) = v0 at *
      generalize f (i * 2 + 1) = v1 at *
      clear h1 h2 hr f
      generalize H i = hi' at *
      by_cases hp : i < l1
      · obtain ⟨y, z, rfl, hc⟩ := HP.out i hp
        have cp : wr.cell? (y.add i) = some (.int .i64 z) := (HE.out.2.2.cell (p := y.add i) (World.block_lt_of_cell? _ _ hc)).trans hc
        clear hc
        go_wp2_with fail
        go_roundg (gk - 1)
        case measure => have := HE.out.1; omega
        case rel => exact ⟨i + 1, by go_num, by have := HE.out.1; omega, HS.out _, ((HE.out.2.2.setCell (by rw [HPB.out]; exact Nat.le_refl _) _).setCell (by rw [HPB.out]; exact Nat.le_refl _) _)⟩
      · go_wp2_with fail
        go_roundg (gk - 1)
        case measure => have := HE.out.1; omega
        case rel => exact ⟨i + 1, by go_num, by have := HE.out.1; omega, HS.out _, ((HE.out.2.2.setCell (by rw [HPB.out]; exact Nat.le_refl _) _).setCell (by rw [HPB.out]; exact Nat.le_refl _) _)⟩
    · have hin : i = n := by have := HE.out.1; omega
      subst hin
      go_wp2_with fail
      go_ret
      have hpb := HPB.out
      subst hpb
      exact ⟨rfl, HE.out.2.1, HE.out.2.2⟩
end Go.Proofs.Ybulkukw
