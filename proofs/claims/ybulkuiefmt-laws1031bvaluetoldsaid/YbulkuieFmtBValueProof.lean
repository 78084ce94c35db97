/-
  THE CARD 'Rows.LawS1031BValueToldSaid': tracewright.LawS1031BValue answers true at every input. fmt's text is told by the form's own function; nothing of the proof looks into it.
-/
import Derived.Test.YbulkuieFmtCards
import Derived.Test.YbulkuieFmtTie
import Derived.Test.YbulkuieFmtFrame
import Derived.Test.YbulkuieFmtBLaws
import Derived.SevenTiedAt
import Derived.Stop.JoinedAt
namespace Go.Proofs.YbulkuieFmt.bValue
open Go.ChangeShapes Go.WideShapes Go.ChangeAt Go.RowKit
open Go.Extern.Stop Go.Stop Go.Extern
set_option linter.unusedVariables false

theorem walk (a0 i : Int) (ao : Option Addr) (n cap : Nat) (zs : List Int) (w : World) (w0 : (Lit.int .u8 a0).wf = true) (w1 : IsRow .u64 w ao n cap zs) (w2 : (Lit.int .i64 i).wf = true) (a : Addr) (s : ByteArray) (hs : Sent w 0 a s) :
    Calls Ybaf.prog 3 #[.int .u8 a0, .slice ao n cap, .int .i64 i] w fun e w' => e = .returned (.bool true) ∧ Below w.heap.size w w' := by
  obtain ⟨b0, b1⟩ := bounds_u8 w0
  obtain ⟨i0, i1⟩ := bounds_i64 w2
  have hr : a0 % 4 = (((a0 % 4).toNat : Nat) : Int) := by omega
  by_cases hn : n ≤ 1024
  · rcases w1 with ⟨rfl, rfl, rfl, rfl⟩ | ⟨x, rfl, hle, hm, hz, hc, hwf⟩
    · exact value_out a0 i _ 0 0 none (fun _ => 0) w (by omega) b0 b1 hr (.inl rfl) i0 i1 (by omega) a s hs
    · rcases Nat.eq_zero_or_pos n with rfl | hpos
      · exact value_out a0 i _ 0 cap (some x) (fun _ => 0) w (by omega) b0 b1 hr (.inl rfl) i0 i1 (by omega) a s hs
      · obtain ⟨b, off, rfl, hc'⟩ := ints_at hc (by omega)
        have hlt : b < w.heap.size := World.block_lt_of_cell? _ _ (hc' 0 (by omega))
        have hcn : ∀ j, j < n → w.cell? ⟨b, off + j, none⟩ = some (.int .u64 (zs.getD j 0)) := fun j hj => hc' j (by omega)
        by_cases hi : 0 ≤ i ∧ i < n
        · obtain ⟨k, rfl⟩ := Int.eq_ofNat_of_zero_le hi.1
          exact value_in a0 _ k n cap b off (fun j => zs.getD j 0) w hn b0 b1 hr hlt hcn (by omega)
        · exact value_out a0 i _ n cap _ (fun j => zs.getD j 0) w hn b0 b1 hr (WordsAt.of hlt hcn) i0 i1 (by omega) a s hs
  · refine value_long a0 i n cap ao w (by omega) ?_
    rcases w1 with ⟨_, rfl, _⟩ | ⟨x, _, hle, hm, _⟩
    · omega
    · unfold maxLen at hm; omega


set_option maxRecDepth 100000 in
theorem lifted (os : Os) (started : os.Started) (H : Type) (enc : TypeId × Value → H) :
    ReturnsInTold none {} Ybaf.checked os 3 .any Input.okWide ((OpenSpec.ofChange Rows.lawS1031BValueSpec).preRow enc Ybaf.prog Ybaf.f3 Rows.lawS1031BValueRow.domain false Rows.lawS1031BValueRow.laid)
      (fun F => ((OpenSpec.ofChange Rows.lawS1031BValueSpec).at F).post enc Ybaf.prog Ybaf.f3 false true false false) (aloneAtReturn Ybaf.prog) nothingAlways := by
  refine returnsInTold_of_row (C := Ybaf.checked) (s := OpenSpec.ofChange Rows.lawS1031BValueSpec) (by kernel_rfl) own started (by kernel_rfl) Ybaf.func3
    (OpenSpec.witness_stopped_atRef (enc := enc) (C := Ybaf.checked) false (World.doorLaid Ybaf.prog 104 os) #[.int .u8 0, .slice none 0 0, .int .i64 0] rfl (by kernel_rfl) (by kernel_rfl) (by kernel_rfl)
      (OpenSpec.preRow_of_B rfl 8 (by kernel_rfl) (by kernel_rfl) (door4 os _))) ?_
  intro F W base args ds gs before _ hF hval0 hW _ _ _ hL _
  have hval : ∀ (j : Nat) t v, Ybaf.f3.params[j]? = some t → args[j]? = some v → Value.okWide Ybaf.prog W .any base t v := hval0
  have hW' := hW
  obtain ⟨p, q, hA0, hV0, rfl, hfz, hnd⟩ := hW
  have hA : DataW.TrodAll enc Ybaf.prog W 0 (fun _ => true) true Ybaf.f3.params.toList args.toList ds p := hA0
  have hV : DataW.TrodVars enc Ybaf.prog W (fun _ => true) Rows.lawS1031BValueSpec.vars gs q := hV0
  rw [Ybaf.params3] at hA hval
  obtain ⟨v0, vs0, d0, ds0, p0, q0, hargs, rfl, rfl, h0, r0⟩ := trodAll_cons hA
  obtain ⟨v1, vs1, d1, ds1, p1, q1, rfl, rfl, rfl, h1, r1⟩ := trodAll_cons r0
  obtain ⟨v2, vs2, d2, ds2, p2, q2, rfl, rfl, rfl, h2, r2⟩ := trodAll_cons r1
  obtain ⟨rfl, rfl, rfl⟩ := trodAll_nil r2
  obtain rfl : args = #[v0, v1, v2] := by cases args; simp_all
  obtain ⟨a0, rfl, rfl, rfl, w0⟩ := open_int Ybaf.underlying5 (hval 0 5 v0 rfl rfl) h0
  obtain ⟨a1, len1, cap1, rfl⟩ := okWide_slice Ybaf.underlying22 (hval 1 22 v1 rfl rfl)
  have k1 := h1
  have lt1 : ∀ x ∈ p1, x.block < W.heap.size := by obtain ⟨m, hm⟩ := k1; exact DataW.trod_lt m _ _ _ hm
  obtain ⟨z1, w1⟩ : ∃ zs, IsRow .u64 W a1 len1 cap1 zs := by
    obtain ⟨fuel, hf⟩ := h1
    rcases open_ints Ybaf.underlying22 Ybaf.underlying24 (by kernel_rfl) hf with ⟨hcs, _⟩ | ⟨x, l, c, zs, hcs, _, hl, hm, hz, _, hcell, hwz⟩
    · simp [Value.cells] at hcs
      obtain ⟨rfl, rfl, rfl⟩ := hcs
      exact ⟨[], .inl ⟨rfl, rfl, rfl, rfl⟩⟩
    · simp [Value.cells] at hcs
      obtain ⟨rfl, rfl, rfl⟩ := hcs
      exact ⟨zs, .inr ⟨_, rfl, hl, hm, by simpa using hz, hcell, hwz⟩⟩
  obtain ⟨a2, rfl, rfl, rfl, w2⟩ := open_int Ybaf.underlying3 (hval 2 3 v2 rfl rfl) h2
  obtain ⟨⟨aI, sI, hI⟩, _⟩ := four_of_laid hL
  match gs, hV with
  | [y0, y1, y2, y3], hV =>
  clear hA0 hval0
  refine (walk a0 a2 a1 len1 cap1 z1 W w0 w1 w2 aI sI hI).mono fun e W' ⟨he, bel⟩ => ?_
  subst he
  have hVb := Below.trodVars laidOut bel (ns := Rows.lawS1031BValueSpec.vars) (by kernel_rfl) hV
  exact ⟨_, rfl, _, _, _, [], _, q, hW', trodAll_mk1 (shut_bool Ybaf.underlying4 _), (trodAll_cons_mk (shut_int Ybaf.underlying5 w0) (trodAll_cons_mk (Below.trod laidOut (by kernel_rfl) (of_decide_eq_true (by kernel_rfl)) k1 bel lt1) (trodAll_cons_mk (shut_int Ybaf.underlying3 w2) trodAll_mk0))), hVb, bel.frame _, fun h => by cases h⟩

theorem card : Rows.LawS1031BValueToldSaid :=
  Claim7.holds_of_told_tied_any_at .later 3 Ybaf.f3 "fmt.errorf" [] [] _ _ _ _ _ (by kernel_rfl) rfl rfl rfl laidOut (by kernel_rfl) rfl ⟨rfl, rfl, rfl, rfl, rfl, rfl, rfl⟩ rfl rfl (by kernel_rfl) (by kernel_rfl) Ybaf.func3 (by kernel_rfl)
    (of_decide_eq_true (by kernel_rfl)) (of_decide_eq_true (by kernel_rfl)) stops.symm rfl stopKnobs.symm (by kernel_rfl)
    (by kernel_rfl) (by kernel_rfl) (by kernel_rfl) (by kernel_rfl) (by kernel_rfl) (by kernel_rfl) (by kernel_rfl) (by kernel_rfl) (by kernel_rfl) rfl (by kernel_rfl) rfl rfl
    rfl rfl
    rfl (by kernel_rfl) (by kernel_rfl) (by kernel_rfl) (by decide) (by kernel_rfl) lawS1031BValue_row_tie
    (OpenClaim.moreEntering_of (by kernel_rfl) (by kernel_rfl) (by kernel_rfl) (by kernel_rfl) (by kernel_rfl) (by kernel_rfl) (by kernel_rfl) (by kernel_rfl) (by kernel_rfl) (by kernel_rfl))
    ⟨_, WideRow.started_initial, quiet _⟩
    (fun os started _ H enc _ => lifted os started H enc)

theorem proved : Rows.LawS1031BValueToldSaid := card
end Go.Proofs.YbulkuieFmt.bValue
