/-
  THE CARD 'Rows.LawS1031BRefusalToldSaid': tracewright.LawS1031BRefusal answers true at every input. fmt's text is told by the form's own function; nothing of the proof looks into it.
-/
import Derived.Test.YbulkuieFmtCards
import Derived.Test.YbulkuieFmtTie
import Derived.Test.YbulkuieFmtFrame
import Derived.Test.YbulkuieFmtBLaws2
import Derived.SevenTiedAt
import Derived.Stop.JoinedAt
namespace Go.Proofs.YbulkuieFmt.bRefusal
open Go.ChangeShapes Go.WideShapes Go.ChangeAt Go.RowKit
open Go.Extern.Stop Go.Stop Go.Extern
set_option linter.unusedVariables false

theorem walk (a0 b m i : Int) (ao : Option Addr) (n cap : Nat) (zs : List Int) (w : World) (w0 : (Lit.int .u8 a0).wf = true) (w1 : IsRow .u64 w ao n cap zs) (w2 : (Lit.int .u64 b).wf = true) (w3 : (Lit.int .u8 m).wf = true) (w4 : (Lit.int .i64 i).wf = true)
    (s0 : ∃ a s, Sent w 0 a s) (s1 : ∃ a s, Sent w 1 a s) (s2 : ∃ a s, Sent w 2 a s) (s3 : ∃ a s, Sent w 3 a s) :
    Calls Ybaf.prog 4 #[.int .u8 a0, .slice ao n cap, .int .u64 b, .int .u8 m, .int .i64 i] w fun e w' => e = .returned (.bool true) ∧ Below w.heap.size w w' := by
  obtain ⟨b0, b1⟩ := bounds_u8 w0
  obtain ⟨c0, c1⟩ := bounds_u64 w2
  obtain ⟨m0, m1⟩ := bounds_u8 w3
  obtain ⟨i0, i1⟩ := bounds_i64 w4
  obtain ⟨aI, tI, hI⟩ := s0
  obtain ⟨aN, tN, hN⟩ := s1
  obtain ⟨aB, tB, hB⟩ := s2
  obtain ⟨aS, tS, hS⟩ := s3
  have hr : a0 % 4 = (((a0 % 4).toNat : Nat) : Int) := by omega
  by_cases hn : n ≤ 1024
  · obtain ⟨bb, hbb, d0, d1⟩ := BBof.some b m c0 c1
    -- the words
    have hw : ∃ ws, WordsAt w ao n ws ∧ (0 < n → ∃ x off, ao = some ⟨x, off, none⟩ ∧ x < w.heap.size ∧ ∀ j, j < n → w.cell? ⟨x, off + j, none⟩ = some (.int .u64 (ws j))) := by
      rcases w1 with ⟨rfl, rfl, rfl, rfl⟩ | ⟨x, rfl, hle, hm, hz, hc, hwf⟩
      · exact ⟨fun _ => 0, .inl rfl, fun h => absurd h (by omega)⟩
      · rcases Nat.eq_zero_or_pos n with rfl | hpos
        · exact ⟨fun _ => 0, .inl rfl, fun h => absurd h (by omega)⟩
        · obtain ⟨x, off, rfl, hc'⟩ := ints_at hc (by omega)
          have hlt : x < w.heap.size := World.block_lt_of_cell? _ _ (hc' 0 (by omega))
          have hcn : ∀ j, j < n → w.cell? ⟨x, off + j, none⟩ = some (.int .u64 (zs.getD j 0)) := fun j hj => hc' j (by omega)
          exact ⟨fun j => zs.getD j 0, WordsAt.of hlt hcn, fun _ => ⟨x, off, rfl, hlt, hcn⟩⟩
    obtain ⟨ws, hW, hW2⟩ := hw
    by_cases hq : bb = 1970324836974593
    · subst hq
      by_cases hi : 0 ≤ i ∧ i < n
      · obtain ⟨k, rfl⟩ := Int.eq_ofNat_of_zero_le hi.1
        obtain ⟨x, off, rfl, hlt, hcn⟩ := hW2 (by omega)
        exact refusal_in a0 b m m0 m1 _ n cap x off k ws w hn b0 b1 hr hlt hcn (by omega) hbb
      · exact refusal_out a0 b m m0 m1 _ n cap i ao ws w hn b0 b1 hr hW i0 i1 (by omega) aI tI hI hbb
    · by_cases hz : bb = 0
      · subst hz
        exact refusal_0 a0 b m m0 m1 _ n cap i ao ws w hn b0 b1 hr hW aN tN hN hbb
      · have hz' : (bb == 0) = false := by simpa using hz
        cases h7 : (bb / 281474976710656 != 7) with
        | true => exact refusal_7 a0 b m m0 m1 _ n cap i ao bb ws w hn b0 b1 hr hW aB tB hB d0 d1 hq hz' h7 hbb
        | false =>
          cases h16 : (bb / 65536 != 30064771072) with
          | true => exact refusal_16 a0 b m m0 m1 _ n cap i ao bb ws w hn b0 b1 hr hW aS tS hS d0 d1 hq hz' h7 h16 hbb
          | false => exact refusal_rest a0 b m m0 m1 _ n cap i ao bb ws w hn b0 b1 hr hW aB tB hB d0 d1 hq hz' h7 h16 hbb
  · refine refusal_long a0 b m i n cap ao w (by omega) ?_
    rcases w1 with ⟨_, rfl, _⟩ | ⟨x, _, hle, hm, _⟩
    · omega
    · unfold maxLen at hm; omega


set_option maxRecDepth 100000 in
theorem lifted (os : Os) (started : os.Started) (H : Type) (enc : TypeId × Value → H) :
    ReturnsInTold none {} Ybaf.checked os 4 .any Input.okWide ((OpenSpec.ofChange Rows.lawS1031BRefusalSpec).preRow enc Ybaf.prog Ybaf.f4 Rows.lawS1031BRefusalRow.domain false Rows.lawS1031BRefusalRow.laid)
      (fun F => ((OpenSpec.ofChange Rows.lawS1031BRefusalSpec).at F).post enc Ybaf.prog Ybaf.f4 false true false false) (aloneAtReturn Ybaf.prog) nothingAlways := by
  refine returnsInTold_of_row (C := Ybaf.checked) (s := OpenSpec.ofChange Rows.lawS1031BRefusalSpec) (by kernel_rfl) own started (by kernel_rfl) Ybaf.func4
    (OpenSpec.witness_stopped_atRef (enc := enc) (C := Ybaf.checked) false (World.doorLaid Ybaf.prog 104 os) #[.int .u8 0, .slice none 0 0, .int .u64 0, .int .u8 0, .int .i64 0] rfl (by kernel_rfl) (by kernel_rfl) (by kernel_rfl)
      (OpenSpec.preRow_of_B rfl 8 (by kernel_rfl) (by kernel_rfl) (door4 os _))) ?_
  intro F W base args ds gs before _ hF hval0 hW _ _ _ hL _
  have hval : ∀ (j : Nat) t v, Ybaf.f4.params[j]? = some t → args[j]? = some v → Value.okWide Ybaf.prog W .any base t v := hval0
  have hW' := hW
  obtain ⟨p, q, hA0, hV0, rfl, hfz, hnd⟩ := hW
  have hA : DataW.TrodAll enc Ybaf.prog W 0 (fun _ => true) true Ybaf.f4.params.toList args.toList ds p := hA0
  have hV : DataW.TrodVars enc Ybaf.prog W (fun _ => true) Rows.lawS1031BRefusalSpec.vars gs q := hV0
  rw [Ybaf.params4] at hA hval
  obtain ⟨v0, vs0, d0, ds0, p0, q0, hargs, rfl, rfl, h0, r0⟩ := trodAll_cons hA
  obtain ⟨v1, vs1, d1, ds1, p1, q1, rfl, rfl, rfl, h1, r1⟩ := trodAll_cons r0
  obtain ⟨v2, vs2, d2, ds2, p2, q2, rfl, rfl, rfl, h2, r2⟩ := trodAll_cons r1
  obtain ⟨v3, vs3, d3, ds3, p3, q3, rfl, rfl, rfl, h3, r3⟩ := trodAll_cons r2
  obtain ⟨v4, vs4, d4, ds4, p4, q4, rfl, rfl, rfl, h4, r4⟩ := trodAll_cons r3
  obtain ⟨rfl, rfl, rfl⟩ := trodAll_nil r4
  obtain rfl : args = #[v0, v1, v2, v3, v4] := by cases args; simp_all
  obtain ⟨a0, rfl, rfl, rfl, w0⟩ := open_int Ybaf.underlying5 (hval 0 5 v0 rfl rfl) h0
  obtain ⟨a1, len1, cap1, rfl⟩ := okWide_slice Ybaf.underlying22 (hval 1 22 v1 rfl rfl)
  have k1 := h1
  have lt1 : ∀ x ∈ p1, x.block < W.heap.size := by obtain ⟨m, hm⟩ := k1; exact DataW.trod_lt m _ _ _ hm
  obtain ⟨z1, w1⟩ : ∃ zs, IsRow .u64 W a1 len1 cap1 zs := by
    obtain ⟨fuel, hf⟩ := h1
    rcases open_ints Ybaf.underlying22 Ybaf.underlying24 (by kernel_rfl) hf with ⟨hcs, _⟩ | ⟨x, l, c, zs, hcs, _, hl, hm, hz, _, hcell, hwz⟩
    · simp [Value.cells] at hcs
      obtain ⟨rfl, rfl, rfl⟩ := hcs
      exact ⟨[], .inl ⟨rfl, rfl, rfl, rfl⟩⟩
    · simp [Value.cells] at hcs
      obtain ⟨rfl, rfl, rfl⟩ := hcs
      exact ⟨zs, .inr ⟨_, rfl, hl, hm, by simpa using hz, hcell, hwz⟩⟩
  obtain ⟨a2, rfl, rfl, rfl, w2⟩ := open_int Ybaf.underlying24 (hval 2 24 v2 rfl rfl) h2
  obtain ⟨a3, rfl, rfl, rfl, w3⟩ := open_int Ybaf.underlying5 (hval 3 5 v3 rfl rfl) h3
  obtain ⟨a4, rfl, rfl, rfl, w4⟩ := open_int Ybaf.underlying3 (hval 4 3 v4 rfl rfl) h4
  obtain ⟨s0, s1, s2, s3⟩ := four_of_laid hL
  match gs, hV with
  | [y0, y1, y2, y3], hV =>
  clear hA0 hval0
  refine (walk a0 a2 a3 a4 a1 len1 cap1 z1 W w0 w1 w2 w3 w4 s0 s1 s2 s3).mono fun e W' ⟨he, bel⟩ => ?_
  subst he
  have hVb := Below.trodVars laidOut bel (ns := Rows.lawS1031BRefusalSpec.vars) (by kernel_rfl) hV
  exact ⟨_, rfl, _, _, _, [], _, q, hW', trodAll_mk1 (shut_bool Ybaf.underlying4 _), (trodAll_cons_mk (shut_int Ybaf.underlying5 w0) (trodAll_cons_mk (Below.trod laidOut (by kernel_rfl) (of_decide_eq_true (by kernel_rfl)) k1 bel lt1) (trodAll_cons_mk (shut_int Ybaf.underlying24 w2) (trodAll_cons_mk (shut_int Ybaf.underlying5 w3) (trodAll_cons_mk (shut_int Ybaf.underlying3 w4) trodAll_mk0))))), hVb, bel.frame _, fun h => by cases h⟩

theorem card : Rows.LawS1031BRefusalToldSaid :=
  Claim7.holds_of_told_tied_any_at .later 4 Ybaf.f4 "fmt.errorf" [] [] _ _ _ _ _ (by kernel_rfl) rfl rfl rfl laidOut (by kernel_rfl) rfl ⟨rfl, rfl, rfl, rfl, rfl, rfl, rfl⟩ rfl rfl (by kernel_rfl) (by kernel_rfl) Ybaf.func4 (by kernel_rfl)
    (of_decide_eq_true (by kernel_rfl)) (of_decide_eq_true (by kernel_rfl)) stops.symm rfl stopKnobs.symm (by kernel_rfl)
    (by kernel_rfl) (by kernel_rfl) (by kernel_rfl) (by kernel_rfl) (by kernel_rfl) (by kernel_rfl) (by kernel_rfl) (by kernel_rfl) (by kernel_rfl) rfl (by kernel_rfl) rfl rfl
    rfl rfl
    rfl (by kernel_rfl) (by kernel_rfl) (by kernel_rfl) (by decide) (by kernel_rfl) lawS1031BRefusal_row_tie
    (OpenClaim.moreEntering_of (by kernel_rfl) (by kernel_rfl) (by kernel_rfl) (by kernel_rfl) (by kernel_rfl) (by kernel_rfl) (by kernel_rfl) (by kernel_rfl) (by kernel_rfl) (by kernel_rfl))
    ⟨_, WideRow.started_initial, quiet _⟩
    (fun os started _ H enc _ => lifted os started H enc)

theorem proved : Rows.LawS1031BRefusalToldSaid := card
end Go.Proofs.YbulkuieFmt.bRefusal
