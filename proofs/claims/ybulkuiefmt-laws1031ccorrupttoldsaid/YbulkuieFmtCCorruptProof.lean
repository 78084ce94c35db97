/-
  THE CARD 'Rows.LawS1031CCorruptToldSaid': tracewright.LawS1031CCorrupt answers true at every input. fmt's text is told by the form's own function; nothing of the proof looks into it.
-/
import Derived.Test.YbulkuieFmtCards
import Derived.Test.YbulkuieFmtTie
import Derived.Test.YbulkuieFmtCFrame
import Derived.Test.YbulkuieFmtCCorrupt2
import Derived.SevenTiedAt
import Derived.Stop.JoinedAt
namespace Go.Proofs.YbulkuieFmt.cCorrupt
open Go.ChangeShapes Go.WideShapes Go.ChangeAt Go.RowKit
open Go.Extern.Stop Go.Stop Go.Extern C
set_option linter.unusedVariables false

theorem roots_in {w : World} {ro : Option Addr} {m cm : Nat} {zs : List Int} (h : IsRow .u8 w ro m cm zs) : m ≤ 9223372036854775807 ∧ ∀ i, i < m → RootIn w ro ((zs.getD i 0).toNat) i := by
  rcases h with ⟨rfl, rfl, rfl, rfl⟩ | ⟨x, rfl, hle, hm, hz, hc, hwf⟩
  · exact ⟨by omega, fun i hi => by omega⟩
  · refine ⟨by unfold maxLen at hm; omega, fun i hi => ?_⟩
    have hi' : i < zs.length := by omega
    have hg : zs.getD i 0 = zs[i] := by simp [List.getD, hi']
    obtain ⟨b0, b1⟩ := bounds_u8 (hwf _ (List.getElem_mem hi'))
    have hcc := hc i hi'
    refine ⟨by rw [hg]; omega, x, rfl, World.block_lt_of_cell? _ _ hcc, ?_⟩
    rw [hcc, hg, Int.toNat_of_nonneg b0]

theorem walk (ao ro : Option Addr) (n cn m cm : Nat) (zs : List Int) (kv : Int) (w : World) (w0 : n ≤ maxLen ∧ ∃ bs : Nat → Blk, ∀ k, k < n → BlkIn w ao (bs k) k) (w1 : IsRow .u8 w ro m cm zs) (w2 : (Lit.int .u8 kv).wf = true) (a : Addr) (s : ByteArray) (hs : Sent w 4 a s) :
    Calls Ybaf.prog 6 #[.slice ao n cn, .slice ro m cm, .int .u8 kv] w fun e w' => e = .returned (.bool true) ∧ Below w.heap.size w w' := by
  obtain ⟨hn, bs, hb⟩ := w0
  obtain ⟨hm, hr⟩ := roots_in w1
  obtain ⟨b0, b1⟩ := bounds_u8 w2
  obtain ⟨k, rfl⟩ := Int.eq_ofNat_of_zero_le b0
  by_cases h : n ≤ 1024 ∧ m ≤ 1024
  · have hk : (k : Int) % 4 = 0 ∨ (k : Int) % 4 = 1 ∨ (k : Int) % 4 = 2 ∨ (k : Int) % 4 = 3 := by omega
    rcases hk with hk | hk | hk | hk
    · exact corrupt0 bs n cn (fun i => (zs.getD i 0).toNat) m cm ao ro k w h.1 h.2 hb hr (by omega) hk a s hs
    · exact corrupt1 bs n cn (fun i => (zs.getD i 0).toNat) m cm ao ro k w h.1 h.2 hb hr (by omega) hk a s hs
    · exact corrupt2 bs n cn (fun i => (zs.getD i 0).toNat) m cm ao ro k w h.1 h.2 hb hr (by omega) hk a s hs
    · exact corrupt3 bs n cn (fun i => (zs.getD i 0).toNat) m cm ao ro k w h.1 h.2 hb hr (by omega) hk a s hs
  · exact corrupt_long n cn m cm ao ro k w (by omega) (by unfold maxLen at hn; omega) hm

set_option maxRecDepth 100000 in
theorem lifted (os : Os) (started : os.Started) (H : Type) (enc : TypeId × Value → H) :
    ReturnsInTold none {} Ybaf.checked os 6 .any Input.okWide ((OpenSpec.ofChange Rows.lawS1031CCorruptSpec).preRow enc Ybaf.prog Ybaf.f6 Rows.lawS1031CCorruptRow.domain false Rows.lawS1031CCorruptRow.laid)
      (fun F => ((OpenSpec.ofChange Rows.lawS1031CCorruptSpec).at F).post enc Ybaf.prog Ybaf.f6 false true false false) (aloneAtReturn Ybaf.prog) nothingAlways := by
  refine returnsInTold_of_row (C := Ybaf.checked) (s := OpenSpec.ofChange Rows.lawS1031CCorruptSpec) (by kernel_rfl) own started (by kernel_rfl) Ybaf.func6
    (OpenSpec.witness_stopped_atRef (enc := enc) (C := Ybaf.checked) false (World.doorLaid Ybaf.prog 104 os) #[.slice none 0 0, .slice none 0 0, .int .u8 0] rfl (by kernel_rfl) (by kernel_rfl) (by kernel_rfl)
      (OpenSpec.preRow_of_B rfl 8 (by kernel_rfl) (by kernel_rfl) (door1 os _))) ?_
  intro F W base args ds gs before _ hF hval0 hW _ _ _ hL _
  have hval : ∀ (j : Nat) t v, Ybaf.f6.params[j]? = some t → args[j]? = some v → Value.okWide Ybaf.prog W .any base t v := hval0
  have hW' := hW
  obtain ⟨p, q, hA0, hV0, rfl, hfz, hnd⟩ := hW
  have hA : DataW.TrodAll enc Ybaf.prog W 0 (fun _ => true) true Ybaf.f6.params.toList args.toList ds p := hA0
  have hV : DataW.TrodVars enc Ybaf.prog W (fun _ => true) Rows.lawS1031CCorruptSpec.vars gs q := hV0
  rw [Ybaf.params6] at hA hval
  obtain ⟨v0, vs0, d0, ds0, p0, q0, hargs, rfl, rfl, h0, r0⟩ := trodAll_cons hA
  obtain ⟨v1, vs1, d1, ds1, p1, q1, rfl, rfl, rfl, h1, r1⟩ := trodAll_cons r0
  obtain ⟨v2, vs2, d2, ds2, p2, q2, rfl, rfl, rfl, h2, r2⟩ := trodAll_cons r1
  obtain ⟨rfl, rfl, rfl⟩ := trodAll_nil r2
  obtain rfl : args = #[v0, v1, v2] := by cases args; simp_all
  obtain ⟨a0, len0, cap0, rfl⟩ := okWide_slice Ybaf.underlying37 (hval 0 37 v0 rfl rfl)
  have k0 := h0
  have lt0 : ∀ x ∈ p0, x.block < W.heap.size := by obtain ⟨m, hm⟩ := k0; exact DataW.trod_lt m _ _ _ hm
  have w0 : len0 ≤ maxLen ∧ ∃ bs : Nat → Blk, ∀ k, k < len0 → BlkIn W a0 (bs k) k := by
    obtain ⟨fuel, hf⟩ := h0
    exact open_blocks (by simpa [Value.cells] using hf)
  obtain ⟨a1, len1, cap1, rfl⟩ := okWide_slice Ybaf.underlying38 (hval 1 38 v1 rfl rfl)
  have k1 := h1
  have lt1 : ∀ x ∈ p1, x.block < W.heap.size := by obtain ⟨m, hm⟩ := k1; exact DataW.trod_lt m _ _ _ hm
  obtain ⟨z1, w1⟩ : ∃ zs, IsRow .u8 W a1 len1 cap1 zs := by
    obtain ⟨fuel, hf⟩ := h1
    rcases open_ints Ybaf.underlying38 Ybaf.underlying5 (by kernel_rfl) hf with ⟨hcs, _⟩ | ⟨x, l, c, zs, hcs, _, hl, hm, hz, _, hcell, hwz⟩
    · simp [Value.cells] at hcs
      obtain ⟨rfl, rfl, rfl⟩ := hcs
      exact ⟨[], .inl ⟨rfl, rfl, rfl, rfl⟩⟩
    · simp [Value.cells] at hcs
      obtain ⟨rfl, rfl, rfl⟩ := hcs
      exact ⟨zs, .inr ⟨_, rfl, hl, hm, by simpa using hz, hcell, hwz⟩⟩
  obtain ⟨a2, rfl, rfl, rfl, w2⟩ := open_int Ybaf.underlying5 (hval 2 5 v2 rfl rfl) h2
  obtain ⟨aI, sI, hI⟩ := one_of_laid hL
  match gs, hV with
  | [y0], hV =>
  clear hA0 hval0
  refine (walk a0 a1 len0 cap0 len1 cap1 z1 a2 W w0 w1 w2 aI sI hI).mono fun e W' ⟨he, bel⟩ => ?_
  subst he
  have hVb := Below.trodVars laidOut bel (ns := Rows.lawS1031CCorruptSpec.vars) (by kernel_rfl) hV
  exact ⟨_, rfl, _, _, _, [], _, q, hW', trodAll_mk1 (shut_bool Ybaf.underlying4 _), (trodAll_cons_mk (Below.trod laidOut (by kernel_rfl) (of_decide_eq_true (by kernel_rfl)) k0 bel lt0) (trodAll_cons_mk (Below.trod laidOut (by kernel_rfl) (of_decide_eq_true (by kernel_rfl)) k1 bel lt1) (trodAll_cons_mk (shut_int Ybaf.underlying5 w2) trodAll_mk0))), hVb, bel.frame _, fun h => by cases h⟩

theorem card : Rows.LawS1031CCorruptToldSaid :=
  Claim7.holds_of_told_tied_any_at .later 6 Ybaf.f6 "fmt.errorf" [] [] _ _ _ _ _ (by kernel_rfl) rfl rfl rfl laidOut (by kernel_rfl) rfl ⟨rfl, rfl, rfl, rfl, rfl, rfl, rfl⟩ rfl rfl (by kernel_rfl) (by kernel_rfl) Ybaf.func6 (by kernel_rfl)
    (of_decide_eq_true (by kernel_rfl)) (of_decide_eq_true (by kernel_rfl)) stops.symm rfl stopKnobs.symm (by kernel_rfl)
    (by kernel_rfl) (by kernel_rfl) (by kernel_rfl) (by kernel_rfl) (by kernel_rfl) (by kernel_rfl) (by kernel_rfl) (by kernel_rfl) (by kernel_rfl) rfl (by kernel_rfl) rfl rfl
    rfl rfl
    rfl (by kernel_rfl) (by kernel_rfl) (by kernel_rfl) (by decide) (by kernel_rfl) lawS1031CCorrupt_row_tie
    (OpenClaim.moreEntering_of (by kernel_rfl) (by kernel_rfl) (by kernel_rfl) (by kernel_rfl) (by kernel_rfl) (by kernel_rfl) (by kernel_rfl) (by kernel_rfl) (by kernel_rfl) (by kernel_rfl))
    ⟨_, WideRow.started_initial, quiet _⟩
    (fun os started _ H enc _ => lifted os started H enc)

theorem proved : Rows.LawS1031CCorruptToldSaid := card
end Go.Proofs.YbulkuieFmt.cCorrupt
