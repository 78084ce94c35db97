/-
  zzs1031cbuild (seat b1031aF): the walk.
-/
import Derived.Test.YbulkuieFmtCMid
import Derived.Deep.LoopGhost
namespace Go.Proofs.YbulkuieFmt
open Go.RowKit C

/-- The first pass has come to block k. -/
def In2 (bs : Nat → Blk) (w wr : World) (ab sb hb ob n top L k p o q : Nat) : Prop :=
  p = pos bs k ∧ o = ow bs k ∧ q = (objs bs k).length ∧ ∃ H, HIs H ab sb top L (fun z => lnk (chain bs z k)) (ne bs k) ∧ Mid w wr ab sb hb ob n top L (A2 bs k) (B bs k) H (objs bs k)

theorem bits_zero (w : World) (L : Nat) : BitsAt (w.alloc (.cells (madeCells #[.int .u64 0] L) 24)) w.heap.size L (fun _ => false) :=
  ⟨fun _ => 0, World.rowIs_made w (.int .u64 0) L 24, fun _ _ => Nat.zero_lt_succ _, fun p _ => by simp⟩

theorem in2_start (bs : Nat → Blk) (w w1 w2 : World) (n top L : Nat) (hB : Below w.heap.size w w1)
    (hown : w2.ownsRow w.heap.size 3 1 (.slice (some ⟨w1.heap.size + 1 + 1 + 1, 0, none⟩) 0 n) 0 [])
    (hg : (((w1.alloc (.cells (madeCells #[.int .u64 0] top) 24)).alloc (.cells (madeCells #[.int .u64 0] L) 24)).alloc
      (.cells ((((zc53.setIfInBounds 4 (.slice (some ⟨w1.heap.size, 0, none⟩) top top)).setIfInBounds 6 (.int .i64 (top : Int))).setIfInBounds 7 (.int .i64 ((top : Int) + 16))).setIfInBounds 9 (.slice (some ⟨w1.heap.size + 1, 0, none⟩) L L)) 53)).grownBy w2 none) :
    In2 bs w w2 w1.heap.size (w1.heap.size + 1) (w1.heap.size + 1 + 1) (w1.heap.size + 1 + 1 + 1) n top L 0 0 0 0 := by
  obtain ⟨c, hc⟩ : ∃ c, c = ((((zc53.setIfInBounds 4 (.slice (some ⟨w1.heap.size, 0, none⟩) top top)).setIfInBounds 6 (.int .i64 (top : Int))).setIfInBounds 7 (.int .i64 ((top : Int) + 16))).setIfInBounds 9 (.slice (some ⟨w1.heap.size + 1, 0, none⟩) L L) : Array Value) := ⟨_, rfl⟩
  rw [← hc] at hg
  have hcs : c.size = 89 := by rw [hc]; simp [zc53_size]
  have hz := hB.size
  have hA := (((World.rowIs_made w1 (.int .u64 0) top 24).alloc (.cells (madeCells #[.int .u64 0] L) 24)).alloc (.cells c 53)).of_block (hg.block w1.heap.size (by simp; omega) (by simp))
  have hS := ((bits_zero (w1.alloc (.cells (madeCells #[.int .u64 0] top) 24)) L).of_block (w' := _) (Deep.blk_alloc_lt _ (.cells c 53) _ (by simp))).of_block (hg.block (w1.alloc (.cells (madeCells #[.int .u64 0] top) 24)).heap.size (by simp) (by simp))
  have hH := (World.rowIs_alloc ((w1.alloc (.cells (madeCells #[.int .u64 0] top) 24)).alloc (.cells (madeCells #[.int .u64 0] L) 24)) c 53 (fun i => c.getD i .nilIface) (fun i hi => by simp [hi])).of_block (hg.block _ (by simp) (by simp))
  have hlt : w1.heap.size + 1 + 1 + 1 < w2.heap.size := (hown.lt _ rfl).2
  have hsz : ((w1.alloc (.cells (madeCells #[.int .u64 0] top) 24)).alloc (.cells (madeCells #[.int .u64 0] L) 24)).heap.size = w1.heap.size + 1 + 1 := by simp
  rw [hsz, hcs] at hH
  have hs1 : (w1.alloc (.cells (madeCells #[.int .u64 0] top) 24)).heap.size = w1.heap.size + 1 := by simp
  rw [hs1] at hS
  refine ⟨rfl, rfl, rfl, fun i => c.getD i .nilIface, ?_, ?_⟩
  · have hz2 : ∀ i, 10 ≤ i → i < 76 → c[i]? = some (.int .u64 0) := by
      intro i h1 h2
      rw [hc]
      simp only [Array.getElem?_setIfInBounds]
      rw [if_neg (by omega), if_neg (by omega), if_neg (by omega), if_neg (by omega)]
      unfold zc53
      rw [Array.getElem?_append_left (by simp; omega), Array.getElem?_append_left (by show i < 76; exact h2), Array.getElem?_append_right (by show 10 ≤ i; exact h1), Array.getElem?_replicate, if_pos (by show i - 10 < 66; omega)]
    have hg' : ∀ i v, c[i]? = some v → c.getD i .nilIface = v := fun i v h => by rw [Array.getD_eq_getD_getElem?, h]; rfl
    refine ⟨hg' _ _ ?_, hg' _ _ ?_, hg' _ _ ?_, hg' _ _ ?_, fun z hz => hg' _ _ (hz2 _ (by omega) (by omega)), hg' _ _ (hz2 _ (by omega) (by omega)), hg' _ _ (hz2 _ (by omega) (by omega))⟩
    all_goals rw [hc]; simp [zc53_size]
  · exact { bel := ⟨hg.os.trans hB.os, hg.tape.trans hB.tape, hg.output.trans hB.output, by omega, fun k hk => (hg.block k (by simp; omega) (by simp)).trans ((Deep.blk_alloc_lt _ _ _ (by simp; omega)).trans ((Deep.blk_alloc_lt _ _ _ (by simp; omega)).trans ((Deep.blk_alloc_lt _ _ _ (by omega)).trans (hB.block k hk))))⟩,
            o1 := hz, o2 := by omega, o3 := by omega, o4 := by omega, o5 := hlt, arena := hA.congr (fun i _ => rfl), bits := hS.congr (fun p _ => rfl), hp := hH, ow := hown }

theorem or_free (b : Blk) (hf : b.free = true) : bits .or .u64 9223372036854775808 ((size b : Nat) : Int) = ((hdr b : Nat) : Int) := by
  have h1 := size_le b
  have e : hdr b = 9223372036854775808 + size b := by unfold hdr; rw [if_pos hf]
  rw [e]
  generalize size b = z at *
  have : z = 0 ∨ z = 1 ∨ z = 2 ∨ z = 3 ∨ z = 4 ∨ z = 5 ∨ z = 6 ∨ z = 7 ∨ z = 8 ∨ z = 9 := by omega
  rcases this with rfl | rfl | rfl | rfl | rfl | rfl | rfl | rfl | rfl | rfl <;> decide
theorem or_obj (b : Blk) (hf : b.free = false) : bits .or .u64 (((b.refs % 4 : Nat) : Int) * 2147483648) ((b.words % 4 : Nat) : Int) = ((hdr b : Nat) : Int) := by
  have e : hdr b = (b.refs % 4) * 2147483648 + b.words % 4 := by unfold hdr; rw [if_neg (by simp [hf])]
  rw [e]
  have h1 : b.refs % 4 < 4 := Nat.mod_lt _ (by decide)
  have h2 : b.words % 4 < 4 := Nat.mod_lt _ (by decide)
  generalize b.refs % 4 = x at *
  generalize b.words % 4 = y at *
  have h1' : x = 0 ∨ x = 1 ∨ x = 2 ∨ x = 3 := by omega
  have h2' : y = 0 ∨ y = 1 ∨ y = 2 ∨ y = 3 := by omega
  rcases h1' with rfl | rfl | rfl | rfl <;> rcases h2' with rfl | rfl | rfl | rfl <;> decide

theorem or_ne (x z : Nat) (hx : x < 2 ^ 10) (hz : z ≤ 9) : bits .or .u64 (x : Int) (IntKind.u64.wrap (2 ^ z)) = ((x ||| 2 ^ z : Nat) : Int) := by
  have h2 : 2 ^ z < 2 ^ 10 := Nat.pow_lt_pow_right (by omega) (by omega)
  have e : IntKind.u64.wrap (2 ^ z) = ((2 ^ z : Nat) : Int) := by
    have : ((2 : Int) ^ z) = ((2 ^ z : Nat) : Int) := by simp
    rw [this, IntKind.wrap_u64]
    clear this
    generalize 2 ^ z = y at *
    omega
  rw [e]
  exact u64_or_nat x (2 ^ z) (by omega) (by omega)

theorem in2_free {bs : Nat → Blk} {w w' : World} {ab sb hb ob n top L k q o l z hd : Nat} {H : Nat → Value} (hM : Mid w w' ab sb hb ob n top L (A2 bs k) (B bs k) H (objs bs k))
    (hH : HIs H ab sb top L (fun z => lnk (chain bs z k)) (ne bs k)) (hf : (bs k).free = true) (hz : z = size (bs k)) (hd' : hd = hdr (bs k)) (hq : q = pos bs k) (ho : o = ow bs k) (hl : l = (objs bs k).length) :
    In2 bs w ((((w'.setCell ⟨ab, q, none⟩ (.int .u64 ((hd : Nat) : Int))).setCell ⟨ab, q + 1, none⟩ (.int .u64 ((lnk (chain bs z k) : Nat) : Int))).setCell ⟨hb, 10 + z, none⟩ (.int .u64 ((q : Int) + 1))).setCell ⟨hb, 74, none⟩
      (.int .u64 (bits .or .u64 ((ne bs k : Nat) : Int) (IntKind.u64.wrap (2 ^ z))))) ab sb hb ob n top L (k + 1) (q + z) o l := by
  have hz9 := size_le (bs k)
  have eA : A2 bs (k + 1) = upd (upd (A2 bs k) q hd) (q + 1) (lnk (chain bs z k)) := by simp only [A2]; rw [if_pos hf, hq, hd', hz]
  have eB : B bs (k + 1) = B bs k := by simp only [B]; rw [if_pos hf]
  have eO : objs bs (k + 1) = objs bs k := by simp only [objs]; rw [if_pos hf]
  have eW : ow bs (k + 1) = ow bs k := by simp only [ow]; rw [if_pos hf]
  have eN : ne bs (k + 1) = ne bs k ||| 2 ^ z := by simp only [ne]; rw [if_pos hf, hz]
  refine ⟨by rw [hq, hz]; rfl, by rw [eW]; exact ho, by rw [eO]; exact hl, upd (upd H (10 + z) (.int .u64 ((q : Int) + 1))) 74 (.int .u64 (bits .or .u64 ((ne bs k : Nat) : Int) (IntKind.u64.wrap (2 ^ z)))), ?_, ?_⟩
  · refine ⟨?_, ?_, ?_, ?_, fun y hy => ?_, ?_, ?_⟩
    · rw [upd_other _ _ _ _ (by omega), upd_other _ _ _ _ (by omega)]; exact hH.h4
    · rw [upd_other _ _ _ _ (by omega), upd_other _ _ _ _ (by omega)]; exact hH.h6
    · rw [upd_other _ _ _ _ (by omega), upd_other _ _ _ _ (by omega)]; exact hH.h7
    · rw [upd_other _ _ _ _ (by omega), upd_other _ _ _ _ (by omega)]; exact hH.h9
    · rw [upd_other _ _ _ _ (by omega)]
      by_cases e : y = z
      · subst e
        rw [upd_same]
        have : chain bs y (k + 1) = q :: chain bs y k := by simp only [chain]; rw [if_pos ⟨hf, hz.symm⟩, hq]
        simp only [this, lnk]; rfl
      · rw [upd_other _ _ _ _ (by omega), hH.hs y hy]
        have : chain bs y (k + 1) = chain bs y k := by simp only [chain]; rw [if_neg (fun h => e (by rw [hz]; exact h.2.symm))]
        simp only [this]
    · rw [upd_same, eN, or_ne _ _ (ne_lt bs k) (by omega)]
    · rw [upd_other _ _ _ _ (by omega), upd_other _ _ _ _ (by omega)]; exact hH.h75
  · rw [eA, eB, eO]
    exact (((hM.setA q hd).setA (q + 1) (lnk (chain bs z k))).setH (10 + z) _).setH 74 _

theorem in2_obj {bs : Nat → Blk} {w w' : World} {ab sb hb ob n top L k q o l z hd : Nat} {H : Nat → Value} (hM : Mid w w' ab sb hb ob n top L (upd (A2 bs k) q hd) (upd (B bs k) q true) H (objs bs k ++ [q]))
    (hH : HIs H ab sb top L (fun z => lnk (chain bs z k)) (ne bs k)) (hf : (bs k).free = false) (hz : z = size (bs k)) (hd' : hd = hdr (bs k)) (hq : q = pos bs k) (ho : o = ow bs k) (hl : l = (objs bs k).length) :
    In2 bs w w' ab sb hb ob n top L (k + 1) (q + z) (o + z) (l + 1) := by
  have hf' : ¬ (bs k).free = true := by simp [hf]
  have eA : A2 bs (k + 1) = upd (A2 bs k) q hd := by simp only [A2]; rw [if_neg hf', hq, hd']
  have eB : B bs (k + 1) = upd (B bs k) q true := by simp only [B]; rw [if_neg hf', hq]
  have eO : objs bs (k + 1) = objs bs k ++ [q] := by simp only [objs]; rw [if_neg hf', hq]
  have eW : ow bs (k + 1) = ow bs k + z := by simp only [ow]; rw [if_neg hf', hz]
  have eN : ne bs (k + 1) = ne bs k := by simp only [ne]; rw [if_neg hf']
  have eC : ∀ y, chain bs y (k + 1) = chain bs y k := fun y => by simp only [chain]; rw [if_neg (fun h => hf' h.1)]
  refine ⟨by rw [hq, hz]; rfl, by rw [eW, ho], by rw [eO, hl]; simp, H, ?_, ?_⟩
  · rw [eN]; simp only [eC]; exact hH
  · rw [eA, eB, eO]; exact hM

theorem Mid.other {w wr : World} {ab sb hb ob n top L : Nat} {A : Nat → Nat} {C : Nat → Bool} {H : Nat → Value} {xs : List Nat} (M : Mid w wr ab sb hb ob n top L A C H xs) {w' : World} {r : Nat} (G : wr.grownBy w' (some r)) (hr : ob < r) : Mid w w' ab sb hb ob n top L A C H xs := by
  have h1 := M.o1; have h2 := M.o2; have h3 := M.o3; have h4 := M.o4; have h5 := M.o5
  exact { bel := Mid.below_grown M.bel G (by omega), o1 := h1, o2 := h2, o3 := h3, o4 := h4, o5 := Nat.lt_of_lt_of_le h5 G.size,
          arena := M.arena.of_block (Mid.grown G (by omega) (by omega)), bits := M.bits.of_block (Mid.grown G (by omega) (by omega)), hp := M.hp.of_block (Mid.grown G (by omega) (by omega)),
          ow := M.ow.kept G (.inr (by simp [Value.ownBlock]; omega)) }

/-- Root i of the argument lies in w. -/
def RootIn (w : World) (ro : Option Addr) (x i : Nat) : Prop := x ≤ 255 ∧ ∃ ad : Addr, ro = some ad ∧ (ad.add i).block < w.heap.size ∧ w.cell? (ad.add i) = some (.int .u8 (x : Int))
theorem RootIn.below {w w' : World} {ro : Option Addr} {x i : Nat} (h : RootIn w ro x i) (hb : Below w.heap.size w w') : RootIn w' ro x i := by
  obtain ⟨h1, ad, rfl, hlt, k0⟩ := h
  exact ⟨h1, ad, rfl, Nat.lt_of_lt_of_le hlt hb.size, (hb.cell (p := ad.add i) hlt).trans k0⟩

theorem objs_bound (bs : Nat → Blk) (n u : Nat) : (objs bs n).getD u 0 ≤ pos bs n := by
  by_cases h : u < (objs bs n).length
  · have hm : (objs bs n).getD u 0 ∈ objs bs n := by simp [List.getD, h]
    obtain ⟨i, hi, _, e⟩ := objs_mem bs hm
    rw [e]; exact pos_mono bs (by omega)
  · simp [List.getD, List.getElem?_eq_none (Nat.le_of_not_lt h)]

theorem or_tag (x d : Nat) (hx : x ≤ 255) (hd : d < 4294967296) : bits .or .u64 ((x : Int) * 4294967296) (d : Int) = ((x * 4294967296 + d : Nat) : Int) := by
  rw [show (x : Int) * 4294967296 = ((x * 4294967296 : Nat) : Int) by omega, u64_or_nat _ _ (by omega) (by omega)]
  have := Nat.two_pow_add_eq_or_of_lt (i := 32) (b := d) (by omega) x
  rw [Nat.mul_comm x 4294967296]
  exact congrArg _ this.symm
theorem or_top (y : Nat) (hy : y < 9223372036854775808) : bits .or .u64 9223372036854775808 (y : Int) = ((9223372036854775808 + y : Nat) : Int) := by
  rw [show (9223372036854775808 : Int) = ((9223372036854775808 : Nat) : Int) from rfl, u64_or_nat _ _ (by omega) (by omega)]
  have := Nat.two_pow_add_eq_or_of_lt (i := 63) (b := y) (by omega) 1
  exact congrArg _ (by simpa using this.symm)
theorem or_topd (x d : Nat) (hx : x ≤ 255) (hd : d < 4294967296) : bits .or .u64 (((9223372036854775808 + x * 4294967296 : Nat) : Int)) (d : Int) = ((9223372036854775808 + x * 4294967296 + d : Nat) : Int) := by
  rw [u64_or_nat _ _ (by omega) (by omega)]
  have := Nat.two_pow_add_eq_or_of_lt (i := 32) (b := d) (by omega) (2147483648 + x)
  have e : 9223372036854775808 + x * 4294967296 = 2 ^ 32 * (2147483648 + x) := by omega
  rw [e]
  exact congrArg _ this.symm
theorem and255 (i : Nat) (hi : i ≤ 1024) : bits .and .i64 (i : Int) 255 = ((i % 256 : Nat) : Int) := by
  have h255 : (BitVec.ofInt 64 255).toNat = 2 ^ 8 - 1 := by decide
  have key : (BitVec.ofInt 64 (i : Int) &&& BitVec.ofInt 64 255).toNat = ((i : Int) % ((2 ^ 64 : Nat) : Int)).toNat % 2 ^ 8 := by
    rw [BitVec.toNat_and, BitVec.toNat_ofInt, h255, Nat.and_two_pow_sub_one_eq_mod]
  show IntKind.i64.wrap ((BitVec.ofInt 64 (i : Int) &&& BitVec.ofInt 64 255).toNat : Nat) = _
  rw [key, IntKind.wrap_i64]
  omega

/-- The heap as zzs1031cbuild hands it back. -/
structure Done (bs : Nat → Blk) (n : Nat) (rs : Nat → Nat) (m : Nat) (w w' : World) (hb ab sb rb L : Nat) (H : Nat → Value) : Prop where
  bel : Below w.heap.size w w'
  o1 : w.heap.size ≤ ab
  o2 : ab < sb
  o3 : sb < hb
  o4 : hb < rb
  o5 : rb < w'.heap.size
  hL : L = pos bs n / 64 + 2
  arena : w'.rowIs ab 24 (pos bs n) (fun i => .int .u64 ((A3 bs (objs bs n) (A2 bs n) n i : Nat) : Int))
  bits : BitsAt w' sb L (B bs n)
  hp : w'.rowIs hb 53 89 H
  roots : w'.rowIs rb 24 m (fun i => .int .u64 ((rootOf rs (objs bs n) i : Nat) : Int))
  his : HIs H ab sb (pos bs n) L (fun z => lnk (chain bs z n)) (ne bs n)
  h79 : H 79 = .slice (some ⟨rb, 0, none⟩) m m
  h80 : H 80 = .int .i64 ((lnk (dchain rs m) : Nat) : Int)
  h85 : H 85 = .int .i64 ((100 + ((ow bs n : Nat) : Int)) * 8)
  h87 : H 87 = .int .i64 (((pos bs n : Int) + 16 + 100) * 8)

theorem done_of {bs : Nat → Blk} {n : Nat} {rs : Nat → Nat} {m : Nat} {w wr : World} {ab sb hb ob rb q L o d : Nat} {H : Nat → Value} (M : Mid w wr ab sb hb ob n q L (A3 bs (objs bs n) (A2 bs n) n) (B bs n) H (objs bs n))
    (hH : HIs H ab sb q L (fun z => lnk (chain bs z n)) (ne bs n)) (hR : wr.rowIs rb 24 m (fun j => .int .u64 (((if j < m then rootOf rs (objs bs n) j else 0 : Nat)) : Int))) (hL : L = pos bs n / 64 + 2) (hq : q = pos bs n) (ho : o = ow bs n) (hd : d = lnk (dchain rs m)) (hrb : ob < rb) :
    Done bs n rs m w ((((wr.setCell ⟨hb, 79, none⟩ (.slice (some ⟨rb, 0, none⟩) m m)).setCell ⟨hb, 80, none⟩ (.int .i64 (d : Int))).setCell ⟨hb, 87, none⟩ (.int .i64 (((q : Int) + 16 + 100) * 8))).setCell ⟨hb, 85, none⟩ (.int .i64 ((100 + (o : Int)) * 8))) hb ab sb rb L
      (upd (upd (upd (upd H 79 (.slice (some ⟨rb, 0, none⟩) m m)) 80 (.int .i64 (d : Int))) 87 (.int .i64 (((q : Int) + 16 + 100) * 8))) 85 (.int .i64 ((100 + (o : Int)) * 8))) := by
  subst hq ho hd
  have M2 := (((M.setH 79 (.slice (some ⟨rb, 0, none⟩) m m)).setH 80 (.int .i64 ((lnk (dchain rs m) : Nat) : Int))).setH 87 (.int .i64 (((pos bs n : Int) + 16 + 100) * 8))).setH 85 (.int .i64 ((100 + ((ow bs n : Nat) : Int)) * 8))
  have h4 := M.o4
  have hne : rb ≠ hb := by omega
  have hU : ∀ i, i < 79 → (upd (upd (upd (upd H 79 (.slice (some ⟨rb, 0, none⟩) m m)) 80 (.int .i64 ((lnk (dchain rs m) : Nat) : Int))) 87 (.int .i64 (((pos bs n : Int) + 16 + 100) * 8))) 85 (.int .i64 ((100 + ((ow bs n : Nat) : Int)) * 8))) i = H i := fun i hi => by
    rw [upd_other _ _ _ _ (by omega), upd_other _ _ _ _ (by omega), upd_other _ _ _ _ (by omega), upd_other _ _ _ _ (by omega)]
  exact { bel := M2.bel, o1 := M.o1, o2 := M.o2, o3 := M.o3, o4 := by omega, o5 := by simpa using hR.lt, hL := hL, arena := M2.arena, bits := M2.bits, hp := M2.hp,
          roots := ((((hR.setOther (a := ⟨hb, 79, none⟩) hne _).setOther (a := ⟨hb, 80, none⟩) hne _).setOther (a := ⟨hb, 87, none⟩) hne _).setOther (a := ⟨hb, 85, none⟩) hne _).congr (fun j hj => by rw [if_pos hj]),
          his := ⟨(hU _ (by omega)).trans hH.h4, (hU _ (by omega)).trans hH.h6, (hU _ (by omega)).trans hH.h7, (hU _ (by omega)).trans hH.h9, fun z hz => (hU _ (by omega)).trans (hH.hs z hz), (hU _ (by omega)).trans hH.h74, (hU _ (by omega)).trans hH.h75⟩,
          h79 := by rw [upd_other _ _ _ _ (by omega), upd_other _ _ _ _ (by omega), upd_other _ _ _ _ (by omega), upd_same],
          h80 := by rw [upd_other _ _ _ _ (by omega), upd_other _ _ _ _ (by omega), upd_same],
          h85 := by rw [upd_same],
          h87 := by rw [upd_other _ _ _ _ (by omega), upd_same] }

set_option maxRecDepth 100000 in
set_option maxHeartbeats 1000000 in
theorem build_any (bs : Nat → Blk) (n cn : Nat) (rs : Nat → Nat) (m cm : Nat) (ao ro : Option Addr) (w : World) (hn : n ≤ 1024) (hm : m ≤ 1024) (hb : ∀ k, k < n → BlkIn w ao (bs k) k) (hr : ∀ i, i < m → RootIn w ro (rs i) i) :
    Calls Ybaf.prog 10 #[.slice ao n cn, .slice ro m cm] w fun e w' => ∃ hb ab sb rb L H, e = .returned (.pointer (some ⟨hb, 0, none⟩)) ∧ Done bs n rs m w w' hb ab sb rb L H := by
  go_enter Ybaf.func10, Ybaf.ntmps10
  go_wp2_with fail
  go_loopg [32, 5] n (fun g kv pv wr => ∃ k p : Nat, kv = .int .i64 (k : Int) ∧ pv = .int .i64 (p : Int) ∧ (k + g = n ∧ p = pos bs k ∧ Below w.heap.size w wr))
  case atStart => exact ⟨0, 0, rfl, rfl, by omega, rfl, Below.refl _ _⟩
  case round =>
    obtain ⟨k, p, rfl, rfl, hE⟩ := hrel
    have HE : Hid _ := hE
    clear hE
    have hp : p ≤ 9 * k := by rw [HE.out.2.1]; exact pos_bound bs k
    by_cases hk : k < n
    · obtain ⟨h1, h2, h3, ad, rfl, hlt, k0, k1, k2, k3⟩ := (hb k hk).below HE.out.2.2
      have hz2 := size_le (bs k)
      have SZ := fun W => size_any (bs k) h1 h2 W
      have N1 : Hid (pos bs (k + 1) = p + size (bs k)) := by show _ = _; rw [HE.out.2.1]; rfl
      generalize (bs k).free = bf at *
      generalize (bs k).refs = br at *
      generalize (bs k).words = bw at *
      generalize (bs k).target = bt at *
      generalize size (bs k) = z at *
      go_wp2_with (go_at_call 19; refine (SZ _).mono ?_; rintro e w' ⟨rfl, c, rfl⟩)
      go_roundg (gk - 1)
      case measure => have := HE.out.1; omega
      case rel =>
        refine ⟨k + 1, p + z, by go_num, by go_num, by have := HE.out.1; omega, N1.out.symm, ?_⟩
        exact (HE.out.2.2.alloc HE.out.2.2.size _).alloc (Nat.le_trans HE.out.2.2.size (by simp)) _
    · have hkn : k = n := by have := HE.out.1; omega
      subst hkn
      obtain ⟨w1, rfl⟩ : ∃ w1, w1 = wr := ⟨_, rfl⟩
      have hp2 : p ≤ 9216 := by omega
      obtain ⟨L, hL⟩ : ∃ L : Nat, L = p / 64 + 2 := ⟨_, rfl⟩
      have hLi : (p : Int) / 64 + 2 = (L : Int) := by omega
      have hL2 : L ≤ 200 := by omega
      have HLE : Hid (L = p / 64 + 2) := hL
      clear hL hk hp
      have hmk := run_make_row' (P := Ybaf.prog) 22 24 (.int .u64 0) 8 Ybaf.underlying22 info24 rfl .i64 .i64 p (by omega) (by omega)
      have hmk2 := run_make_row' (P := Ybaf.prog) 41 24 (.int .u64 0) 8 Ybaf.underlying41 info24 rfl .i64 .i64 L (by omega) (by omega)
      have z1 := zero53
      have z2 := zc53_size
      have z3 := zc53_ne
      obtain ⟨i0, hi0, hzz⟩ := Option.map_eq_some_iff.1 info3
      simp only [Prod.mk.injEq] at hzz
      obtain ⟨hz0, hz1, hz2⟩ := hzz
      have hw1s := HE.out.2.2.size
      go_wp2_with (at_make; refine wpList_make_own _ rfl _ _ 71 rfl w.heap.size 3 i0 (.int .i64 0) 1 Ybaf.underlying71 hi0 hz0 hz1 _ _ _ k rfl rfl rfl (by rw [hz2]; omega) (by unfold maxLen; omega) (by simp; omega) ?_; intro w2 hown hgrow)
      simp only [World.size_alloc] at hown
      have HI := in2_start bs w w1 w2 k p L HE.out.2.2 hown hgrow
      have HP : Hid (p = pos bs k) := HE.out.2.1
      obtain ⟨ab, hab⟩ : ∃ ab, ab = w1.heap.size := ⟨_, rfl⟩
      rw [← hab] at HI ⊢
      obtain ⟨sb, hsb⟩ : ∃ sb, sb = ab + 1 := ⟨_, rfl⟩
      rw [← hsb] at HI ⊢
      obtain ⟨hb', hhb⟩ : ∃ hb, hb = sb + 1 := ⟨_, rfl⟩
      rw [← hhb] at HI ⊢
      obtain ⟨ob, hob⟩ : ∃ ob, ob = hb' + 1 := ⟨_, rfl⟩
      rw [← hob] at HI ⊢
      clear hmk hmk2 z1 z2 z3 hown hgrow hz0 hz2 HE hLi
      have hi1 := hz1
      clear hz1
      have hne1 : ¬ hb' = ab := by omega
      have hne2 : ¬ ab = hb' := by omega
      have hne3 : ¬ sb = ab := by omega
      have hne4 : ¬ ab = sb := by omega
      have hne5 : ¬ hb' = sb := by omega
      have hne6 : ¬ sb = hb' := by omega
      clear hab hsb hhb hob
      obtain ⟨n, rfl⟩ : ∃ n, n = k := ⟨_, rfl⟩
      go_wp2_with fail
      go_loopg [59, 13, 12, 11] n (fun g kv pv ov sv wr => ∃ k q o l : Nat, kv = .int .i64 (k : Int) ∧ pv = .int .i64 (q : Int) ∧ ov = .int .i64 (o : Int) ∧ sv = .slice (some ⟨ob, 0, none⟩) l n ∧ (k + g = n ∧ In2 bs w wr ab sb hb' ob n p L k q o l))
      case atStart => exact ⟨0, 0, 0, 0, rfl, rfl, rfl, rfl, by omega, HI⟩
      case round =>
        clear HI
        obtain ⟨k, q, o, l, rfl, rfl, rfl, rfl, hE⟩ := hrel
        have HE : Hid _ := hE
        clear hE
        obtain ⟨hkg, hq, ho, hl, H, hHI, hM⟩ := HE.out
        have HH : Hid _ := hHI
        have HM : Hid _ := hM
        clear hHI hM
        have hq9 : q ≤ 9 * k := by rw [hq]; exact pos_bound bs k
        have ho9 : o ≤ 9 * k := by rw [ho]; have := ow_le bs k; have := pos_bound bs k; omega
        have hlk : l ≤ k := by rw [hl]; exact objs_length_le bs k
        clear hq ho hl hkg
        by_cases hk : k < n
        · obtain ⟨h1, h2, h3, ad, hao, hlt, k0, k1, k2, k3⟩ := (hb k hk).below HM.out.bel
          subst hao
          have hz2 := size_le (bs k)
          have hz1 := size_ge (bs k)
          have hqz : q + size (bs k) ≤ p := by have h1 := pos_mono bs (show k + 1 ≤ n by omega); have := HP.out; have := HE.out.2.1; simp only [pos] at h1; omega
          have SZ := fun W => size_any (bs k) h1 h2 W
          cases hf : (bs k).free with
          | true =>
            rw [hf] at k0 SZ
            have hor := or_free (bs k) hf
            obtain ⟨hd, hhd⟩ : ∃ hd, hd = hdr (bs k) := ⟨_, rfl⟩
            rw [← hhd] at hor
            generalize (bs k).refs = br at *
            generalize (bs k).words = bw at *
            generalize (bs k).target = bt at *
            obtain ⟨z, hz⟩ : ∃ z, z = size (bs k) := ⟨_, rfl⟩
            rw [← hz] at hor hz1 hz2 hqz SZ
            have HZ : Hid (z = size (bs k)) := hz
            have HHD : Hid (hd = hdr (bs k)) := hhd
            clear hz hhd
            go_wp2_with (go_at_call 19; refine (SZ _).mono ?_; rintro e w' ⟨rfl, c, hw'⟩; have hbw : Below wr.heap.size wr w' := (by rw [hw']; exact ((Below.refl _ _).alloc (Nat.le_refl _) _).alloc (by simp) _); have M2 := HM.out.below hbw; have cfree : w'.cell? ⟨wr.heap.size, 0, none⟩ = some (.bool true) := (by rw [hw']; simp [go_sem]); have ca0 := M2.arena.cell (i := q) (by omega); have ca1 := M2.arena.cell (i := q + 1) (by omega); have fa0 := M2.arena.frozen q; have fa1 := M2.arena.frozen (q + 1); have ch0 := M2.hp.cell (i := 10 + z) (by omega); have ch1 := M2.hp.cell (i := 74) (by omega); have fh0 := M2.hp.frozen (10 + z); have fh1 := M2.hp.frozen 74; rw [HH.out.hs z (by omega)] at ch0; rw [HH.out.h74] at ch1; clear hw')
            go_roundg (gk - 1)
            case measure => have := HE.out.1; omega
            case rel => exact ⟨k + 1, q + z, o, l, by go_num, by go_num, rfl, rfl, by have := HE.out.1; omega, in2_free M2 HH.out hf HZ.out HHD.out HE.out.2.1 HE.out.2.2.1 HE.out.2.2.2.1⟩
          | false =>
            rw [hf] at k0 SZ
            have hor := or_obj (bs k) hf
            obtain ⟨hd, hhd⟩ : ∃ hd, hd = hdr (bs k) := ⟨_, rfl⟩
            rw [← hhd] at hor
            generalize (bs k).refs = br at *
            generalize (bs k).words = bw at *
            generalize (bs k).target = bt at *
            obtain ⟨z, hz⟩ : ∃ z, z = size (bs k) := ⟨_, rfl⟩
            rw [← hz] at hz1 hz2 hqz SZ
            have HZ : Hid (z = size (bs k)) := hz
            have HHD : Hid (hd = hdr (bs k)) := hhd
            clear hz hhd
            have hm1 : (br : Int) % 4 = ((br % 4 : Nat) : Int) := by omega
            have hm2 : (bw : Int) % 4 = ((bw % 4 : Nat) : Int) := by omega
            have hm3 : br % 4 ≤ 3 := by omega
            have hm4 : bw % 4 ≤ 3 := by omega
            generalize br % 4 = xr at *
            generalize bw % 4 = xw at *
            have hqL : q < 64 * L := by have := HLE.out; omega
            have HU := fun W (hW : BitsAt W sb L (B bs k)) => set_bits hW hqL (by omega)
            go_wp2_with (first
              | (go_at_call 19; refine (SZ _).mono ?_; rintro e w' ⟨rfl, c, hw'⟩; have hbw : Below wr.heap.size wr w' := (by rw [hw']; exact ((Below.refl _ _).alloc (Nat.le_refl _) _).alloc (by simp) _); have M2 := HM.out.below hbw; have cfree : w'.cell? ⟨wr.heap.size, 0, none⟩ = some (.bool false) := (by rw [hw']; simp [go_sem]); have cf1 : w'.cell? ⟨wr.heap.size, 1, none⟩ = some (.int .u8 (br : Int)) := (by rw [hw']; simp [go_sem]); have cf2 : w'.cell? ⟨wr.heap.size, 2, none⟩ = some (.int .u8 (bw : Int)) := (by rw [hw']; simp [go_sem]); have ca0 := M2.arena.cell (i := q) (by omega); have fa0 := M2.arena.frozen q; clear hw')
              | (go_at_call 12; refine (HU _ (M2.setA q hd).bits).mono ?_; rintro e w3 ⟨rfl, hB3, v, hv⟩; have M3 := (M2.setA q hd).setC hB3 _ v hv; have ow3 := M3.ow.alloc (.cells #[.int .i64 (q : Int)] 3); rw [← HE.out.2.2.2.1] at ow3; clear hv)
              | (at_builtin; refine wpList_append_fits _ rfl (.tmp 121) (.tmp 123) 71 rfl w.heap.size 3 i0 1 Ybaf.underlying71 hi0 hi1 ob l n _ rfl ow3 ⟨w3.heap.size, 0, none⟩ 1 1 [.int .i64 (q : Int)] rfl rfl ?hc ?h1c (by omega) ?_; (intro j u hj; cases j with | zero => (simp only [List.getElem?_cons_zero, Option.some.injEq] at hj; subst hj; simp [go_sem, Addr.add]) | succ j => simp at hj); (intro u hu; simp only [List.mem_singleton] at hu; subst hu; rfl); intro w4 hown4 hg4))
            go_roundg (gk - 1)
            case measure => have := HE.out.1; omega
            case rel =>
              have M4 := (M3.below (below_one w3 (.cells #[.int .i64 (q : Int)] 3))).push (p := q) hg4 (by rw [List.length_append, ← HE.out.2.2.2.1, List.map_append]; exact hown4)
              exact ⟨k + 1, q + z, o + z, l + 1, by go_num, by go_num, by go_num, rfl, by have := HE.out.1; omega, in2_obj M4 HH.out hf HZ.out HHD.out HE.out.2.1 HE.out.2.2.1 HE.out.2.2.2.1⟩
        · have hkn : k = n := by have := HE.out.1; omega
          subst hkn
          have hqp : q = p := by rw [HE.out.2.1, HP.out]
          subst hqp
          have HO : Hid (o = ow bs k) := HE.out.2.2.1
          have HL : Hid (l = (objs bs k).length) := HE.out.2.2.2.1
          obtain ⟨n, rfl⟩ : ∃ n, n = k := ⟨_, rfl⟩
          have M0 := HM.out
          clear HM HE hk hq9
          obtain ⟨w2, rfl⟩ : ∃ w2, w2 = wr := ⟨_, rfl⟩
          go_wp2_with fail
          go_loopg [134, 13] n (fun g kv pv wr => ∃ k p : Nat, kv = .int .i64 (k : Int) ∧ pv = .int .i64 (p : Int) ∧ (k + g = n ∧ p = pos bs k ∧ Mid w wr ab sb hb' ob n q L (A3 bs (objs bs n) (A2 bs n) k) (B bs n) H (objs bs n)))
          case atStart => exact ⟨0, 0, rfl, rfl, by omega, rfl, M0⟩
          case round =>
            clear M0
            obtain ⟨k, p, rfl, rfl, hE⟩ := hrel
            obtain ⟨g0, hg0⟩ : ∃ g0, g0 = gk := ⟨_, rfl⟩
            rw [← hg0] at hE
            have HE : Hid _ := hE
            have HG : Hid (g0 = gk) := hg0
            clear hE hg0
            have hp9 : p ≤ 9 * k := by rw [HE.out.2.1]; exact pos_bound bs k
            by_cases hk : k < n
            · obtain ⟨h1, h2, h3, ad, hao, hlt, k0, k1, k2, k3⟩ := (hb k hk).below HE.out.2.2.bel
              subst hao
              have hz2 := size_le (bs k)
              have hz1 := size_ge (bs k)
              have hpz : p + size (bs k) ≤ q := by have h1 := pos_mono bs (show k + 1 ≤ n by omega); have := HP.out; have := HE.out.2.1; simp only [pos] at h1; omega
              have SZ := fun W => size_any (bs k) h1 h2 W
              have N1 : Hid (pos bs (k + 1) = p + size (bs k)) := by show _ = _; rw [HE.out.2.1]; rfl
              cases hf : (bs k).free with
              | true =>
                rw [hf] at k0 SZ
                have N2 : Hid (A3 bs (objs bs n) (A2 bs n) (k + 1) = A3 bs (objs bs n) (A2 bs n) k) := by show _ = _; simp only [A3]; rw [if_pos hf]
                generalize (bs k).refs = br at *
                generalize (bs k).words = bw at *
                generalize (bs k).target = bt at *
                generalize size (bs k) = z at *
                go_wp2_with (go_at_call 19; refine (SZ _).mono ?_; rintro e w' ⟨rfl, c, hw'⟩; have hbw : Below wr.heap.size wr w' := (by rw [hw']; exact ((Below.refl _ _).alloc (Nat.le_refl _) _).alloc (by simp) _); have M2 := HE.out.2.2.below hbw; have cfree : w'.cell? ⟨wr.heap.size, 0, none⟩ = some (.bool true) := (by rw [hw']; simp [go_sem]); clear hw')
                go_roundg (gk - 1)
                case measure => have := HE.out.1; have := HG.out; omega
                case rel => exact ⟨k + 1, p + z, by go_num, by go_num, by have := HE.out.1; have := HG.out; omega, N1.out.symm, by rw [N2.out]; exact M2⟩
              | false =>
                rw [hf] at k0 SZ
                have hso := size_obj (bs k) hf
                have hor := or_obj (bs k) hf
                have N2 : Hid (A3 bs (objs bs n) (A2 bs n) (k + 1) = fill (objs bs n) (bs k).target p (A3 bs (objs bs n) (A2 bs n) k) ((bs k).refs % 4)) := by show _ = _; simp only [A3]; rw [if_neg (by simp [hf]), HE.out.2.1]
                have hm1 : ((bs k).refs : Int) % 4 = (((bs k).refs % 4 : Nat) : Int) := by omega
                have hm3 : (bs k).refs % 4 ≤ 3 := by omega
                generalize (bs k).refs % 4 = r at *
                have hpr : p + 1 + r ≤ q := by omega
                clear hso hor
                generalize (bs k).refs = br at *
                generalize (bs k).words = bw at *
                generalize (bs k).target = bt at *
                generalize size (bs k) = z at *
                go_wp2_with (go_at_call 19; refine (SZ _).mono ?_; rintro e w' ⟨rfl, c, hw'⟩; have hbw : Below wr.heap.size wr w' := (by rw [hw']; exact ((Below.refl _ _).alloc (Nat.le_refl _) _).alloc (by simp) _); have M2 := HE.out.2.2.below hbw; have cfree : w'.cell? ⟨wr.heap.size, 0, none⟩ = some (.bool false) := (by rw [hw']; simp [go_sem]); have cf1 : w'.cell? ⟨wr.heap.size, 1, none⟩ = some (.int .u8 (br : Int)) := (by rw [hw']; simp [go_sem]); have cf3 : w'.cell? ⟨wr.heap.size, 3, none⟩ = some (.int .u8 (bt : Int)) := (by rw [hw']; simp [go_sem]); clear hw')
                have hvb := HE.out.2.2.o5
                obtain ⟨vb, hvbe⟩ : ∃ vb, vb = wr.heap.size := ⟨_, rfl⟩
                rw [← hvbe] at cf3 hvb ⊢
                have hvn : vb ≠ ab := by have := HE.out.2.2.o2; have := HE.out.2.2.o3; have := HE.out.2.2.o4; omega
                clear hvbe cfree cf1
                go_loopg [21] r (fun g jv wi => ∃ j : Nat, jv = .int .i64 (j : Int) ∧ (j + g = r ∧ Mid w wi ab sb hb' ob n q L (fill (objs bs n) bt p (A3 bs (objs bs n) (A2 bs n) k) j) (B bs n) H (objs bs n) ∧ wi.cell? ⟨vb, 3, none⟩ = some (.int .u8 (bt : Int))))
                case atStart => exact ⟨0, rfl, by omega, M2, cf3⟩
                case round =>
                  obtain ⟨j, rfl, hJ⟩ := hrel
                  have HJ : Hid _ := hJ
                  clear hJ M2
                  have ct := HJ.out.2.2
                  by_cases hj : j < r
                  · have hobl : (bt + j) % (l + 1) ≤ l := Nat.lt_succ_iff.1 (Nat.mod_lt _ (by omega))
                    have hrem : ((bt : Int) + (j : Int)) % ((l : Int) + 1) = (((bt + j) % (l + 1) : Nat) : Int) := by rw [Int.natCast_emod, Int.natCast_add, Int.natCast_add]; rfl
                    have hL1 : l = (objs bs n).length := HL.out
                    by_cases ht : 0 < (bt + j) % (l + 1)
                    · obtain ⟨u, hu⟩ : ∃ u, (bt + j) % (l + 1) = u + 1 := ⟨(bt + j) % (l + 1) - 1, by omega⟩
                      have N3 : Hid (fill (objs bs n) bt p (A3 bs (objs bs n) (A2 bs n) k) (j + 1) = upd (fill (objs bs n) bt p (A3 bs (objs bs n) (A2 bs n) k) j) (p + 1 + j) ((objs bs n).getD u 0 + 1)) := by
                        show _ = _
                        simp only [fill, slotOf]
                        rw [← hL1, hu, if_pos (by omega), if_pos (by omega), Nat.add_sub_cancel]
                      rw [hu] at hrem hobl
                      have co := HJ.out.2.1.obj u (by omega)
                      have hxb := objs_bound bs n u
                      rw [← HP.out] at hxb
                      have ca := HJ.out.2.1.arena.cell (i := p + 1 + j) (by omega)
                      have fa := HJ.out.2.1.arena.frozen (p + 1 + j)
                      obtain ⟨x, hx⟩ : ∃ x, x = (objs bs n).getD u 0 := ⟨_, rfl⟩
                      rw [← hx] at co hxb
                      have HX : Hid (x = (objs bs n).getD u 0) := hx
                      clear hx ht hL1 hu
                      go_wp2_with fail
                      go_roundg (gk - 1)
                      case measure => have := HJ.out.1; omega
                      case rel =>
                        refine ⟨j + 1, by go_num, by have := HJ.out.1; omega, ?_, ?_⟩
                        · rw [N3.out, ← HX.out]; exact HJ.out.2.1.setA (p + 1 + j) (x + 1)
                        · exact (World.cell?_of_block (Deep.blk_setCell_other _ _ _ _ hvn)).trans ct
                    · have ht0 : (bt + j) % (l + 1) = 0 := by omega
                      have N3 : Hid (fill (objs bs n) bt p (A3 bs (objs bs n) (A2 bs n) k) (j + 1) = fill (objs bs n) bt p (A3 bs (objs bs n) (A2 bs n) k) j) := by
                        show _ = _
                        simp only [fill]
                        rw [← hL1, ht0, if_neg (by omega)]
                      rw [ht0] at hrem
                      clear ht ht0 hL1
                      go_wp2_with fail
                      go_roundg (gk - 1)
                      case measure => have := HJ.out.1; omega
                      case rel => exact ⟨j + 1, by go_num, by have := HJ.out.1; omega, by rw [N3.out]; exact HJ.out.2.1, ct⟩
                  · have hjr : j = r := by have := HJ.out.1; omega
                    go_wp2_with fail
                    go_roundg (g0 - 1)
                    case measure => have := HE.out.1; have := HG.out; omega
                    case rel => exact ⟨k + 1, p + z, by go_num, by go_num, by have := HE.out.1; have := HG.out; omega, N1.out.symm, by rw [N2.out, ← hjr]; exact HJ.out.2.1⟩
            · have hkn : k = n := by have := HE.out.1; omega
              subst hkn
              obtain ⟨n, rfl⟩ : ∃ n, n = k := ⟨_, rfl⟩
              have M3 := HE.out.2.2
              clear HE hk hp9
              have hmk := run_make_row' (P := Ybaf.prog) 22 24 (.int .u64 0) 8 Ybaf.underlying22 info24 rfl .i64 .i64 m (by omega) (by omega)
              obtain ⟨w3, rfl⟩ : ∃ w3, w3 = wr := ⟨_, rfl⟩
              have HR0 := World.rowIs_made w3 (.int .u64 0) m 24
              have M4 := M3.below (below_one w3 (.cells (madeCells #[.int .u64 0] m) 24))
              have hrb := M3.o5
              go_wp2_with fail
              obtain ⟨rb, hrbe⟩ : ∃ rb, rb = w3.heap.size := ⟨_, rfl⟩
              rw [← hrbe] at HR0 hrb ⊢
              go_loopg [185, 24] m (fun g iv dv wr => ∃ i d : Nat, iv = .int .i64 (i : Int) ∧ dv = .int .i64 (d : Int) ∧ (i + g = m ∧ d = lnk (dchain rs i) ∧ Mid w wr ab sb hb' ob n q L (A3 bs (objs bs n) (A2 bs n) n) (B bs n) H (objs bs n) ∧ wr.rowIs rb 24 m (fun j => .int .u64 (((if j < i then rootOf rs (objs bs n) j else 0 : Nat)) : Int))))
              case atStart => exact ⟨0, 0, rfl, rfl, by omega, rfl, M4, HR0.congr (fun j _ => by simp)⟩
              case round =>
                clear M3 M4 HR0 hrbe hmk
                obtain ⟨i, d, rfl, rfl, hE⟩ := hrel
                have HE : Hid _ := hE
                clear hE
                have hd9 : d ≤ i := by rw [HE.out.2.1]; exact dchain_lnk_le rs i
                by_cases hi : i < m
                · obtain ⟨hrx, ad, hao, hlt, k0⟩ := (hr i hi).below HE.out.2.2.1.bel
                  subst hao
                  have hand := and255 i (by omega)
                  have cr := HE.out.2.2.2.cell (i := i) hi
                  have fr := HE.out.2.2.2.frozen i
                  have hx : i % 256 ≤ 255 := by omega
                  have HX : Hid (i % 256 = i % 256) := rfl
                  obtain ⟨x, hxe⟩ : ∃ x, x = i % 256 := ⟨_, rfl⟩
                  rw [← hxe] at hand hx
                  have HXE : Hid (x = i % 256) := hxe
                  clear hxe HX
                  have hm4 : ((rs i : Nat) : Int) % 4 = ((rs i % 4 : Nat) : Int) := by omega
                  by_cases h4 : rs i % 4 = 0
                  · have N5 : Hid (rootOf rs (objs bs n) i = 9223372036854775808 + x * 4294967296 + d) := by show _ = _; unfold rootOf; rw [if_pos h4, HXE.out, HE.out.2.1]
                    have N6 : Hid (lnk (dchain rs (i + 1)) = i + 1) := by show _ = _; rw [dchain_succ, if_pos h4]; rfl
                    rw [h4] at hm4
                    have HV : Hid (bits .or .u64 (bits .or .u64 9223372036854775808 ((x : Int) * 4294967296)) (d : Int) = ((rootOf rs (objs bs n) i : Nat) : Int)) := by
                      show _ = _
                      rw [show (x : Int) * 4294967296 = ((x * 4294967296 : Nat) : Int) by omega, or_top _ (by omega), or_topd x d hx (by omega), N5.out]
                    clear h4
                    generalize rs i = rv at *
                    go_wp2_with fail
                    go_roundg (gk - 1)
                    case measure => have := HE.out.1; omega
                    case rel =>
                      refine ⟨i + 1, i + 1, by go_num, by go_num, by have := HE.out.1; omega, N6.out.symm, HE.out.2.2.1.other (Mid.grown_set wr rb i _) hrb, (HE.out.2.2.2.set i _).congr (fun j _ => ?_)⟩
                      by_cases hj : j = i
                      · subst hj; rw [if_pos rfl, if_pos (Nat.lt_succ_self j), HV.out]
                      · have : (j < i + 1) ↔ j < i := by omega
                        simp [hj, this]
                  · have N6 : Hid (lnk (dchain rs (i + 1)) = lnk (dchain rs i)) := by show _ = _; rw [dchain_succ, if_neg h4]
                    have hm5 : (((rs i % 4 : Nat) : Int) == 0) = false := by simp; omega
                    have N5 : Hid (rootOf rs (objs bs n) i = x * 4294967296 + slotOf (objs bs n) (rs i)) := by show _ = _; unfold rootOf; rw [if_neg h4, HXE.out]
                    generalize rs i % 4 = r4 at *
                    clear h4
                    have hobl : rs i % (l + 1) ≤ l := Nat.lt_succ_iff.1 (Nat.mod_lt _ (by omega))
                    have hrem : ((rs i : Nat) : Int) % ((l : Int) + 1) = ((rs i % (l + 1) : Nat) : Int) := by rw [Int.natCast_emod, Int.natCast_add]; rfl
                    have hL1 : l = (objs bs n).length := HL.out
                    by_cases ht : 0 < rs i % (l + 1)
                    · obtain ⟨u, hu⟩ : ∃ u, rs i % (l + 1) = u + 1 := ⟨rs i % (l + 1) - 1, by omega⟩
                      have N7 : Hid (slotOf (objs bs n) (rs i) = (objs bs n).getD u 0 + 1) := by
                        show _ = _
                        simp only [slotOf]
                        rw [← hL1, hu, if_pos (by omega), Nat.add_sub_cancel]
                      rw [hu] at hrem hobl
                      have co := HE.out.2.2.1.obj u (by omega)
                      have hxb := objs_bound bs n u
                      rw [← HP.out] at hxb
                      obtain ⟨y, hy⟩ : ∃ y, y = (objs bs n).getD u 0 := ⟨_, rfl⟩
                      rw [← hy] at co hxb
                      have HV : Hid (bits .or .u64 ((x : Int) * 4294967296) ((y : Int) + 1) = ((rootOf rs (objs bs n) i : Nat) : Int)) := by
                        show _ = _
                        rw [show (y : Int) + 1 = ((y + 1 : Nat) : Int) from rfl, or_tag x (y + 1) hx (by omega), N5.out, N7.out, hy]
                      clear hy ht hL1 hu
                      generalize rs i = rv at *
                      go_wp2_with fail
                      go_roundg (gk - 1)
                      case measure => have := HE.out.1; omega
                      case rel =>
                        refine ⟨i + 1, d, by go_num, rfl, by have := HE.out.1; omega, by rw [N6.out]; exact HE.out.2.1, HE.out.2.2.1.other (Mid.grown_set wr rb i _) hrb, (HE.out.2.2.2.set i _).congr (fun j _ => ?_)⟩
                        by_cases hj : j = i
                        · subst hj; rw [if_pos rfl, if_pos (Nat.lt_succ_self j), HV.out]
                        · have : (j < i + 1) ↔ j < i := by omega
                          simp [hj, this]
                    · have ht0 : rs i % (l + 1) = 0 := by omega
                      have N7 : Hid (slotOf (objs bs n) (rs i) = 0) := by
                        show _ = _
                        simp only [slotOf]
                        rw [← hL1, ht0, if_neg (by omega)]
                      rw [ht0] at hrem
                      have HV : Hid (bits .or .u64 ((x : Int) * 4294967296) 0 = ((rootOf rs (objs bs n) i : Nat) : Int)) := by
                        show _ = _
                        rw [show (0 : Int) = ((0 : Nat) : Int) from rfl, or_tag x 0 hx (by omega), N5.out, N7.out]
                      clear ht hL1 ht0
                      generalize rs i = rv at *
                      go_wp2_with fail
                      go_roundg (gk - 1)
                      case measure => have := HE.out.1; omega
                      case rel =>
                        refine ⟨i + 1, d, by go_num, rfl, by have := HE.out.1; omega, by rw [N6.out]; exact HE.out.2.1, HE.out.2.2.1.other (Mid.grown_set wr rb i _) hrb, (HE.out.2.2.2.set i _).congr (fun j _ => ?_)⟩
                        by_cases hj : j = i
                        · subst hj; rw [if_pos rfl, if_pos (Nat.lt_succ_self j), HV.out]
                        · have : (j < i + 1) ↔ j < i := by omega
                          simp [hj, this]
                · have him : i = m := by have := HE.out.1; omega
                  subst him
                  have HD : Hid (d = lnk (dchain rs i)) := HE.out.2.1
                  have M5 := HE.out.2.2.1
                  have HRR := HE.out.2.2.2
                  clear HE
                  have c7 := M5.hp.cell (i := 7) (by omega)
                  have c79 := M5.hp.cell (i := 79) (by omega)
                  have c80 := M5.hp.cell (i := 80) (by omega)
                  have c85 := M5.hp.cell (i := 85) (by omega)
                  have c87 := M5.hp.cell (i := 87) (by omega)
                  have f79 := M5.hp.frozen 79
                  have f80 := M5.hp.frozen 80
                  have f85 := M5.hp.frozen 85
                  have f87 := M5.hp.frozen 87
                  rw [HH.out.h7] at c7
                  go_wp2_with fail
                  go_ret
                  exact ⟨hb', ab, sb, rb, L, _, rfl, done_of M5 HH.out HRR (by have := HP.out; have := HLE.out; omega) HP.out HO.out HD.out hrb⟩
end Go.Proofs.YbulkuieFmt
