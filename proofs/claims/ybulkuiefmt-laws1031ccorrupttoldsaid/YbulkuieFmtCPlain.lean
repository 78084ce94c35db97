/-
  The plain side of LawS1031CSound and LawS1031CCorrupt (seat b1031aF): how the law lays its blocks out, by index. No Go text in sight.
-/
namespace Go.Proofs.YbulkuieFmt.C

/-- One block as the law describes it. -/
structure Blk where
  free : Bool
  refs : Nat
  words : Nat
  target : Nat

/-- How many words the block takes. -/
def size (b : Blk) : Nat := if b.free then 2 + b.words % 8 else max 2 (1 + b.refs % 4 + b.words % 4)
/-- The block's header. -/
def hdr (b : Blk) : Nat := if b.free then 9223372036854775808 + size b else (b.refs % 4) * 2147483648 + b.words % 4

theorem size_ge (b : Blk) : 2 ≤ size b := by unfold size; split <;> omega
theorem size_le (b : Blk) : size b ≤ 9 := by unfold size; split <;> omega
theorem size_obj (b : Blk) (h : b.free = false) : 1 + b.refs % 4 + b.words % 4 ≤ size b := by unfold size; rw [if_neg (by simp [h])]; omega
theorem hdr_lt (b : Blk) : hdr b < 18446744073709551616 := by have := size_le b; unfold hdr; split <;> omega

/-- A function turned at one place. -/
def upd {α : Type} (f : Nat → α) (i : Nat) (v : α) : Nat → α := fun j => if j = i then v else f j
theorem upd_same {α : Type} (f : Nat → α) (i : Nat) (v : α) : upd f i v i = v := if_pos rfl
theorem upd_other {α : Type} (f : Nat → α) (i j : Nat) (v : α) (h : j ≠ i) : upd f i v j = f j := if_neg h

/-- 'A link to the head of this list', as the heap stores it: 0 for the empty list, else the head and one. -/
def lnk : List Nat → Nat
  | [] => 0
  | p :: _ => p + 1

section
variable (bs : Nat → Blk)

/-- Where block k begins. -/
def pos : Nat → Nat
  | 0 => 0
  | k + 1 => pos k + size (bs k)
/-- The objects' places among the first k blocks. -/
def objs : Nat → List Nat
  | 0 => []
  | k + 1 => if (bs k).free then objs k else objs k ++ [pos bs k]
/-- The start bits of the objects among the first k blocks. -/
def B : Nat → Nat → Bool
  | 0 => fun _ => false
  | k + 1 => if (bs k).free then B k else upd (B k) (pos bs k) true
/-- The words that the objects take. -/
def ow : Nat → Nat
  | 0 => 0
  | k + 1 => if (bs k).free then ow k else ow k + size (bs k)
/-- How many free blocks. -/
def fc : Nat → Nat
  | 0 => 0
  | k + 1 => if (bs k).free then fc k + 1 else fc k
/-- The free blocks of m words among the first k, the last first. -/
def chain (m : Nat) : Nat → List Nat
  | 0 => []
  | k + 1 => if (bs k).free ∧ size (bs k) = m then pos bs k :: chain m k else chain m k
/-- The word of bits 'this list is not empty'. -/
def ne : Nat → Nat
  | 0 => 0
  | k + 1 => if (bs k).free then ne k ||| 2 ^ size (bs k) else ne k
/-- The arena behind the first pass. -/
def A2 : Nat → Nat → Nat
  | 0 => fun _ => 0
  | k + 1 => if (bs k).free then upd (upd (A2 k) (pos bs k) (hdr (bs k))) (pos bs k + 1) (lnk (chain bs (size (bs k)) k)) else upd (A2 k) (pos bs k) (hdr (bs k))
/-- What slot j of an object holds, O the objects' places. -/
def slotOf (O : List Nat) (t : Nat) : Nat := if 0 < t % (O.length + 1) then O.getD (t % (O.length + 1) - 1) 0 + 1 else 0
/-- The first j slots of one object filled. -/
def fill (O : List Nat) (target p : Nat) (A : Nat → Nat) : Nat → Nat → Nat
  | 0 => A
  | j + 1 => if 0 < (target + j) % (O.length + 1) then upd (fill O target p A j) (p + 1 + j) (slotOf O (target + j)) else fill O target p A j
/-- The arena in the second pass. -/
def A3 (O : List Nat) (A : Nat → Nat) : Nat → Nat → Nat
  | 0 => A
  | k + 1 => if (bs k).free then A3 O A k else fill O (bs k).target (pos bs k) (A3 O A k) ((bs k).refs % 4)

/-! ### Places -/
theorem pos_le_succ (k : Nat) : pos bs k + 2 ≤ pos bs (k + 1) := by have := size_ge (bs k); simp only [pos]; omega
theorem pos_mono {i k : Nat} (h : i ≤ k) : pos bs i ≤ pos bs k := by
  induction k with
  | zero => have : i = 0 := by omega
            subst this; exact Nat.le_refl _
  | succ k ih =>
    rcases Nat.lt_or_ge i (k + 1) with h' | h'
    · have := ih (by omega); have := pos_le_succ bs k; omega
    · have : i = k + 1 := by omega
      subst this; exact Nat.le_refl _
theorem pos_lt {i k : Nat} (h : i < k) : pos bs i + 2 ≤ pos bs k := Nat.le_trans (pos_le_succ bs i) (pos_mono bs h)
theorem pos_bound (k : Nat) : pos bs k ≤ 9 * k := by
  induction k with
  | zero => simp [pos]
  | succ k ih => have := size_le (bs k); simp only [pos]; omega
theorem pos_inj {i k : Nat} (h : pos bs i = pos bs k) : i = k := by
  rcases Nat.lt_trichotomy i k with h' | h' | h'
  · have := pos_lt bs h'; omega
  · exact h'
  · have := pos_lt bs h'; omega

/-! ### The first pass -/
theorem A2_beyond (k p : Nat) (h : pos bs k ≤ p) : A2 bs k p = 0 := by
  induction k with
  | zero => rfl
  | succ k ih =>
    have h1 := pos_le_succ bs k
    have h2 := ih (by omega)
    simp only [A2]
    split
    · rw [upd_other _ _ _ _ (by omega), upd_other _ _ _ _ (by omega), h2]
    · rw [upd_other _ _ _ _ (by omega), h2]
theorem A2_kept {i k : Nat} (h : i ≤ k) (p : Nat) (hp : p < pos bs i) : A2 bs k p = A2 bs i p := by
  induction k with
  | zero => have : i = 0 := by omega
            subst this; rfl
  | succ k ih =>
    rcases Nat.lt_or_ge i (k + 1) with h' | h'
    · have h1 := pos_mono bs (show i ≤ k by omega)
      rw [← ih (by omega)]
      simp only [A2]
      split
      · rw [upd_other _ _ _ _ (by omega), upd_other _ _ _ _ (by omega)]
      · rw [upd_other _ _ _ _ (by omega)]
    · have : i = k + 1 := by omega
      subst this; rfl
theorem A2_hdr {i k : Nat} (h : i < k) : A2 bs k (pos bs i) = hdr (bs i) := by
  have h1 := pos_le_succ bs i
  rw [A2_kept bs (show i + 1 ≤ k from h) _ (by omega)]
  simp only [A2]
  split
  · rw [upd_other _ _ _ _ (by omega), upd_same]
  · rw [upd_same]
theorem A2_link {i k : Nat} (h : i < k) (hf : (bs i).free = true) : A2 bs k (pos bs i + 1) = lnk (chain bs (size (bs i)) i) := by
  have h1 := pos_le_succ bs i
  rw [A2_kept bs (show i + 1 ≤ k from h) _ (by omega)]
  simp only [A2]
  rw [if_pos hf, upd_same]
theorem A2_slot {i k : Nat} (h : i < k) (hf : (bs i).free = false) (j : Nat) (hj : j < (bs i).refs % 4) : A2 bs k (pos bs i + 1 + j) = 0 := by
  have h1 := pos_le_succ bs i
  have h2 := size_obj (bs i) hf
  rw [A2_kept bs (show i + 1 ≤ k from h) _ (by simp only [pos]; omega)]
  simp only [A2]
  rw [if_neg (by simp [hf]), upd_other _ _ _ _ (by omega)]
  exact A2_beyond bs i _ (by omega)

/-! ### The second pass -/
theorem fill_other (O : List Nat) (target p : Nat) (A : Nat → Nat) (j q : Nat) (h : q < p + 1 ∨ p + 1 + j ≤ q) : fill O target p A j q = A q := by
  induction j with
  | zero => rfl
  | succ j ih =>
    simp only [fill]
    split
    · rw [upd_other _ _ _ _ (by omega)]; exact ih (by omega)
    · exact ih (by omega)
theorem fill_at (O : List Nat) (target p : Nat) (A : Nat → Nat) (r j : Nat) (h : j < r) (hA : ∀ i, i < r → A (p + 1 + i) = 0) : fill O target p A r (p + 1 + j) = slotOf O (target + j) := by
  induction r with
  | zero => omega
  | succ r ih =>
    simp only [fill]
    by_cases hj : j = r
    · subst hj
      split
      · rw [upd_same]
      · rename_i h0
        rw [fill_other _ _ _ _ _ _ (by omega), hA j (by omega)]
        unfold slotOf
        rw [if_neg h0]
    · split
      · rw [upd_other _ _ _ _ (by omega)]; exact ih (by omega) (fun i hi => hA i (by omega))
      · exact ih (by omega) (fun i hi => hA i (by omega))
theorem A3_kept (O : List Nat) (A : Nat → Nat) {i k : Nat} (h : i ≤ k) (p : Nat) (hp : p < pos bs i) : A3 bs O A k p = A3 bs O A i p := by
  induction k with
  | zero => have : i = 0 := by omega
            subst this; rfl
  | succ k ih =>
    rcases Nat.lt_or_ge i (k + 1) with h' | h'
    · have h1 := pos_mono bs (show i ≤ k by omega)
      rw [← ih (by omega)]
      simp only [A3]
      split
      · rfl
      · exact fill_other _ _ _ _ _ _ (by omega)
    · have : i = k + 1 := by omega
      subst this; rfl
theorem A3_beyond (O : List Nat) (A : Nat → Nat) (k p : Nat) (hp : pos bs k ≤ p) : A3 bs O A k p = A p := by
  induction k with
  | zero => rfl
  | succ k ih =>
    have h1 := pos_le_succ bs k
    simp only [A3]
    split
    · exact ih (by omega)
    · rename_i hf
      have h2 := size_obj (bs k) (by simpa using hf)
      simp only [pos] at hp
      rw [fill_other _ _ _ _ _ _ (by omega)]
      exact ih (by omega)
theorem A3_hdr (O : List Nat) (n : Nat) {i k : Nat} (h : i < n) : A3 bs O (A2 bs n) k (pos bs i) = hdr (bs i) := by
  rcases Nat.lt_or_ge i k with h' | h'
  · have h1 := pos_le_succ bs i
    rw [A3_kept bs O _ (show i + 1 ≤ k from h') _ (by omega)]
    simp only [A3]
    split
    · rw [A3_beyond bs O _ i _ (Nat.le_refl _), A2_hdr bs h]
    · rw [fill_other _ _ _ _ _ _ (by omega), A3_beyond bs O _ i _ (Nat.le_refl _), A2_hdr bs h]
  · rw [A3_beyond bs O _ k _ (pos_mono bs h'), A2_hdr bs h]
theorem A3_link (O : List Nat) (n : Nat) {i k : Nat} (h : i < n) (hf : (bs i).free = true) : A3 bs O (A2 bs n) k (pos bs i + 1) = lnk (chain bs (size (bs i)) i) := by
  rcases Nat.lt_or_ge i k with h' | h'
  · have h1 := pos_le_succ bs i
    rw [A3_kept bs O _ (show i + 1 ≤ k from h') _ (by omega)]
    simp only [A3]
    rw [if_pos hf, A3_beyond bs O _ i _ (by omega), A2_link bs h hf]
  · have := pos_mono bs h'
    rw [A3_beyond bs O _ k _ (by omega), A2_link bs h hf]
theorem A3_slot (O : List Nat) (n : Nat) {i k : Nat} (h : i < n) (hk : i < k) (hf : (bs i).free = false) (j : Nat) (hj : j < (bs i).refs % 4) : A3 bs O (A2 bs n) k (pos bs i + 1 + j) = slotOf O ((bs i).target + j) := by
  have h2 := size_obj (bs i) hf
  rw [A3_kept bs O _ (show i + 1 ≤ k from hk) _ (by simp only [pos]; omega)]
  simp only [A3]
  rw [if_neg (by simp [hf])]
  exact fill_at _ _ _ _ _ _ hj (fun m hm => by rw [A3_beyond bs O _ i _ (by omega)]; exact A2_slot bs h hf m hm)

/-! ### Objects and bits -/
theorem objs_mem {k p : Nat} (h : p ∈ objs bs k) : ∃ i, i < k ∧ (bs i).free = false ∧ p = pos bs i := by
  induction k with
  | zero => simp [objs] at h
  | succ k ih =>
    simp only [objs] at h
    split at h
    · obtain ⟨i, hi, h1, h2⟩ := ih h
      exact ⟨i, by omega, h1, h2⟩
    · rename_i hf
      rcases List.mem_append.1 h with h | h
      · obtain ⟨i, hi, h1, h2⟩ := ih h
        exact ⟨i, by omega, h1, h2⟩
      · exact ⟨k, by omega, by simpa using hf, by simpa using h⟩
theorem B_iff {k p : Nat} : B bs k p = true ↔ p ∈ objs bs k := by
  induction k with
  | zero => simp [B, objs]
  | succ k ih =>
    simp only [B, objs]
    split
    · exact ih
    · unfold upd
      split
      · rename_i h; subst h; simp
      · rename_i h; rw [ih]; simp [h]
theorem B_pos {i k : Nat} (h : i < k) : B bs k (pos bs i) = !(bs i).free := by
  cases hf : (bs i).free with
  | false =>
    rw [Bool.not_false, B_iff]
    induction k with
    | zero => omega
    | succ k ih =>
      simp only [objs]
      by_cases hi : i = k
      · subst hi; simp [hf]
      · have := ih (by omega)
        split
        · exact this
        · exact List.mem_append_left _ this
  | true =>
    rw [Bool.not_true, Bool.eq_false_iff]
    intro h'
    obtain ⟨m, hm, h1, h2⟩ := objs_mem bs (B_iff bs |>.1 h')
    have := pos_inj bs h2
    subst this
    rw [hf] at h1; cases h1
theorem B_beyond {k p : Nat} (h : pos bs k ≤ p) : B bs k p = false := by
  rw [Bool.eq_false_iff]
  intro h'
  obtain ⟨m, hm, _, h2⟩ := objs_mem bs (B_iff bs |>.1 h')
  have := pos_lt bs hm
  omega
theorem objs_length_le (k : Nat) : (objs bs k).length ≤ k := by
  induction k with
  | zero => simp [objs]
  | succ k ih =>
    simp only [objs]
    split
    · omega
    · simp; omega
theorem ow_le (k : Nat) : ow bs k ≤ pos bs k := by
  induction k with
  | zero => simp [ow]
  | succ k ih => simp only [ow, pos]; split <;> omega
theorem fc_le (k : Nat) : fc bs k ≤ k := by
  induction k with
  | zero => simp [fc]
  | succ k ih => simp only [fc]; split <;> omega
/-- What a slot or a root holds names an object, or is 0. -/
theorem slotOf_names (n t : Nat) : slotOf (objs bs n) t = 0 ∨ ∃ p, slotOf (objs bs n) t = p + 1 ∧ p ∈ objs bs n := by
  unfold slotOf
  split
  · rename_i h
    right
    refine ⟨_, rfl, ?_⟩
    have hl : t % ((objs bs n).length + 1) - 1 < (objs bs n).length := by have := Nat.mod_lt t (show 0 < (objs bs n).length + 1 by omega); omega
    rw [List.getD_eq_getElem?_getD, List.getElem?_eq_getElem hl]
    exact List.getElem_mem hl
  · exact .inl rfl

/-! ### Counting bits -/
/-- How many of the first N bits are set. -/
def cnt (f : Nat → Bool) : Nat → Nat
  | 0 => 0
  | N + 1 => cnt f N + (f N).toNat
theorem cnt_congr {f g : Nat → Bool} {N : Nat} (h : ∀ p, p < N → f p = g p) : cnt f N = cnt g N := by
  induction N with
  | zero => rfl
  | succ N ih => simp only [cnt]; rw [ih (fun p hp => h p (by omega)), h N (by omega)]
theorem cnt_false (N : Nat) : cnt (fun _ => false) N = 0 := by
  induction N with
  | zero => rfl
  | succ N ih => simp [cnt, ih]
theorem cnt_upd {f : Nat → Bool} {p N : Nat} (hp : p < N) (hf : f p = false) : cnt (upd f p true) N = cnt f N + 1 := by
  induction N with
  | zero => omega
  | succ N ih =>
    simp only [cnt]
    by_cases h : p = N
    · subst h
      rw [upd_same, cnt_congr (g := f) (fun q hq => upd_other _ _ _ _ (by omega)), hf]
      rfl
    · rw [ih (by omega), upd_other _ _ _ _ (by omega)]
      omega
theorem cnt_le (f : Nat → Bool) (N : Nat) : cnt f N ≤ N := by
  induction N with
  | zero => simp [cnt]
  | succ N ih => simp only [cnt]; cases f N <;> simp <;> omega
theorem cnt_add (f : Nat → Bool) (M N : Nat) : cnt f (M + N) = cnt f M + cnt (fun i => f (M + i)) N := by
  induction N with
  | zero => rfl
  | succ N ih => rw [← Nat.add_assoc]; simp only [cnt]; rw [ih]; omega
theorem cnt_B (k N : Nat) (h : pos bs k ≤ N) : cnt (B bs k) N = (objs bs k).length := by
  induction k with
  | zero => simp only [B, objs]; exact cnt_false N
  | succ k ih =>
    have h1 := pos_le_succ bs k
    have h2 := ih (by omega)
    simp only [B, objs]
    split
    · exact h2
    · rw [cnt_upd (by omega) (B_beyond bs (Nat.le_refl _)), h2]; simp

/-! ### The lists of free blocks -/
theorem chain_mem {m k p : Nat} (h : p ∈ chain bs m k) : ∃ i, i < k ∧ (bs i).free = true ∧ size (bs i) = m ∧ p = pos bs i := by
  induction k with
  | zero => simp [chain] at h
  | succ k ih =>
    simp only [chain] at h
    split at h
    · rename_i hc
      rcases List.mem_cons.1 h with h | h
      · exact ⟨k, by omega, hc.1, hc.2, h⟩
      · obtain ⟨i, hi, h1⟩ := ih h
        exact ⟨i, by omega, h1⟩
    · obtain ⟨i, hi, h1⟩ := ih h
      exact ⟨i, by omega, h1⟩
theorem mem_chain {i k : Nat} (h : i < k) (hf : (bs i).free = true) : pos bs i ∈ chain bs (size (bs i)) k := by
  induction k with
  | zero => omega
  | succ k ih =>
    simp only [chain]
    by_cases hi : i = k
    · subst hi; simp [hf]
    · have := ih (by omega)
      split
      · exact List.mem_cons_of_mem _ this
      · exact this
/-- What follows p in its list is what the arena's link says. -/
theorem chain_suffix {m k p : Nat} {a r : List Nat} (h : chain bs m k = a ++ p :: r) : ∃ i, i < k ∧ (bs i).free = true ∧ size (bs i) = m ∧ p = pos bs i ∧ r = chain bs m i := by
  induction k generalizing a with
  | zero => simp [chain] at h
  | succ k ih =>
    simp only [chain] at h
    split at h
    · rename_i hc
      cases a with
      | nil =>
        simp only [List.nil_append, List.cons.injEq] at h
        exact ⟨k, by omega, hc.1, hc.2, h.1.symm, h.2.symm⟩
      | cons x a =>
        simp only [List.cons_append, List.cons.injEq] at h
        obtain ⟨i, hi, h1⟩ := ih h.2
        exact ⟨i, by omega, h1⟩
    · obtain ⟨i, hi, h1⟩ := ih h
      exact ⟨i, by omega, h1⟩
theorem chain_nodup (m k : Nat) : (chain bs m k).Nodup := by
  induction k with
  | zero => simp [chain]
  | succ k ih =>
    simp only [chain]
    split
    · refine List.nodup_cons.2 ⟨fun h => ?_, ih⟩
      obtain ⟨i, hi, _, _, h1⟩ := chain_mem bs h
      have := pos_inj bs h1
      omega
    · exact ih
/-- The bits 'a free block begins here'. -/
def F : Nat → Nat → Bool
  | 0 => fun _ => false
  | k + 1 => if (bs k).free then upd (F k) (pos bs k) true else F k
theorem F_iff {k p : Nat} : F bs k p = true ↔ ∃ i, i < k ∧ (bs i).free = true ∧ p = pos bs i := by
  induction k with
  | zero => simp [F]
  | succ k ih =>
    simp only [F]
    split
    · rename_i hf
      unfold upd
      split
      · rename_i h; subst h
        simp only [true_iff]
        exact ⟨k, by omega, hf, rfl⟩
      · rename_i h
        rw [ih]
        constructor
        · rintro ⟨i, hi, h1⟩; exact ⟨i, by omega, h1⟩
        · rintro ⟨i, hi, h1, h2⟩
          refine ⟨i, ?_, h1, h2⟩
          by_cases e : i = k
          · subst e; exact absurd h2 h
          · omega
    · rename_i hf
      rw [ih]
      constructor
      · rintro ⟨i, hi, h1⟩; exact ⟨i, by omega, h1⟩
      · rintro ⟨i, hi, h1, h2⟩
        refine ⟨i, ?_, h1, h2⟩
        by_cases e : i = k
        · subst e; exact absurd h1 hf
        · omega
/-- How many free blocks the first m lists hold. -/
def listed (k : Nat) : Nat → Nat
  | 0 => 0
  | m + 1 => listed k m + (chain bs m k).length
theorem listed_succ (k M : Nat) : listed bs (k + 1) M = listed bs k M + if (bs k).free ∧ size (bs k) < M then 1 else 0 := by
  induction M with
  | zero => simp [listed]
  | succ M ih =>
    simp only [listed]
    rw [ih]
    simp only [chain]
    by_cases hf : (bs k).free = true
    · by_cases h1 : size (bs k) = M
      · have e1 : ¬ size (bs k) < M := by omega
        have e2 : size (bs k) < M + 1 := by omega
        simp only [hf, h1, true_and, if_true, List.length_cons]
        rw [if_neg (by omega), if_pos (by omega)]
        omega
      · by_cases h2 : size (bs k) < M
        · have e2 : size (bs k) < M + 1 := by omega
          simp only [hf, h1, h2, e2, true_and, if_true, if_false]
          omega
        · have e2 : ¬ size (bs k) < M + 1 := by omega
          simp only [hf, h1, h2, e2, true_and, if_false]
          omega
    · have hf' : (bs k).free = false := by simpa using hf
      simp only [hf', Bool.false_eq_true, false_and, if_false]
      omega
theorem listed_all (k M : Nat) (h : 9 < M) : listed bs k M = fc bs k := by
  induction k with
  | zero =>
    simp only [fc]
    clear h
    induction M with
    | zero => rfl
    | succ M ih => simp [listed, ih, chain]
  | succ k ih =>
    have := size_le (bs k)
    rw [listed_succ, ih]
    simp only [fc]
    split
    · rename_i h1; rw [if_pos h1.1]
    · rename_i h1
      rw [if_neg (fun hf => h1 ⟨hf, by omega⟩)]; omega
/-- The lists' bits. -/
theorem ne_bit (k m : Nat) : (ne bs k).testBit m = decide (lnk (chain bs m k) ≠ 0) := by
  induction k with
  | zero => simp [ne, chain, lnk]
  | succ k ih =>
    by_cases hf : (bs k).free = true
    · have e1 : ne bs (k + 1) = ne bs k ||| 2 ^ size (bs k) := by simp only [ne]; rw [if_pos hf]
      rw [e1, Nat.testBit_or, ih, Nat.testBit_two_pow]
      by_cases h1 : size (bs k) = m
      · have e2 : chain bs m (k + 1) = pos bs k :: chain bs m k := by simp only [chain]; rw [if_pos ⟨hf, h1⟩]
        rw [e2]; simp [h1, lnk]
      · have e2 : chain bs m (k + 1) = chain bs m k := by simp only [chain]; rw [if_neg (fun h => h1 h.2)]
        rw [e2]; simp [h1]
    · have e1 : ne bs (k + 1) = ne bs k := by simp only [ne]; rw [if_neg hf]
      have e2 : chain bs m (k + 1) = chain bs m k := by simp only [chain]; rw [if_neg (fun h => hf h.1)]
      rw [e1, e2, ih]
theorem ne_lt (k : Nat) : ne bs k < 2 ^ 10 := by
  induction k with
  | zero => simp [ne]
  | succ k ih =>
    have := size_le (bs k)
    simp only [ne]
    split
    · exact Nat.or_lt_two_pow ih (Nat.pow_lt_pow_right (by omega) (by omega))
    · exact ih
theorem lnk_le {m k : Nat} : lnk (chain bs m k) ≤ pos bs k := by
  cases h : chain bs m k with
  | nil => simp [lnk]
  | cons p r =>
    obtain ⟨i, hi, _, _, hp⟩ := chain_mem bs (show p ∈ chain bs m k by rw [h]; simp)
    have := pos_lt bs hi
    simp only [lnk]; omega
end

/-! ### The roots -/
section
variable (rs : Nat → Nat) (O : List Nat)
/-- The head of the list of dropped roots behind the first i. -/
def dchain : Nat → List Nat
  | 0 => []
  | i + 1 => if rs i % 4 = 0 then i :: dchain i else dchain i
/-- What root slot i holds. -/
def rootOf (i : Nat) : Nat := if rs i % 4 = 0 then 9223372036854775808 + (i % 256) * 4294967296 + lnk (dchain rs i) else (i % 256) * 4294967296 + slotOf O (rs i)
theorem dchain_suffix {k p : Nat} {a r : List Nat} (h : dchain rs k = a ++ p :: r) : p < k ∧ rs p % 4 = 0 ∧ r = dchain rs p := by
  induction k generalizing a with
  | zero => simp [dchain] at h
  | succ k ih =>
    simp only [dchain] at h
    split at h
    · rename_i hc
      cases a with
      | nil =>
        simp only [List.nil_append, List.cons.injEq] at h
        obtain ⟨rfl, rfl⟩ := h
        exact ⟨by omega, hc, rfl⟩
      | cons x a =>
        simp only [List.cons_append, List.cons.injEq] at h
        obtain ⟨h1, h2⟩ := ih h.2
        exact ⟨by omega, h2⟩
    · obtain ⟨h1, h2⟩ := ih h
      exact ⟨by omega, h2⟩
theorem dchain_lnk_le (k : Nat) : lnk (dchain rs k) ≤ k := by
  induction k with
  | zero => simp [dchain, lnk]
  | succ k ih =>
    simp only [dchain]
    split
    · simp [lnk]
    · omega
theorem dchain_length_le (k : Nat) : (dchain rs k).length ≤ k := by
  induction k with
  | zero => simp [dchain]
  | succ k ih =>
    simp only [dchain]
    split
    · simp; omega
    · omega
end
end Go.Proofs.YbulkuieFmt.C
