/-
  zzs1046cmake (seat b1046a).
-/
import Derived.Test.YbulkuqgPlain
namespace Go.Proofs.Ybulkuqg
open Go.RowKit

theorem zc35_at (m i : Nat) (hi : i < 1026) : (zc35.setIfInBounds 1024 (.int .u32 (m : Int)))[i]? = some (if i = 1025 then .slice none 0 0 else if i = 1024 then .int .u32 (m : Int) else .int .u32 0) := by
  rw [Array.getElem?_setIfInBounds]
  by_cases h4 : i = 1024
  · subst h4
    rw [if_pos rfl, if_pos (by rw [zc35_size]; omega), if_neg (by omega), if_pos rfl]
  · rw [if_neg (fun h => h4 h.symm), if_neg h4]
    by_cases h5 : i = 1025
    · subst h5
      rw [if_pos rfl]
      unfold zc35
      rw [Array.getElem?_append_right (by simp)]
      simp
    · rw [if_neg h5]
      unfold zc35
      rw [Array.getElem?_append_left (by simp; omega), Array.getElem?_replicate, if_pos (by omega)]

/-- What a cell of sub holds. -/
def subAt (j : Nat) : Int := ((j : Int) * 2654435761 + 12345) % 4294967296

/-- The table with its first i subs. -/
structure Sub (w0 w : World) (tb sb m I N e i : Nat) : Prop where
  ord : tb < sb
  tab : Tab w tb m I (.int .u32 (e : Int)) (.slice (some ⟨sb, 0, none⟩) N N)
  row : w.rowIs sb 23 N (fun j => .int .u32 (if j < i then subAt j else 0))
  le : w0.heap.size ≤ tb
  bel : Below w0.heap.size w0 w

theorem Sub.c5 {w0 w : World} {tb sb m I N e i : Nat} (h : Sub w0 w tb sb m I N e i) : w.cell? ⟨tb, 1025, none⟩ = some (.slice (some ⟨sb, 0, none⟩) N N) := by
  obtain ⟨f, hr, _, h2, _⟩ := h.tab
  rw [hr.cell (by omega), h2]

theorem Sub.set {w0 w : World} {tb sb m I N e i : Nat} (h : Sub w0 w tb sb m I N e i) : Sub w0 (w.setCell ⟨sb, i, none⟩ (.int .u32 (subAt i))) tb sb m I N e (i + 1) := by
  have ho := h.ord
  have hl := h.le
  obtain ⟨f, hr, h1, h2, h3⟩ := h.tab
  refine { ord := ho, tab := ⟨f, hr.setOther (a := ⟨sb, i, none⟩) (by show tb ≠ sb; omega) _, h1, h2, h3⟩, row := (h.row.set i _).congr (fun j _ => ?_), le := hl, bel := h.bel.setCell (by show _ ≤ sb; omega) _ }
  show (if j = i then _ else _) = _
  by_cases hj : j = i
  · subst hj; rw [if_pos rfl, if_pos (by omega)]
  · rw [if_neg hj]
    by_cases hji : j < i
    · rw [if_pos hji, if_pos (by omega)]
    · rw [if_neg hji, if_neg (by omega)]

set_option maxRecDepth 100000 in
set_option maxHeartbeats 1000000 in
theorem make_any (b m k v x l : Nat) (K V X L B I P : Nat) (w : World) (hk : (k : Int) % 5 = (K : Int)) (hv : (v : Int) % 64 = (V : Int)) (hx : (x : Int) % 8 = (X : Int)) (hl : (l : Int) % 16 = (L : Int)) (hb : (b : Int) % 1024 = (B : Int))
    (hK : K < 5) (hV : V < 64) (hX : X < 8) (hL : L < 16) (hI : bits .and .u32 (B : Int) (m : Int) = (I : Int)) (hIl : I < 1024) (hP : P = 2 ^ X) (hk0 : k < 256) (hv0 : v < 65536) (hx0 : x < 256) (hl0 : l < 256) :
    Calls Yba.prog 5 #[.int .u64 (b : Int), .int .u32 (m : Int), .int .u8 (k : Int), .int .u16 (v : Int), .int .u8 (x : Int), .int .u8 (l : Int)] w fun e w' => ∃ E sb : Nat, E = V * 65536 + K * 256 + X * 16 + L ∧ e = .returned (.tuple #[.pointer (some ⟨w.heap.size, 0, none⟩), .int .u32 (E : Int), .int .u32 (V : Int), .int .u32 (X : Int)]) ∧ Sub w w' w.heap.size sb m I (V + P) E (V + P) := by
  have z1 := zero35
  have z2 := zc35_size
  have z3 := zc35_ne
  obtain ⟨e1, e2, e3, o1, o2, o3, hE⟩ := entry_ors V K X L hV hK hX hL
  have hPl : P ≤ 128 := by rw [hP]; exact Nat.pow_le_pow_right (by omega) (show X ≤ 7 by omega)
  obtain ⟨N, hN⟩ : ∃ N, N = V + P := ⟨_, rfl⟩
  have hNl : N ≤ 200 := by omega
  have hp : ((2 : Int) ^ X) % 4294967296 = (P : Int) := by
    have hp : ((2 : Int) ^ X) = (P : Int) := by rw [hP]; simp
    rw [hp]; omega
  have hmk := run_make_row' (P := Yba.prog) 33 23 (.int .u32 0) 4 Yba.underlying33 info23 rfl .u32 .u32 N (by omega) (by omega)
  rw [show (N : Int) = (V : Int) + (P : Int) by omega] at hmk
  have HNE : Hid (N = V + P) := hN
  clear hN
  have HEE : Hid _ := hE
  have HPE : Hid _ := hP
  clear hE hP
  go_enter Yba.func5, Yba.ntmps5
  go_wp2_with fail
  obtain ⟨tb, htb⟩ : ∃ tb, tb = w.heap.size := ⟨_, rfl⟩
  rw [← htb]
  have HTB : Hid _ := htb
  clear htb
  go_loopg [17] 1024 (fun g iv wr => ∃ i : Nat, iv = .int .i64 (i : Int) ∧ (i + g = 1024 ∧ (∃ z, Tab wr tb m I z (.slice none 0 0)) ∧ Below w.heap.size w wr))
  case atStart =>
    refine ⟨0, rfl, by omega, ⟨_, fun i => if i = 1025 then .slice none 0 0 else if i = 1024 then .int .u32 (m : Int) else .int .u32 0, ?_, rfl, rfl, rfl⟩, (Below.refl _ _).alloc (Nat.le_refl _) _⟩
    rw [HTB.out]
    have h := World.rowIs_alloc w (zc35.setIfInBounds 1024 (.int .u32 (m : Int))) 35 (fun i => if i = 1025 then .slice none 0 0 else if i = 1024 then .int .u32 (m : Int) else .int .u32 0) (fun i hi => by
      rw [Array.size_setIfInBounds, zc35_size] at hi
      exact zc35_at m i hi)
    rw [Array.size_setIfInBounds, zc35_size] at h
    exact h
  case round =>
    clear z1 z2 z3
    obtain ⟨i, rfl, hE⟩ := hrel
    have HE : Hid _ := hE
    clear hE
    by_cases hi : i < 1024
    · obtain ⟨z, f, hr, h1, h2, h3⟩ := HE.out.2.1
      have s0 := hr.cell (i := i) (by omega)
      have f0 := hr.frozen i
      have HT : Hid (∀ y, ∃ z, Tab (wr.setCell ⟨tb, i, none⟩ y) tb m I z (.slice none 0 0)) := fun y => by
        refine ⟨_, _, hr.set i y, ?_, ?_, rfl⟩
        · show (if 1024 = i then _ else _) = _
          rw [if_neg (by omega)]; exact h1
        · show (if 1025 = i then _ else _) = _
          rw [if_neg (by omega)]; exact h2
      clear h1 h2 h3 hr
      generalize f i = v0 at *
      clear f z
      have HX : Hid _ := o1
      have HX2 : Hid _ := o2
      have HX3 : Hid _ := o3
      clear o1 o2 o3
      go_wp2_with fail
      go_roundg (gk - 1)
      case measure => have := HE.out.1; omega
      case rel =>
        refine ⟨i + 1, by go_num, by have := HE.out.1; omega, HT.out _, HE.out.2.2.setCell (by rw [HTB.out]; exact Nat.le_refl _) _⟩
    · have hi2 : i = 1024 := by have := HE.out.1; omega
      subst hi2
      obtain ⟨z, f, hr, h1, h2, h3⟩ := HE.out.2.1
      have s0 := hr.cell (i := I) (by omega)
      have f0 := hr.frozen I
      have s5 := hr.cell (i := 1025) (by omega)
      have f5 := hr.frozen 1025
      rw [h2] at s5
      rw [h3] at s0
      have HW : Hid (∀ sb, Tab ((wr.setCell ⟨tb, I, none⟩ (.int .u32 (e3 : Int))).setCell ⟨tb, 1025, none⟩ (.slice (some ⟨sb, 0, none⟩) N N)) tb m I (.int .u32 (e3 : Int)) (.slice (some ⟨sb, 0, none⟩) N N)) := by
        intro sb
        refine ⟨_, (hr.set I _).set 1025 _, ?_, ?_, ?_⟩
        · show (if 1024 = 1025 then _ else if 1024 = I then _ else _) = _
          rw [if_neg (by omega), if_neg (by omega)]; exact h1
        · show (if 1025 = 1025 then _ else if 1025 = I then _ else _) = _
          rw [if_pos rfl]
        · show (if I = 1025 then _ else if I = I then _ else _) = _
          rw [if_neg (by omega), if_pos rfl]
      have K1 : ∀ o, ((wr.setCell ⟨tb, I, none⟩ (.int .u32 (e3 : Int))).alloc o).cell? ⟨tb, 1025, none⟩ = some (.slice none 0 0) := fun o => by
        have h := ((hr.set I (.int .u32 (e3 : Int))).alloc o).cell (i := 1025) (by omega)
        rw [h, if_neg (by omega), h2]
      have K2 : ∀ o, ((wr.setCell ⟨tb, I, none⟩ (.int .u32 (e3 : Int))).alloc o).frozen? ⟨tb, 1025, none⟩ = false := fun o => ((hr.set I (.int .u32 (e3 : Int))).alloc o).frozen 1025
      clear h1 h2 h3 hr s5 f5
      go_wp2_with fail
      simp only [hk, hv, hx, hl, hb]
      clear hk hv hx hl hb
      obtain ⟨w1, rfl⟩ : ∃ w1, w1 = wr := ⟨_, rfl⟩
      obtain ⟨sb, hsb⟩ : ∃ sb, sb = w1.heap.size := ⟨_, rfl⟩
      rw [← hsb]
      obtain ⟨w2, hw2⟩ : ∃ w2, w2 = ((w1.setCell ⟨tb, I, none⟩ (.int .u32 (e3 : Int))).alloc (.cells (madeCells #[.int .u32 0] N) 23)).setCell ⟨tb, 1025, none⟩ (.slice (some ⟨sb, 0, none⟩) N N) := ⟨_, rfl⟩
      rw [← hw2]
      have hsl : tb < sb := by have h := World.block_lt_of_cell? _ _ s0; rw [hsb]; exact h
      have HS : Hid (Sub w w2 tb sb m I N e3 0) := by
        obtain ⟨f, hr, h1, h2, h3⟩ := HE.out.2.1.choose_spec
        have r1 := ((hr.set I (.int .u32 (e3 : Int))).alloc (.cells (madeCells #[.int .u32 0] N) 23)).set 1025 (.slice (some ⟨sb, 0, none⟩) N N)
        have r2 := (World.rowIs_made (w1.setCell ⟨tb, I, none⟩ (.int .u32 (e3 : Int))) (.int .u32 0) N 23).setOther (a := ⟨tb, 1025, none⟩) (by simp; rw [← hsb]; omega) (.slice (some ⟨sb, 0, none⟩) N N)
        simp only [World.size_setCell, ← hsb] at r2
        rw [← hw2] at r1 r2
        refine { ord := hsl, tab := ⟨_, r1, ?_, ?_, ?_⟩, row := r2.congr (fun j _ => by simp), le := by rw [HTB.out]; exact Nat.le_refl _, bel := ?_ }
        · show (if 1024 = 1025 then _ else if 1024 = I then _ else _) = _
          rw [if_neg (by omega), if_neg (by omega)]; exact h1
        · show (if 1025 = 1025 then _ else if 1025 = I then _ else _) = _
          rw [if_pos rfl]
        · show (if I = 1025 then _ else if I = I then _ else _) = _
          rw [if_neg (by omega), if_pos rfl]
        · rw [hw2]
          have hle : w.heap.size ≤ tb := by rw [HTB.out]; exact Nat.le_refl _
          have hB1 := HE.out.2.2.setCell (p := ⟨tb, I, none⟩) hle (.int .u32 (e3 : Int))
          exact (hB1.alloc hB1.size _).setCell (p := ⟨tb, 1025, none⟩) hle _
      clear hw2 hsb K1 K2 s0 f0 hmk
      go_loopg [23] N (fun g iv wr => ∃ i : Nat, iv = .int .i64 (i : Int) ∧ (i + g = N ∧ Sub w wr tb sb m I N e3 i))
      case atStart => exact ⟨0, rfl, by omega, HS.out⟩
      case round =>
        clear HS
        obtain ⟨i, rfl, hE2⟩ := hrel
        have HE2 : Hid _ := hE2
        clear hE2
        have c5 := HE2.out.2.c5
        by_cases hi : i < N
        · have ci := HE2.out.2.row.cell (i := i) (by omega)
          have fi := HE2.out.2.row.frozen i
          have HN : Hid (Sub w (wr.setCell ⟨sb, i, none⟩ (.int .u32 (subAt i))) tb sb m I N e3 (i + 1)) := HE2.out.2.set
          unfold subAt at HN
          go_wp2_with fail
          go_roundg (gk - 1)
          case measure => have := HE2.out.1; omega
          case rel => exact ⟨i + 1, by go_num, by have := HE2.out.1; omega, HN.out⟩
        · have hin : i = N := by have := HE2.out.1; omega
          go_wp2_with fail
          have hv := HTB.out
          subst hv
          refine bodyPost_ret (v := .tuple #[.pointer (some ⟨w.heap.size, 0, none⟩), .int .u32 (e3 : Int), .int .u32 (V : Int), .int .u32 (X : Int)]) (by simp [results, Yba.results5, go_sem]) rfl ⟨e3, sb, HEE.out, rfl, ?_⟩
          have h := HE2.out.2
          rw [hin, HNE.out] at h
          exact h
end Go.Proofs.Ybulkuqg
