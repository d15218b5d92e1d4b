import Derived.Test.YbulkcpoeCfgWalk
import Derived.LaidEql
namespace Go.Proofs.Ybulkcpoe
open Go.RowKit

def zero4 : Array Value := #[.int .u64 0, .int .u64 0, .pointer none, .int .u8 0]
theorem made_at (n k j : Nat) (hk : k < n) (hj : j < 4) : (madeCells zero4 (n * 4)).toList[k * 4 + j]? = zero4[j]? := by
  have h1 : k * 4 + j < n * 4 := by omega
  have h2 : (k * 4 + j) % 4 = j := by omega
  simp only [madeCells, Array.toList_map, List.getElem?_map, Array.getElem?_toList, Array.getElem?_range, h1, if_true, Option.map_some]
  show some (zero4[(k * 4 + j) % 4]!) = _
  rw [h2]
  match j, hj with
  | 0, _ => rfl
  | 1, _ => rfl
  | 2, _ => rfl
  | 3, _ => rfl
theorem made_one (n : Nat) : ∀ u ∈ (madeCells zero4 (n * 4)).toList, u.oneCell' = true := fun u hu => by
  simp only [madeCells, Array.toList_map, List.mem_map] at hu
  obtain ⟨i, -, rfl⟩ := hu
  show (zero4[i % 4]!).oneCell' = true
  have : i % 4 < 4 := Nat.mod_lt _ (by omega)
  match i % 4, this with
  | 0, _ => rfl
  | 1, _ => rfl
  | 2, _ => rfl
  | 3, _ => rfl
theorem made_len (n : Nat) : (madeCells zero4 (n * 4)).toList.length = n * 4 := by simp [size_madeCells]

/-- Two places in different blocks of cells. -/
theorem apart42 {W : World} {g b : Nat} {A B : Array Value} {s t : TypeId} (hne : g ≠ b) (hg : W.heap[g]? = some (.cells A s (0, 0))) (hb : W.heap[b]? = some (.cells B t (0, 0))) (nq : Nat) :
    (binOp .eql 42 (.pointer (some ⟨g, 0, none⟩)) (.pointer (some ⟨b, 0, none⟩))).run Yba.prog (W.drewN nq) = .ok (.bool false) (W.drewN nq) := by
  have hsm : (Yba.prog.info? 51).map (fun i => decide (i.size = 0)) = some false := by kernel_rfl
  obtain ⟨i, hi, hz⟩ := Option.map_eq_some_iff.1 hsm
  have hz' : i.size ≠ 0 := by simpa using hz
  have hs := run_sameAddr_other (P := Yba.prog) (W.drewN nq) (a := ⟨g, 0, none⟩) (b := ⟨b, 0, none⟩) (fun e => hne (congrArg Addr.block e)) hg hb
  have h : ∀ d : Nat, (Op.equalIn (d + 1) 42 (.pointer (some ⟨g, 0, none⟩)) (.pointer (some ⟨b, 0, none⟩))).run Yba.prog (W.drewN nq) = .ok false (W.drewN nq) := fun d => by
    simp [Op.equalIn, run_underlying Yba.underlying42, sizeOf, typeInfo, hi, hz', hs]
  simp only [binOp]
  simp [Op.equal, Op.maxDepth, h 9999]

theorem own_made {W : World} {base n : Nat} {g : Nat} (h : W.ownsRow base 51 4 (.slice (some ⟨g, 0, none⟩) n n) n (madeCells (Value.agg zero4).cells (n * 4)).toList) : W.rangeAt g 0 (madeCells zero4 (n * 4)).toList ∧ ∃ A, W.heap[g]? = some (.cells A 51 (0, 0)) := by
  rcases h.2 with ⟨hv, _⟩ | ⟨g', cap', cur, hv, hb, hg, _, _, _, ht⟩
  · cases hv
  · simp only [Value.slice.injEq, Option.some.injEq, Addr.mk.injEq, and_true] at hv
    obtain ⟨rfl, -⟩ := hv
    refine ⟨fun j v hv => ?_, cur, hg⟩
    rw [cell_of_row _ _ _ _ _ _ hg]
    have ht' : cur.toList.take (n * 4) = (madeCells zero4 (n * 4)).toList := ht
    rw [← ht', List.getElem?_take] at hv
    split at hv
    · simpa using hv
    · cases hv

theorem zeros_eq (w : World) : (binOp .neq 51 (.agg #[.int .u64 0, .int .u64 0, .pointer none, .int .u8 0]) (.agg #[.int .u64 0, .int .u64 0, .pointer none, .int .u8 0])).run Yba.prog w = .ok (.bool false) w := by kernel_rfl

theorem four {W : World} {g n k : Nat} (h : W.rangeAt g 0 (madeCells zero4 (n * 4)).toList) (hk : k < n) :
    W.cell? ⟨g, k * 4, none⟩ = some (.int .u64 0) ∧ W.cell? ⟨g, k * 4 + 1, none⟩ = some (.int .u64 0) ∧ W.cell? ⟨g, k * 4 + 2, none⟩ = some (.pointer none) ∧ W.cell? ⟨g, k * 4 + 3, none⟩ = some (.int .u8 0) := by
  have c : ∀ j v, j < 4 → zero4[j]? = some v → W.cell? ⟨g, k * 4 + j, none⟩ = some v := fun j v hj hv => by
    have := h (k * 4 + j) v ((made_at n k j hk hj).trans hv)
    rwa [Nat.zero_add] at this
  exact ⟨c 0 _ (by omega) rfl, c 1 _ (by omega) rfl, c 2 _ (by omega) rfl, c 3 _ (by omega) rfl⟩

set_option maxRecDepth 100000 in
set_option maxHeartbeats 4000000 in
theorem cfg_some_true (mm ms : Int) (n : Nat) (hn : 0 < n) (hn2 : n ≤ 1024) (w : World) :
    Calls Yba.prog 3 #[.int .i64 mm, .int .i64 ms, .int .u16 (n : Int), .bool true] w fun e w' => e = .returned (.bool true) ∧ Below w.heap.size w w' := by
  have he := isnil23
  have hm := isnil36
  have hf := nofunc
  have hze := zeros_eq
  obtain ⟨i, hi, hz, hs, hb⟩ := info51
  have HI : Hid (Yba.prog.info? 51 = some i) := hi
  have hn0 : ((n : Int) == 0) = false := by simp; omega
  have hn1 : (0 : Int) < (n : Int) := by omega
  have hn3 : ¬ (1024 : Int) < (n : Int) := by omega
  clear hi
  go_enter Yba.func3, Yba.ntmps3
  go_wp2_with (at_make; refine wpList_make_full _ rfl (.tmp 23) (.tmp 23) 23 rfl w.heap.size 51 i (.agg zero4) 4 Yba.underlying23 HI.out hz hs .i64 .i64 _ _ n rfl rfl rfl rfl (by rw [hb]; omega) (by unfold maxLen; omega) (Nat.le_refl _) ?_; intro w0 hown hgrow)
  obtain ⟨hr0, A0, hA0⟩ := own_made hown
  have hB0 : Below w.heap.size w w0 := (Below.refl _ _).grown hgrow (Nat.le_refl _) (fun k hk => by cases hk)
  have l0 : w.heap.size < w0.heap.size := by
    rcases Nat.lt_or_ge w.heap.size w0.heap.size with h | h
    · exact h
    · rw [Array.getElem?_eq_none h] at hA0; cases hA0
  refine (new_some mm ms w.heap.size n n _ (made_len n) (made_one n) hn hn2 _ hr0).mono ?_
  rintro e w1 ⟨st, mb, g, cap, rfl, hst, hmb, hg, hr, ⟨A1, hA1⟩, hB⟩
  obtain ⟨c0, c1, c2, c3, c6, c7, c8, c9, c10⟩ := cells11 hst
  have hlen := fun nq ty => nolen hmb nq ty
  have hap := fun nq => apart42 (g := g) (b := w.heap.size) (by omega) hA1 ((hB.block _ l0).trans hA0) nq
  have HR : Hid (w1.rangeAt g 0 (madeCells zero4 (n * 4)).toList) := hr
  have HB : Hid (Below w.heap.size w w1) := hB0.trans (hB.mono (Nat.le_of_lt l0))
  clear hst hmb hB hr hA1 hA0 hr0 hB0 hown hgrow l0 hz hs hb HI hg
  by_cases h1 : mm ≤ 0
  · rw [bound_pos h1] at c0
    by_cases h2 : ms ≤ 0
    · rw [bound_pos h2] at c1
      go_wp2_with fail
      go_quiet (fail)
      go_wp2_with fail
      go_loop [13] (fun j => ∃ k : Nat, k ≤ n ∧ j = .int .i64 k) (fun j => n - (intOf j).toNat)
      case atStart => exact ⟨0, Nat.zero_le _, rfl⟩
      case round =>
        obtain ⟨k, hk, rfl⟩ := hrel
        by_cases hlt : k < n
        · have hlti : (k : Int) < (n : Int) := by omega
          obtain ⟨d0, d1, d2, d3⟩ := four HR.out hlt
          go_wp2_with fail
          go_round
          case rel => exact ⟨k + 1, by omega, by go_num⟩
          case measure => simp [intOf]; omega
        · have hge : ¬ (k : Int) < (n : Int) := by omega
          go_wp2_with fail
          go_ret
          exact ⟨rfl, below_drewN HB.out _⟩
    · rw [bound_neg h2] at c1
      go_wp2_with fail
      go_quiet (fail)
      go_wp2_with fail
      go_loop [13] (fun j => ∃ k : Nat, k ≤ n ∧ j = .int .i64 k) (fun j => n - (intOf j).toNat)
      case atStart => exact ⟨0, Nat.zero_le _, rfl⟩
      case round =>
        obtain ⟨k, hk, rfl⟩ := hrel
        by_cases hlt : k < n
        · have hlti : (k : Int) < (n : Int) := by omega
          obtain ⟨d0, d1, d2, d3⟩ := four HR.out hlt
          go_wp2_with fail
          go_round
          case rel => exact ⟨k + 1, by omega, by go_num⟩
          case measure => simp [intOf]; omega
        · have hge : ¬ (k : Int) < (n : Int) := by omega
          go_wp2_with fail
          go_ret
          exact ⟨rfl, below_drewN HB.out _⟩
  · rw [bound_neg h1] at c0
    by_cases h2 : ms ≤ 0
    · rw [bound_pos h2] at c1
      go_wp2_with fail
      go_quiet (fail)
      go_wp2_with fail
      go_loop [13] (fun j => ∃ k : Nat, k ≤ n ∧ j = .int .i64 k) (fun j => n - (intOf j).toNat)
      case atStart => exact ⟨0, Nat.zero_le _, rfl⟩
      case round =>
        obtain ⟨k, hk, rfl⟩ := hrel
        by_cases hlt : k < n
        · have hlti : (k : Int) < (n : Int) := by omega
          obtain ⟨d0, d1, d2, d3⟩ := four HR.out hlt
          go_wp2_with fail
          go_round
          case rel => exact ⟨k + 1, by omega, by go_num⟩
          case measure => simp [intOf]; omega
        · have hge : ¬ (k : Int) < (n : Int) := by omega
          go_wp2_with fail
          go_ret
          exact ⟨rfl, below_drewN HB.out _⟩
    · rw [bound_neg h2] at c1
      go_wp2_with fail
      go_quiet (fail)
      go_wp2_with fail
      go_loop [13] (fun j => ∃ k : Nat, k ≤ n ∧ j = .int .i64 k) (fun j => n - (intOf j).toNat)
      case atStart => exact ⟨0, Nat.zero_le _, rfl⟩
      case round =>
        obtain ⟨k, hk, rfl⟩ := hrel
        by_cases hlt : k < n
        · have hlti : (k : Int) < (n : Int) := by omega
          obtain ⟨d0, d1, d2, d3⟩ := four HR.out hlt
          go_wp2_with fail
          go_round
          case rel => exact ⟨k + 1, by omega, by go_num⟩
          case measure => simp [intOf]; omega
        · have hge : ¬ (k : Int) < (n : Int) := by omega
          go_wp2_with fail
          go_ret
          exact ⟨rfl, below_drewN HB.out _⟩

set_option maxRecDepth 100000 in
set_option maxHeartbeats 4000000 in
theorem cfg_some_false (mm ms : Int) (n : Nat) (hn : 0 < n) (hn2 : n ≤ 1024) (w : World) :
    Calls Yba.prog 3 #[.int .i64 mm, .int .i64 ms, .int .u16 (n : Int), .bool false] w fun e w' => e = .returned (.bool true) ∧ Below w.heap.size w w' := by
  have he := isnil23
  have hm := isnil36
  have hf := nofunc
  have hze := zeros_eq
  obtain ⟨i, hi, hz, hs, hb⟩ := info51
  have HI : Hid (Yba.prog.info? 51 = some i) := hi
  have hn0 : ((n : Int) == 0) = false := by simp; omega
  have hn1 : (0 : Int) < (n : Int) := by omega
  have hn3 : ¬ (1024 : Int) < (n : Int) := by omega
  clear hi
  go_enter Yba.func3, Yba.ntmps3
  go_wp2_with (at_make; refine wpList_make_full _ rfl (.tmp 23) (.tmp 23) 23 rfl w.heap.size 51 i (.agg zero4) 4 Yba.underlying23 HI.out hz hs .i64 .i64 _ _ n rfl rfl rfl rfl (by rw [hb]; omega) (by unfold maxLen; omega) (Nat.le_refl _) ?_; intro w0 hown hgrow)
  obtain ⟨hr0, A0, hA0⟩ := own_made hown
  have hB0 : Below w.heap.size w w0 := (Below.refl _ _).grown hgrow (Nat.le_refl _) (fun k hk => by cases hk)
  have l0 : w.heap.size < w0.heap.size := by
    rcases Nat.lt_or_ge w.heap.size w0.heap.size with h | h
    · exact h
    · rw [Array.getElem?_eq_none h] at hA0; cases hA0
  refine (new_some mm ms w.heap.size n n _ (made_len n) (made_one n) hn hn2 _ hr0).mono ?_
  rintro e w1 ⟨st, mb, g, cap, rfl, hst, hmb, hg, hr, ⟨A1, hA1⟩, hB⟩
  obtain ⟨c0, c1, c2, c3, c6, c7, c8, c9, c10⟩ := cells11 hst
  have hlen := fun nq ty => nolen hmb nq ty
  have hap := fun nq => apart42 (g := g) (b := w.heap.size) (by omega) hA1 ((hB.block _ l0).trans hA0) nq
  have HR : Hid (w1.rangeAt g 0 (madeCells zero4 (n * 4)).toList) := hr
  have HB : Hid (Below w.heap.size w w1) := hB0.trans (hB.mono (Nat.le_of_lt l0))
  clear hst hmb hB hr hA1 hA0 hr0 hB0 hown hgrow l0 hz hs hb HI hg
  by_cases h1 : mm ≤ 0
  · rw [bound_pos h1] at c0
    by_cases h2 : ms ≤ 0
    · rw [bound_pos h2] at c1
      go_wp2_with fail
      go_quiet (fail)
      go_wp2_with fail
      go_loop [13] (fun j => ∃ k : Nat, k ≤ n ∧ j = .int .i64 k) (fun j => n - (intOf j).toNat)
      case atStart => exact ⟨0, Nat.zero_le _, rfl⟩
      case round =>
        obtain ⟨k, hk, rfl⟩ := hrel
        by_cases hlt : k < n
        · have hlti : (k : Int) < (n : Int) := by omega
          obtain ⟨d0, d1, d2, d3⟩ := four HR.out hlt
          go_wp2_with fail
          go_round
          case rel => exact ⟨k + 1, by omega, by go_num⟩
          case measure => simp [intOf]; omega
        · have hge : ¬ (k : Int) < (n : Int) := by omega
          go_wp2_with fail
          go_ret
          exact ⟨rfl, below_drewN HB.out _⟩
    · rw [bound_neg h2] at c1
      go_wp2_with fail
      go_quiet (fail)
      go_wp2_with fail
      go_loop [13] (fun j => ∃ k : Nat, k ≤ n ∧ j = .int .i64 k) (fun j => n - (intOf j).toNat)
      case atStart => exact ⟨0, Nat.zero_le _, rfl⟩
      case round =>
        obtain ⟨k, hk, rfl⟩ := hrel
        by_cases hlt : k < n
        · have hlti : (k : Int) < (n : Int) := by omega
          obtain ⟨d0, d1, d2, d3⟩ := four HR.out hlt
          go_wp2_with fail
          go_round
          case rel => exact ⟨k + 1, by omega, by go_num⟩
          case measure => simp [intOf]; omega
        · have hge : ¬ (k : Int) < (n : Int) := by omega
          go_wp2_with fail
          go_ret
          exact ⟨rfl, below_drewN HB.out _⟩
  · rw [bound_neg h1] at c0
    by_cases h2 : ms ≤ 0
    · rw [bound_pos h2] at c1
      go_wp2_with fail
      go_quiet (fail)
      go_wp2_with fail
      go_loop [13] (fun j => ∃ k : Nat, k ≤ n ∧ j = .int .i64 k) (fun j => n - (intOf j).toNat)
      case atStart => exact ⟨0, Nat.zero_le _, rfl⟩
      case round =>
        obtain ⟨k, hk, rfl⟩ := hrel
        by_cases hlt : k < n
        · have hlti : (k : Int) < (n : Int) := by omega
          obtain ⟨d0, d1, d2, d3⟩ := four HR.out hlt
          go_wp2_with fail
          go_round
          case rel => exact ⟨k + 1, by omega, by go_num⟩
          case measure => simp [intOf]; omega
        · have hge : ¬ (k : Int) < (n : Int) := by omega
          go_wp2_with fail
          go_ret
          exact ⟨rfl, below_drewN HB.out _⟩
    · rw [bound_neg h2] at c1
      go_wp2_with fail
      go_quiet (fail)
      go_wp2_with fail
      go_loop [13] (fun j => ∃ k : Nat, k ≤ n ∧ j = .int .i64 k) (fun j => n - (intOf j).toNat)
      case atStart => exact ⟨0, Nat.zero_le _, rfl⟩
      case round =>
        obtain ⟨k, hk, rfl⟩ := hrel
        by_cases hlt : k < n
        · have hlti : (k : Int) < (n : Int) := by omega
          obtain ⟨d0, d1, d2, d3⟩ := four HR.out hlt
          go_wp2_with fail
          go_round
          case rel => exact ⟨k + 1, by omega, by go_num⟩
          case measure => simp [intOf]; omega
        · have hge : ¬ (k : Int) < (n : Int) := by omega
          go_wp2_with fail
          go_ret
          exact ⟨rfl, below_drewN HB.out _⟩

end Go.Proofs.Ybulkcpoe
