import Derived.Test.YbulkcpoeMod4
namespace Go.Proofs.Ybulkcpoe
open Go.RowKit Go.MapKept

set_option linter.unusedSimpArgs false in
set_option maxRecDepth 100000 in
set_option maxHeartbeats 40000000 in
theorem model_made (sa : Option Addr) (n cap : Nat) (K : Nat → Int) (E : Nat → Ent) (key : Int) (e : Ent) (nm : Bool) (w : World) (hn : n ≤ 1024) (hnm : nm = true → 0 < n) (hKV : KV w sa n K E) :
    Calls Yba.prog 5 #[.slice sa n cap, .int .i32 key, .int .u32 e.1, .int .u32 e.2.1, .int .u32 e.2.2, .bool nm] w fun x w' => x = .returned (.bool true) ∧ Below w.heap.size w w' := by
  have hmk := fun w t => run_makeMap (P := Yba.prog) w t
  have hn3 : ¬ (1024 : Int) < (n : Int) := by omega
  have HKV : Hid (KV w sa n K E) := hKV
  clear hKV
  go_enter Yba.func5, Yba.ntmps5
  go_upto_region 4 with fail
  go_cut [42] (fun s wx => s = .bool true ∧ wx = w.alloc (.cells #[.map none] 67))
  case first =>
    cases nm with
    | false =>
      go_wp2_with fail
      go_meet
      exact ⟨rfl, rfl⟩
    | true =>
      have h0 : ((n : Int) == 0) = false := by have := hnm rfl; simp; omega
      go_wp2_with fail
      go_meet
      exact ⟨by simp, rfl⟩
  case rest =>
  obtain ⟨rfl, rfl⟩ := hcut
  go_upto_block 0 with fail
  go_cut [] (fun wx => Hid (St w wx (w.heap.size + 1) (fill K E n)))
  case first =>
    go_wp2_with fail
    go_loopw [46] (fun i wr => ∃ k : Nat, k ≤ n ∧ i = .int .i64 k ∧ Hid (St w wr (w.heap.size + 1) (fill K E k))) (fun i _ => n - (intOf i).toNat)
    case atStart => exact ⟨0, Nat.zero_le _, rfl, st_start w⟩
    case round =>
      obtain ⟨k, hk, rfl, HS⟩ := hrel
      by_cases hlt : k < n
      · have hlti : (k : Int) < (n : Int) := by omega
        have hk0 : (0 : Int) ≤ (k : Int) := by omega
        obtain ⟨b, off, rfl, i0, i1, i2, i3⟩ := HKV.out k hlt
        obtain ⟨d0, hb⟩ := HS.out.four i0
        have d1 := (HS.out.four i1).1
        have d2 := (HS.out.four i2).1
        have d3 := (HS.out.four i3).1
        have hm := HS.out.var
        have hbig := HS.out.big
        clear i0 i1 i2 i3
        go_wp2_with fail
        have hH : w.heap.size ≠ wr.heap.size := by omega
        obtain ⟨W2, hup, hM2, hC2, hS2, hK2⟩ := MapL.upd keysI (((HS.out.alloc (.cells #[Value.int IntKind.i32 (K k), Value.int IntKind.u32 (E k).fst, Value.int IntKind.u32 (E k).snd.fst, Value.int IntKind.u32 (E k).snd.snd] 69)).alloc (.cells #[Value.int IntKind.u32 (E k).fst, Value.int IntKind.u32 (E k).snd.fst, Value.int IntKind.u32 (E k).snd.snd] 74)).drew.map) Yba.underlying67 Yba.underlying21 (K k) (E k)
        have HU : Hid (_ = _) := hup
        have HW2 : Hid (St w W2 (w.heap.size + 1) (fill K E (k + 1))) := st_upd ((HS.out.alloc _).alloc _).drew hM2 (fun v hv => (hC2 _ v hv).1) (hK2 _ _ (Kept.of_below (Below.refl _ _)) (.inl rfl))
        have HC2 : Hid (∀ a v, _ = some v → W2.cell? a = some v) := fun a v hv => (hC2 a v hv).1
        clear hup hM2 hC2 hK2 hS2 d0 d1 d2 d3 HS
        refine wp_region_held_drew (S := fun W => W.cell? ⟨w.heap.size, 0, none⟩ = some (.map (some (w.heap.size + 1))) ∧ W.cell? ⟨wr.heap.size, 0, none⟩ = some (.int .i32 (K k)) ∧ W.cell? ⟨wr.heap.size, 1, none⟩ = some (.int .u32 (E k).1) ∧ W.cell? ⟨wr.heap.size, 2, none⟩ = some (.int .u32 (E k).2.1) ∧ W.cell? ⟨wr.heap.size, 3, none⟩ = some (.int .u32 (E k).2.2)) (by kernel_rfl) (by go_simp) (fun hHeld => ?_)
        refine wpAnyH_take (i := 0) (oi := _) (v := .map (some (w.heap.size + 1))) rfl (by kernel_rfl) (by kernel_rfl) (by kernel_rfl) (fun _ _ _ h => h) (Or.inl ⟨by rfl, fun w hS => by go_simp⟩) (by assumption) ?_
        simp only [Act.put, List.setIfInBounds_toArray, List.set_cons_zero, List.set_cons_succ]
        refine wpAnyH_take (i := 1) (oi := _) (v := .pointer (some ⟨wr.heap.size, 0, none⟩)) rfl (by kernel_rfl) (by kernel_rfl) (by kernel_rfl) (fun _ _ _ h => h) (Or.inl ⟨by rfl, fun w hS => by go_simp⟩) (by assumption) ?_
        simp only [Act.put, List.setIfInBounds_toArray, List.set_cons_zero, List.set_cons_succ]
        refine wpAnyH_take (i := 2) (oi := _) (v := .int .i32 (K k)) rfl (by kernel_rfl) (by kernel_rfl) (by kernel_rfl) (fun _ _ _ h => h) (Or.inl ⟨by rfl, fun w hS => by go_simp⟩) (by assumption) ?_
        simp only [Act.put, List.setIfInBounds_toArray, List.set_cons_zero, List.set_cons_succ]
        refine wpAnyH_take (i := 3) (oi := _) (v := .pointer (some ⟨wr.heap.size, 1, none⟩)) rfl (by kernel_rfl) (by kernel_rfl) (by kernel_rfl) (fun _ _ _ h => h) (Or.inl ⟨by rfl, fun w hS => by go_simp⟩) (by assumption) ?_
        simp only [Act.put, List.setIfInBounds_toArray, List.set_cons_zero, List.set_cons_succ]
        refine wpAnyH_take (i := 4) (oi := _) (v := .int .u32 (E k).1) rfl (by kernel_rfl) (by kernel_rfl) (by kernel_rfl) (fun _ _ _ h => h) (Or.inl ⟨by rfl, fun w hS => by go_simp⟩) (by assumption) ?_
        simp only [Act.put, List.setIfInBounds_toArray, List.set_cons_zero, List.set_cons_succ]
        refine wpAnyH_take (i := 5) (oi := _) (v := .pointer (some ⟨wr.heap.size, 2, none⟩)) rfl (by kernel_rfl) (by kernel_rfl) (by kernel_rfl) (fun _ _ _ h => h) (Or.inl ⟨by rfl, fun w hS => by go_simp⟩) (by assumption) ?_
        simp only [Act.put, List.setIfInBounds_toArray, List.set_cons_zero, List.set_cons_succ]
        refine wpAnyH_take (i := 6) (oi := _) (v := .int .u32 (E k).2.1) rfl (by kernel_rfl) (by kernel_rfl) (by kernel_rfl) (fun _ _ _ h => h) (Or.inl ⟨by rfl, fun w hS => by go_simp⟩) (by assumption) ?_
        simp only [Act.put, List.setIfInBounds_toArray, List.set_cons_zero, List.set_cons_succ]
        refine wpAnyH_take (i := 7) (oi := _) (v := .pointer (some ⟨wr.heap.size, 3, none⟩)) rfl (by kernel_rfl) (by kernel_rfl) (by kernel_rfl) (fun _ _ _ h => h) (Or.inl ⟨by rfl, fun w hS => by go_simp⟩) (by assumption) ?_
        simp only [Act.put, List.setIfInBounds_toArray, List.set_cons_zero, List.set_cons_succ]
        refine wpAnyH_take (i := 8) (oi := _) (v := .int .u32 (E k).2.2) rfl (by kernel_rfl) (by kernel_rfl) (by kernel_rfl) (fun _ _ _ h => h) (Or.inl ⟨by rfl, fun w hS => by go_simp⟩) (by assumption) ?_
        simp only [Act.put, List.setIfInBounds_toArray, List.set_cons_zero, List.set_cons_succ]
        refine wpAnyH_ready (rs := [9]) (by kernel_rfl) (by simp) ?_
        refine AllReadyH.cons (o := _) rfl (fun K' hK => ?_) AllReadyH.nil
        go_simp
        refine (ent_makes (E k).1 (E k).2.1 (E k).2.2 _).mono ?_
        rintro x w1 ⟨rfl, rfl⟩
        dsimp only
        refine hK.out _ _ (by go_simp) (fun hHeld2 => ?_)
        clear hK hHeld K'
        refine wpAnyH_ready (rs := [10]) (by kernel_rfl) (by simp) ?_
        refine AllReadyH.cons (o := _) rfl (fun K' hK => ?_) AllReadyH.nil
        have hup := HU.out
        unfold entC at hup
        go_simp
        clear hup
        refine hK.out _ _ ⟨HC2.out _ _ hHeld2.1, HC2.out _ _ hHeld2.2.1, HC2.out _ _ hHeld2.2.2.1, HC2.out _ _ hHeld2.2.2.2.1, HC2.out _ _ hHeld2.2.2.2.2⟩ (fun _ => ?_)
        clear hK hHeld2 K' HU HC2
        refine wpAnyH_done (by kernel_rfl) ?_ _
        go_wp2_with fail
        go_roundw
        case rel => exact ⟨k + 1, by omega, by go_num, HW2⟩
        case measure => simp [intOf]; omega
      · have hge : ¬ (k : Int) < (n : Int) := by omega
        obtain rfl : k = n := by omega
        go_wp2_with fail
        go_meet
        exact HS
  case rest =>
  have HS : Hid (St w wc (w.heap.size + 1) (fill K E n)) := hcut
  clear hcut hmk
  go_upto_block 2 with fail
  go_cut [16] (fun s wx => s = .int .i64 (lastAt K key n) ∧ wx = wc)
  case first =>
    go_wp2_with fail
    go_loop [16, 17] (fun l i => ∃ k : Nat, k ≤ n ∧ i = .int .i64 k ∧ l = .int .i64 (lastAt K key k)) (fun _ i => n - (intOf i).toNat)
    case atStart => exact ⟨0, Nat.zero_le _, rfl, rfl⟩
    case round =>
      obtain ⟨k, hk, rfl, rfl⟩ := hrel
      by_cases hlt : k < n
      · have hlti : (k : Int) < (n : Int) := by omega
        have hk0 : (0 : Int) ≤ (k : Int) := by omega
        obtain ⟨b, off, rfl, i0, i1, i2, i3⟩ := HKV.out k hlt
        obtain ⟨d0, hb⟩ := HS.out.four i0
        clear i0 i1 i2 i3
        by_cases hq : K k = key
        · have hqb : (K k == key) = true := by simp [hq]
          go_wp2_with fail
          go_round
          case rel => exact ⟨k + 1, by omega, by go_num, by rw [lastAt_hit hq]⟩
          case measure => simp [intOf]; omega
        · have hqb : (K k == key) = false := by simp [hq]
          go_wp2_with fail
          go_round
          case rel => exact ⟨k + 1, by omega, by go_num, by rw [lastAt_miss hq]⟩
          case measure => simp [intOf]; omega
      · have hge : ¬ (k : Int) < (n : Int) := by omega
        obtain rfl : k = n := by omega
        go_wp2_with fail
        go_meet
        exact ⟨rfl, rfl⟩
  case rest =>
  obtain ⟨rfl, rfl⟩ := hcut
  go_upto_block 4 with fail
  go_cut [18] (fun s wx => s = .int .i64 (dist K n) ∧ Hid (St w wx (w.heap.size + 1) (fill K E n)))
  case first =>
    go_wp2_with fail
    go_loopw [18, 19] (fun d i wr => ∃ k : Nat, k ≤ n ∧ i = .int .i64 k ∧ d = .int .i64 (dist K k) ∧ Hid (St w wr (w.heap.size + 1) (fill K E n))) (fun _ i _ => n - (intOf i).toNat)
    case atStart => exact ⟨0, Nat.zero_le _, rfl, rfl, HS⟩
    case round =>
      obtain ⟨k, hk, rfl, rfl, HS1⟩ := hrel
      have hdl := dist_le K k
      by_cases hlt : k < n
      · have hlti : (k : Int) < (n : Int) := by omega
        have hk0 : (0 : Int) ≤ (k : Int) := by omega
        obtain ⟨b, off, rfl, i0, i1, i2, i3⟩ := HKV.out k hlt
        clear i1 i2 i3
        go_wp2_with fail
        go_loopw [20, 21] (fun f j wr => ∃ m : Nat, m ≤ k ∧ f = .bool true ∧ j = .int .i64 m ∧ Hid (∀ t, t < m → K t ≠ K k) ∧ Hid (St w wr (w.heap.size + 1) (fill K E n))) (fun _ j _ => k - (intOf j).toNat)
        case atStart => exact ⟨0, Nat.zero_le _, rfl, rfl, fun t ht => absurd ht (Nat.not_lt_zero _), HS1⟩
        case round =>
          obtain ⟨m, hm, rfl, rfl, HT, HS2⟩ := hrel
          by_cases hlt2 : m < k
          · have hlti2 : (m : Int) < (k : Int) := by omega
            have hlti3 : (m : Int) < (n : Int) := by omega
            have hm0 : (0 : Int) ≤ (m : Int) := by omega
            obtain ⟨b', off', hq0, j0, j1, j2, j3⟩ := HKV.out m (by omega)
            simp only [Option.some.injEq, Addr.mk.injEq, and_true] at hq0
            obtain ⟨rfl, rfl⟩ := hq0
            obtain ⟨d0, hb⟩ := HS2.out.four i0
            have d1 := (HS2.out.four j0).1
            clear j0 j1 j2 j3
            by_cases hq : K m = K k
            · have hqb : (K m == K k) = true := by simp [hq]
              have hsn := seen_yes (K := K) hq hlt2
              go_wp2_with fail
              go_quiet (fail)
              go_wp2_with fail
              go_roundw
              case rel => exact ⟨k + 1, by omega, by go_num, by rw [dist_seen hsn], HS2.out.drewN _⟩
              case measure => simp [intOf]; omega
            · have hqb : (K m == K k) = false := by simp [hq]
              go_wp2_with fail
              go_quiet (fail)
              go_wp2_with fail
              go_roundw
              case rel => exact ⟨m + 1, by omega, rfl, by go_num, fun t ht => (Nat.lt_succ_iff_lt_or_eq.1 ht).elim (HT.out t) (fun e => e ▸ hq), HS2.out.drewN _⟩
              case measure => simp [intOf]; omega
          · have hge2 : ¬ (m : Int) < (k : Int) := by omega
            obtain rfl : m = k := by omega
            have hsn := seen_no HT.out
            go_wp2_with fail
            go_roundw
            case rel => exact ⟨m + 1, by omega, by go_num, by rw [dist_new hsn]; go_num, HS2⟩
            case measure => simp [intOf]; omega
      · have hge : ¬ (k : Int) < (n : Int) := by omega
        obtain rfl : k = n := by omega
        go_wp2_with fail
        go_meet
        exact ⟨rfl, HS1⟩
  case rest =>
  obtain ⟨rfl, HS1⟩ := hcut
  first
    | exact model_tailA hn HKV HS1
    | (apply_assumption; exact model_tailA hn HKV HS1)
end Go.Proofs.Ybulkcpoe
