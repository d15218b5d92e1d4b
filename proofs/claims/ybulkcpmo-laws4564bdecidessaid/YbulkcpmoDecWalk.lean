import Derived.Test.YbulkcpmoHand7
namespace Go.Proofs.Ybulkcpmo
open Go.RowKit

set_option linter.unusedSimpArgs false in
set_option maxRecDepth 100000 in
set_option maxHeartbeats 4000000 in
theorem lawDec_nil (sel hi : Int) (again : Bool) (g idle srch nowMs rMs sMs : Int) (b0 : 0 ≤ sel) (b1 : sel ≤ 255) (i0 : 0 ≤ hi)
    (h0 : -2147483648 ≤ nowMs) (h1 : nowMs ≤ 2147483647) (r0 : -2147483648 ≤ rMs) (r1 : rMs ≤ 2147483647) (t0 : -2147483648 ≤ sMs) (t1 : sMs ≤ 2147483647) (w : World) :
    Calls Yba.prog 3 #[.int .u8 sel, .int .u64 hi, .bool again, .bool false, .int .i64 g, .int .i32 idle, .int .i32 srch, .int .i32 nowMs, .int .i32 rMs, .int .i32 sMs] w fun e w' => e = .returned (.bool true) ∧ Below w.heap.size w w' := by
  obtain ⟨n, s, nr, sr, ns, ss, C0, C1, C2, D1, D2⟩ := clocks nowMs rMs sMs h0 h1 r0 r1 t0 t1
  obtain ⟨Z1, hZ1, z11, z13⟩ := built51
  obtain ⟨Z2, hZ2, s1, s5, s7⟩ := built70 w.heap.size
  obtain ⟨Z3, hZ3, m0⟩ := built81 (w.heap.size + 1)
  obtain ⟨Z4, hZ4, p1, p2, p3⟩ := built91
  have H1 : Hid (Yba.prog.built 51 [] = some Z1) := hZ1
  have H2 : Hid (Yba.prog.built 70 [(4, .pointer (some ⟨w.heap.size, 0, none⟩))] = some Z2) := hZ2
  have H3 : Hid (Yba.prog.built 81 [(0, .pointer (some ⟨w.heap.size + 1, 0, none⟩))] = some Z3) := hZ3
  have H4 : Hid (Yba.prog.built 91 [] = some Z4) := hZ4
  clear hZ1 hZ2 hZ3 hZ4
  go_enter Yba.func3, Yba.ntmps3
  go_wp2_with (refine wpList_build rfl 51 #[] rfl [] (by kernel_rfl) Z1 H1.out ?_)
  refine (storeI32 w.heap.size 11 idle (.int .i32 0) _ ?_ ?_).mono ?_
  · go_simp
  · go_simp
  rintro e w1 ⟨rfl, rfl⟩
  go_wp2_with fail
  refine (storeI32 w.heap.size 13 srch (.int .i32 0) _ ?_ ?_).mono ?_
  · go_simp
  · go_simp
  rintro e w1 ⟨rfl, rfl⟩
  go_wp2_with (first | (refine wpList_build rfl 70 #[(4, .tmp 48)] rfl [(4, .pointer (some ⟨w.heap.size, 0, none⟩))] (by kernel_rfl) Z2 H2.out ?_) | (refine wpList_build rfl 81 #[(0, .tmp 56)] rfl [(0, .pointer (some ⟨w.heap.size + 1, 0, none⟩))] (by kernel_rfl) Z3 H3.out ?_) | (refine wpList_build rfl 91 #[] rfl [] (by kernel_rfl) Z4 H4.out ?_))
  obtain ⟨hR, hsz, hB⟩ := rest_nil w Z1 Z2 Z3 Z4 idle srch g z11 z13 s1 s5 s7 m0 p1 p2 p3
  refine (C0.out _).mono ?_
  rintro e w1 ⟨rfl, hb1⟩
  have HR1 : Hid (Rest w1 (w.heap.size + 2) (w.heap.size + 1) w.heap.size (w.heap.size + 3) idle srch g none) := hR.below hb1 (Nat.le_refl _)
  have HB1 : Hid (Below w.heap.size w w1) := hB.trans (hb1.mono (by omega))
  clear hR hsz hB hb1 H1 H2 H3 H4 z11 z13 s1 s5 s7 m0 p1 p2 p3 C0
  go_wp2_with fail
  refine (C1.out _).mono ?_
  rintro e w2 ⟨rfl, hb2⟩
  have hx2 : Below w1.heap.size w1 (w1.alloc (.cells #[.int .u64 n, .int .i64 s, .pointer none] 79)) := (Below.refl _ _).alloc (Nat.le_refl _) _
  have hy2 : Below w1.heap.size w1 w2 := hx2.trans (hb2.mono hx2.size)
  have HR2 : Hid (Rest w2 (w.heap.size + 2) (w.heap.size + 1) w.heap.size (w.heap.size + 3) idle srch g none) := HR1.out.below hy2 (Nat.le_refl _)
  have HB2 : Hid (Below w.heap.size w w2) := HB1.out.trans (hy2.mono HB1.out.size)
  have N2 := (BoxAt.new w1 n s).below hb2 (Nat.le_refl _)
  have l2 : w1.heap.size < w2.heap.size := World.block_lt_of_cell? _ _ N2.c0
  obtain ⟨n0, n1, n2⟩ := N2
  clear hx2 hy2 hb2 HR1 HB1 C1
  go_wp2_with fail
  refine (C2.out _).mono ?_
  rintro e w3 ⟨rfl, hb3⟩
  have hx3 : Below w2.heap.size w2 (w2.alloc (.cells #[.int .u64 nr, .int .i64 sr, .pointer none] 79)) := (Below.refl _ _).alloc (Nat.le_refl _) _
  have hy3 : Below w2.heap.size w2 w3 := hx3.trans (hb3.mono hx3.size)
  have HR3 : Hid (Rest w3 (w.heap.size + 2) (w.heap.size + 1) w.heap.size (w.heap.size + 3) idle srch g none) := HR2.out.below hy3 (Nat.le_refl _)
  have HB3 : Hid (Below w.heap.size w w3) := HB2.out.trans (hy3.mono HB2.out.size)
  have N3 : BoxAt w3 w1.heap.size n s := (BoxAt.mk n0 n1 n2).below hy3 (Nat.le_refl _)
  have R3 := (BoxAt.new w2 nr sr).below hb3 (Nat.le_refl _)
  have l3 : w1.heap.size < w3.heap.size := World.block_lt_of_cell? _ _ N3.c0
  have l4 : w2.heap.size < w3.heap.size := World.block_lt_of_cell? _ _ R3.c0
  have l5 : w1.heap.size < w3.heap.size + 1 := by omega
  have l6 : w1.heap.size < w3.heap.size + 1 + 1 := by omega
  clear n0 n1 n2
  obtain ⟨n0, n1, n2⟩ := N3
  obtain ⟨q0, q1, q2⟩ := R3
  clear hx3 hy3 hb3 HR2 HB2 C2 l2
  go_wp2_with fail
  obtain ⟨a0, a1, a2, asz, ab⟩ := heap_alloc3 w3 (.cells #[.int .u64 ns, .int .i64 ss, .pointer none] 79) (.cells (seenV nr sr ns ss (bits .or .u64 (IntKind.u64.wrap (hi * 4)) (sel % 4)) false again) 101) (.cells (seenV nr sr ns ss (bits .or .u64 (IntKind.u64.wrap (hi * 4)) (sel % 4)) false again) 101)
  refine (wants_any (hall_of (HR3.out.below ab (Nat.le_refl _)) a1) (sel % 4) (by rw [IntKind.wrap_u64]; exact state_of hi (sel % 4) i0 (by omega) (by omega)) again n s (rMs * 1000000) (sMs * 1000000) D1.out D2.out).mono ?_
  rintro e w5 ⟨rfl, hb5⟩
  rw [less_ms, less_ms]
  have HB5 : Hid (Below w.heap.size w w5) := HB3.out.trans ((ab.trans (hb5.mono ab.size)).mono HB3.out.size)
  have HG5 : Hid (w5.cell? ⟨w.heap.size + 1, 5, none⟩ = some (.int .i64 g)) := (HR3.out.below (ab.trans (hb5.mono ab.size)) (Nat.le_refl _)).s5
  have hq5 : w5.heap[w3.heap.size + 1]? = some (.cells (seenV nr sr ns ss (bits .or .u64 (IntKind.u64.wrap (hi * 4)) (sel % 4)) false again) 101) := (hb5.block _ (by rw [asz]; omega)).trans a1
  have hp5 : w5.heap[w3.heap.size + 2]? = some (.cells (seenV nr sr ns ss (bits .or .u64 (IntKind.u64.wrap (hi * 4)) (sel % 4)) false again) 101) := (hb5.block _ (by rw [asz]; omega)).trans a2
  have HQ5 : Hid (w5.heap[w3.heap.size + 1]? = some (.cells (seenV nr sr ns ss (bits .or .u64 (IntKind.u64.wrap (hi * 4)) (sel % 4)) false again) 101)) := hq5
  have HP5 : Hid (w5.heap[w3.heap.size + 2]? = some (.cells (seenV nr sr ns ss (bits .or .u64 (IntKind.u64.wrap (hi * 4)) (sel % 4)) false again) 101)) := hp5
  clear hq5 hp5 a0 a1 a2 asz ab hb5 HR3 HB3 D1 D2 n0 n1 n2 q0 q1 q2 l3 l4 l5 l6
  go_wp2_with fail
  refine (model_any (sel % 4) again false g idle srch rMs sMs _).mono ?_
  rintro e w6 ⟨rfl, rfl⟩
  go_wp2_with fail
  refine wp_region_held_drew (S := fun W => W.rangeAt (w3.heap.size + 1) 0 (seenV nr sr ns ss (bits .or .u64 (IntKind.u64.wrap (hi * 4)) (sel % 4)) false again).toList ∧ W.rangeAt (w3.heap.size + 2) 0 (seenV nr sr ns ss (bits .or .u64 (IntKind.u64.wrap (hi * 4)) (sel % 4)) false again).toList ∧ W.cell? ⟨w.heap.size + 1, 5, none⟩ = some (.int .i64 g)) (by kernel_rfl) (s19_of HQ5.out HP5.out HG5.out) (fun hHeld => ?_)
  have HE := fun W => seen_eq' nr sr ns ss (bits .or .u64 (IntKind.u64.wrap (hi * 4)) (sel % 4)) false again W
  have HE1 : Hid (∀ W, (binOp .eql 101 (.agg (seenV nr sr ns ss (bits .or .u64 (IntKind.u64.wrap (hi * 4)) (sel % 4)) false again).toList.toArray) (.agg (seenV nr sr ns ss (bits .or .u64 (IntKind.u64.wrap (hi * 4)) (sel % 4)) false again).toList.toArray)).run Yba.prog W = .ok (.bool true) W) := HE
  clear HE
  refine takeYes (i := 0) (v := .bool (decides (sel % 4) again false g idle srch (decide (rMs < 10)) (decide (sMs < 10))).1) (some 123) rfl rfl (by kernel_rfl) (by kernel_rfl) (by kernel_rfl) (fun _ _ _ h => h) (by kernel_rfl) (fun w hS => by go_simp) (by assumption) ?_
  simp only [Act.put, List.setIfInBounds_toArray, List.set_cons_zero, List.set_cons_succ]
  refine takeYes (i := 1) (v := .bool (decides (sel % 4) again false g idle srch (decide (rMs < 10)) (decide (sMs < 10))).1) (some 124) rfl rfl (by kernel_rfl) (by kernel_rfl) (by kernel_rfl) (fun _ _ _ h => h) (by kernel_rfl) (fun w hS => by go_simp) (by assumption) ?_
  simp only [Act.put, List.setIfInBounds_toArray, List.set_cons_zero, List.set_cons_succ]
  refine takeYes (i := 2) (v := .bool true) (some 125) rfl rfl (by kernel_rfl) (by kernel_rfl) (by kernel_rfl) (fun _ _ _ h => h) (by kernel_rfl) (fun w hS => by go_simp) (by assumption) ?_
  simp only [Act.put, List.setIfInBounds_toArray, List.set_cons_zero, List.set_cons_succ]
  refine takeYes (i := 3) (v := .bool true) (some 126) rfl rfl (by kernel_rfl) (by kernel_rfl) (by kernel_rfl) (fun _ _ _ h => h) (by kernel_rfl) (fun w hS => by go_simp) (by assumption) ?_
  simp only [Act.put, List.setIfInBounds_toArray, List.set_cons_zero, List.set_cons_succ]
  refine takeYes (i := 4) (v := .bool (decides (sel % 4) again false g idle srch (decide (rMs < 10)) (decide (sMs < 10))).2) (some 127) rfl rfl (by kernel_rfl) (by kernel_rfl) (by kernel_rfl) (fun _ _ _ h => h) (by kernel_rfl) (fun w hS => by go_simp) (by assumption) ?_
  simp only [Act.put, List.setIfInBounds_toArray, List.set_cons_zero, List.set_cons_succ]
  refine takeYes (i := 5) (v := .bool (decides (sel % 4) again false g idle srch (decide (rMs < 10)) (decide (sMs < 10))).2) (some 128) rfl rfl (by kernel_rfl) (by kernel_rfl) (by kernel_rfl) (fun _ _ _ h => h) (by kernel_rfl) (fun w hS => by go_simp) (by assumption) ?_
  simp only [Act.put, List.setIfInBounds_toArray, List.set_cons_zero, List.set_cons_succ]
  refine takeYes (i := 6) (v := .bool true) (some 129) rfl rfl (by kernel_rfl) (by kernel_rfl) (by kernel_rfl) (fun _ _ _ h => h) (by kernel_rfl) (fun w hS => by go_simp) (by assumption) ?_
  simp only [Act.put, List.setIfInBounds_toArray, List.set_cons_zero, List.set_cons_succ]
  refine takeYes (i := 7) (v := .bool true) (some 130) rfl rfl (by kernel_rfl) (by kernel_rfl) (by kernel_rfl) (fun _ _ _ h => h) (by kernel_rfl) (fun w hS => by go_simp) (by assumption) ?_
  simp only [Act.put, List.setIfInBounds_toArray, List.set_cons_zero, List.set_cons_succ]
  refine takeYes (i := 8) (v := .bool true) (some 131) rfl rfl (by kernel_rfl) (by kernel_rfl) (by kernel_rfl) (fun _ _ _ h => h) (by kernel_rfl) (fun w hS => by go_simp) (by assumption) ?_
  simp only [Act.put, List.setIfInBounds_toArray, List.set_cons_zero, List.set_cons_succ]
  refine takeYes (i := 9) (v := .pointer (some ⟨w3.heap.size + 1, 0, none⟩)) (some 132) rfl rfl (by kernel_rfl) (by kernel_rfl) (by kernel_rfl) (fun _ _ _ h => h) (by kernel_rfl) (fun w hS => by go_simp) (by assumption) ?_
  simp only [Act.put, List.setIfInBounds_toArray, List.set_cons_zero, List.set_cons_succ]
  refine takeYes (i := 10) (v := .pointer (some ⟨w3.heap.size + 1, 0, none⟩)) (some 133) rfl rfl (by kernel_rfl) (by kernel_rfl) (by kernel_rfl) (fun _ _ _ h => h) (by kernel_rfl) (fun w hS => by go_simp) (by assumption) ?_
  simp only [Act.put, List.setIfInBounds_toArray, List.set_cons_zero, List.set_cons_succ]
  refine takeBy (i := 11) (v := .agg (seenV nr sr ns ss (bits .or .u64 (IntKind.u64.wrap (hi * 4)) (sel % 4)) false again).toList.toArray) (some 134) rfl rfl (by kernel_rfl) (by kernel_rfl) (by kernel_rfl) (fun _ _ _ h => h) (yieldsIf_load_mid (by kernel_rfl) 101 (.tmp 133) rfl (w3.heap.size + 1) 0 rfl (seenV nr sr ns ss (bits .or .u64 (IntKind.u64.wrap (hi * 4)) (sel % 4)) false again).toList _ (fun _ h => h.1) Yba.underlying101 rfl (info101' nr sr ns ss (bits .or .u64 (IntKind.u64.wrap (hi * 4)) (sel % 4)) false again)) (by assumption) ?_
  simp only [Act.put, List.setIfInBounds_toArray, List.set_cons_zero, List.set_cons_succ]
  refine takeBy (i := 12) (v := .agg (seenV nr sr ns ss (bits .or .u64 (IntKind.u64.wrap (hi * 4)) (sel % 4)) false again).toList.toArray) (some 135) rfl rfl (by kernel_rfl) (by kernel_rfl) (by kernel_rfl) (fun _ _ _ h => h) (yieldsIf_load_mid (by kernel_rfl) 101 (.tmp 31) rfl (w3.heap.size + 2) 0 rfl (seenV nr sr ns ss (bits .or .u64 (IntKind.u64.wrap (hi * 4)) (sel % 4)) false again).toList _ (fun _ h => h.2.1) Yba.underlying101 rfl (info101' nr sr ns ss (bits .or .u64 (IntKind.u64.wrap (hi * 4)) (sel % 4)) false again)) (by assumption) ?_
  simp only [Act.put, List.setIfInBounds_toArray, List.set_cons_zero, List.set_cons_succ]
  refine takeYes (i := 13) (v := .bool true) (some 136) rfl rfl (by kernel_rfl) (by kernel_rfl) (by kernel_rfl) (fun _ _ _ h => h) (by kernel_rfl) (fun w hS => by clear hHeld hS; exact exec_eql (x := .tmp 134) (y := .tmp 135) rfl rfl rfl HE1.out w) (by assumption) ?_
  simp only [Act.put, List.setIfInBounds_toArray, List.set_cons_zero, List.set_cons_succ]
  refine takeYes (i := 14) (v := .bool true) (some 137) rfl rfl (by kernel_rfl) (by kernel_rfl) (by kernel_rfl) (fun _ _ _ h => h) (by kernel_rfl) (fun w hS => by go_simp) (by assumption) ?_
  simp only [Act.put, List.setIfInBounds_toArray, List.set_cons_zero, List.set_cons_succ]
  refine takeYes (i := 15) (v := .bool true) (some 138) rfl rfl (by kernel_rfl) (by kernel_rfl) (by kernel_rfl) (fun _ _ _ h => h) (by kernel_rfl) (fun w hS => by go_simp) (by assumption) ?_
  simp only [Act.put, List.setIfInBounds_toArray, List.set_cons_zero, List.set_cons_succ]
  refine takeYes (i := 16) (v := .pointer (some ⟨w.heap.size + 1, 0, none⟩)) (some 139) rfl rfl (by kernel_rfl) (by kernel_rfl) (by kernel_rfl) (fun _ _ _ h => h) (by kernel_rfl) (fun w hS => by go_simp) (by assumption) ?_
  simp only [Act.put, List.setIfInBounds_toArray, List.set_cons_zero, List.set_cons_succ]
  refine takeYes (i := 17) (v := .pointer (some ⟨w.heap.size + 1, 0, none⟩)) (some 140) rfl rfl (by kernel_rfl) (by kernel_rfl) (by kernel_rfl) (fun _ _ _ h => h) (by kernel_rfl) (fun w hS => by go_simp) (by assumption) ?_
  simp only [Act.put, List.setIfInBounds_toArray, List.set_cons_zero, List.set_cons_succ]
  refine takeYes (i := 18) (v := .pointer (some ⟨w.heap.size + 1, 3, none⟩)) (some 141) rfl rfl (by kernel_rfl) (by kernel_rfl) (by kernel_rfl) (fun _ _ _ h => h) (by kernel_rfl) (fun w hS => by go_simp) (by assumption) ?_
  simp only [Act.put, List.setIfInBounds_toArray, List.set_cons_zero, List.set_cons_succ]
  refine takeYes (i := 19) (v := .pointer (some ⟨w.heap.size + 1, 5, none⟩)) (some 142) rfl rfl (by kernel_rfl) (by kernel_rfl) (by kernel_rfl) (fun _ _ _ h => h) (by kernel_rfl) (fun w hS => by go_simp) (by assumption) ?_
  simp only [Act.put, List.setIfInBounds_toArray, List.set_cons_zero, List.set_cons_succ]
  refine takeYes (i := 20) (v := .int .i64 g) (some 143) rfl rfl (by kernel_rfl) (by kernel_rfl) (by kernel_rfl) (fun _ _ _ h => h) (by kernel_rfl) (fun w hS => by go_simp) (by assumption) ?_
  simp only [Act.put, List.setIfInBounds_toArray, List.set_cons_zero, List.set_cons_succ]
  refine takeYes (i := 21) (v := .int .i64 g) (some 144) rfl rfl (by kernel_rfl) (by kernel_rfl) (by kernel_rfl) (fun _ _ _ h => h) (by kernel_rfl) (fun w hS => by go_simp) (by assumption) ?_
  simp only [Act.put, List.setIfInBounds_toArray, List.set_cons_zero, List.set_cons_succ]
  refine takeYes (i := 22) (v := .bool true) (some 145) rfl rfl (by kernel_rfl) (by kernel_rfl) (by kernel_rfl) (fun _ _ _ h => h) (by kernel_rfl) (fun w hS => by go_simp) (by assumption) ?_
  simp only [Act.put, List.setIfInBounds_toArray, List.set_cons_zero, List.set_cons_succ]
  refine takeYes (i := 23) (v := .bool true) (some 146) rfl rfl (by kernel_rfl) (by kernel_rfl) (by kernel_rfl) (fun _ _ _ h => h) (by kernel_rfl) (fun w hS => by go_simp) (by assumption) ?_
  simp only [Act.put, List.setIfInBounds_toArray, List.set_cons_zero, List.set_cons_succ]
  refine takeYes (i := 24) (v := .bool true) (some 20) rfl rfl (by kernel_rfl) (by kernel_rfl) (by kernel_rfl) (fun _ _ _ h => h) (by kernel_rfl) (fun w hS => by go_simp) (by assumption) ?_
  simp only [Act.put, List.setIfInBounds_toArray, List.set_cons_zero, List.set_cons_succ]
  refine wpAnyH_done (by kernel_rfl) ?_ _
  clear hHeld HE1 HQ5 HP5 HG5
  go_wp2
  go_ret
  exact ⟨rfl, HB5.out.drew⟩

set_option linter.unusedSimpArgs false in
set_option maxRecDepth 100000 in
set_option maxHeartbeats 4000000 in
theorem lawDec_task (sel hi : Int) (again : Bool) (g idle srch nowMs rMs sMs : Int) (b0 : 0 ≤ sel) (b1 : sel ≤ 255) (i0 : 0 ≤ hi)
    (h0 : -2147483648 ≤ nowMs) (h1 : nowMs ≤ 2147483647) (r0 : -2147483648 ≤ rMs) (r1 : rMs ≤ 2147483647) (t0 : -2147483648 ≤ sMs) (t1 : sMs ≤ 2147483647) (w : World) :
    Calls Yba.prog 3 #[.int .u8 sel, .int .u64 hi, .bool again, .bool true, .int .i64 g, .int .i32 idle, .int .i32 srch, .int .i32 nowMs, .int .i32 rMs, .int .i32 sMs] w fun e w' => e = .returned (.bool true) ∧ Below w.heap.size w w' := by
  obtain ⟨n, s, nr, sr, ns, ss, C0, C1, C2, D1, D2⟩ := clocks nowMs rMs sMs h0 h1 r0 r1 t0 t1
  obtain ⟨Z1, hZ1, z11, z13⟩ := built51
  obtain ⟨Z2, hZ2, s1, s5, s7⟩ := built70 w.heap.size
  obtain ⟨Z3, hZ3, m0⟩ := built81 (w.heap.size + 1)
  obtain ⟨Z4, hZ4, p1, p2, p3⟩ := built91
  have H1 : Hid (Yba.prog.built 51 [] = some Z1) := hZ1
  have H2 : Hid (Yba.prog.built 70 [(4, .pointer (some ⟨w.heap.size, 0, none⟩))] = some Z2) := hZ2
  have H3 : Hid (Yba.prog.built 81 [(0, .pointer (some ⟨w.heap.size + 1, 0, none⟩))] = some Z3) := hZ3
  have H4 : Hid (Yba.prog.built 91 [] = some Z4) := hZ4
  clear hZ1 hZ2 hZ3 hZ4
  go_enter Yba.func3, Yba.ntmps3
  go_wp2_with (refine wpList_build rfl 51 #[] rfl [] (by kernel_rfl) Z1 H1.out ?_)
  refine (storeI32 w.heap.size 11 idle (.int .i32 0) _ ?_ ?_).mono ?_
  · go_simp
  · go_simp
  rintro e w1 ⟨rfl, rfl⟩
  go_wp2_with fail
  refine (storeI32 w.heap.size 13 srch (.int .i32 0) _ ?_ ?_).mono ?_
  · go_simp
  · go_simp
  rintro e w1 ⟨rfl, rfl⟩
  go_wp2_with (first | (refine wpList_build rfl 70 #[(4, .tmp 48)] rfl [(4, .pointer (some ⟨w.heap.size, 0, none⟩))] (by kernel_rfl) Z2 H2.out ?_) | (refine wpList_build rfl 81 #[(0, .tmp 56)] rfl [(0, .pointer (some ⟨w.heap.size + 1, 0, none⟩))] (by kernel_rfl) Z3 H3.out ?_) | (refine wpList_build rfl 91 #[] rfl [] (by kernel_rfl) Z4 H4.out ?_))
  obtain ⟨hR, hsz, hB⟩ := rest_nil w Z1 Z2 Z3 Z4 idle srch g z11 z13 s1 s5 s7 m0 p1 p2 p3
  refine (storeNext (w.heap.size + 3) 1 (w.heap.size + 4) .nilFunc (.pointer none) _ ?_ ?_ ?_).mono ?_
  · exact (hR.below ((Below.refl _ _).alloc (Nat.le_refl _) _) (Nat.le_refl _)).p1
  · go_simp
  · go_simp
  rintro e w0 ⟨rfl, hw0⟩
  have hR0 : Rest w0 (w.heap.size + 2) (w.heap.size + 1) w.heap.size (w.heap.size + 3) idle srch g (some ⟨w.heap.size + 4, 0, none⟩) := by
    rw [hw0]
    have := hR.fill #[.nilFunc, .pointer none, .int .u64 0, .pointer none, .pointer none, .pointer none] rfl (by omega) (by omega) (by omega)
    rw [hsz] at this
    exact this
  have hB0 : Below w.heap.size w w0 := by
    rw [hw0]
    exact (hB.alloc (by omega) _).setCell (by show w.heap.size ≤ w.heap.size + 3; omega) _
  have HR0 : Hid (Rest w0 (w.heap.size + 2) (w.heap.size + 1) w.heap.size (w.heap.size + 3) idle srch g (some ⟨w.heap.size + 4, 0, none⟩)) := hR0
  have HB0 : Hid (Below w.heap.size w w0) := hB0
  clear hR hsz hB hw0 hR0 hB0 H1 H2 H3 H4 z11 z13 s1 s5 s7 m0 p1 p2 p3
  go_wp2_with fail
  refine (C0.out _).mono ?_
  rintro e w1 ⟨rfl, hb1⟩
  have HR1 : Hid (Rest w1 (w.heap.size + 2) (w.heap.size + 1) w.heap.size (w.heap.size + 3) idle srch g (some ⟨w.heap.size + 4, 0, none⟩)) := HR0.out.below hb1 (Nat.le_refl _)
  have HB1 : Hid (Below w.heap.size w w1) := HB0.out.trans (hb1.mono HB0.out.size)
  clear HR0 HB0 hb1 C0
  go_wp2_with fail
  refine (C1.out _).mono ?_
  rintro e w2 ⟨rfl, hb2⟩
  have hx2 : Below w1.heap.size w1 (w1.alloc (.cells #[.int .u64 n, .int .i64 s, .pointer none] 79)) := (Below.refl _ _).alloc (Nat.le_refl _) _
  have hy2 : Below w1.heap.size w1 w2 := hx2.trans (hb2.mono hx2.size)
  have HR2 : Hid (Rest w2 (w.heap.size + 2) (w.heap.size + 1) w.heap.size (w.heap.size + 3) idle srch g (some ⟨w.heap.size + 4, 0, none⟩)) := HR1.out.below hy2 (Nat.le_refl _)
  have HB2 : Hid (Below w.heap.size w w2) := HB1.out.trans (hy2.mono HB1.out.size)
  have N2 := (BoxAt.new w1 n s).below hb2 (Nat.le_refl _)
  have l2 : w1.heap.size < w2.heap.size := World.block_lt_of_cell? _ _ N2.c0
  obtain ⟨n0, n1, n2⟩ := N2
  clear hx2 hy2 hb2 HR1 HB1 C1
  go_wp2_with fail
  refine (C2.out _).mono ?_
  rintro e w3 ⟨rfl, hb3⟩
  have hx3 : Below w2.heap.size w2 (w2.alloc (.cells #[.int .u64 nr, .int .i64 sr, .pointer none] 79)) := (Below.refl _ _).alloc (Nat.le_refl _) _
  have hy3 : Below w2.heap.size w2 w3 := hx3.trans (hb3.mono hx3.size)
  have HR3 : Hid (Rest w3 (w.heap.size + 2) (w.heap.size + 1) w.heap.size (w.heap.size + 3) idle srch g (some ⟨w.heap.size + 4, 0, none⟩)) := HR2.out.below hy3 (Nat.le_refl _)
  have HB3 : Hid (Below w.heap.size w w3) := HB2.out.trans (hy3.mono HB2.out.size)
  have N3 : BoxAt w3 w1.heap.size n s := (BoxAt.mk n0 n1 n2).below hy3 (Nat.le_refl _)
  have R3 := (BoxAt.new w2 nr sr).below hb3 (Nat.le_refl _)
  have l3 : w1.heap.size < w3.heap.size := World.block_lt_of_cell? _ _ N3.c0
  have l4 : w2.heap.size < w3.heap.size := World.block_lt_of_cell? _ _ R3.c0
  have l5 : w1.heap.size < w3.heap.size + 1 := by omega
  have l6 : w1.heap.size < w3.heap.size + 1 + 1 := by omega
  clear n0 n1 n2
  obtain ⟨n0, n1, n2⟩ := N3
  obtain ⟨q0, q1, q2⟩ := R3
  clear hx3 hy3 hb3 HR2 HB2 C2 l2
  go_wp2_with fail
  obtain ⟨a0, a1, a2, asz, ab⟩ := heap_alloc3 w3 (.cells #[.int .u64 ns, .int .i64 ss, .pointer none] 79) (.cells (seenV nr sr ns ss (bits .or .u64 (IntKind.u64.wrap (hi * 4)) (sel % 4)) true again) 101) (.cells (seenV nr sr ns ss (bits .or .u64 (IntKind.u64.wrap (hi * 4)) (sel % 4)) true again) 101)
  refine (wants_any (hall_of (HR3.out.below ab (Nat.le_refl _)) a1) (sel % 4) (by rw [IntKind.wrap_u64]; exact state_of hi (sel % 4) i0 (by omega) (by omega)) again n s (rMs * 1000000) (sMs * 1000000) D1.out D2.out).mono ?_
  rintro e w5 ⟨rfl, hb5⟩
  rw [less_ms, less_ms]
  have HB5 : Hid (Below w.heap.size w w5) := HB3.out.trans ((ab.trans (hb5.mono ab.size)).mono HB3.out.size)
  have HG5 : Hid (w5.cell? ⟨w.heap.size + 1, 5, none⟩ = some (.int .i64 g)) := (HR3.out.below (ab.trans (hb5.mono ab.size)) (Nat.le_refl _)).s5
  have hq5 : w5.heap[w3.heap.size + 1]? = some (.cells (seenV nr sr ns ss (bits .or .u64 (IntKind.u64.wrap (hi * 4)) (sel % 4)) true again) 101) := (hb5.block _ (by rw [asz]; omega)).trans a1
  have hp5 : w5.heap[w3.heap.size + 2]? = some (.cells (seenV nr sr ns ss (bits .or .u64 (IntKind.u64.wrap (hi * 4)) (sel % 4)) true again) 101) := (hb5.block _ (by rw [asz]; omega)).trans a2
  have HQ5 : Hid (w5.heap[w3.heap.size + 1]? = some (.cells (seenV nr sr ns ss (bits .or .u64 (IntKind.u64.wrap (hi * 4)) (sel % 4)) true again) 101)) := hq5
  have HP5 : Hid (w5.heap[w3.heap.size + 2]? = some (.cells (seenV nr sr ns ss (bits .or .u64 (IntKind.u64.wrap (hi * 4)) (sel % 4)) true again) 101)) := hp5
  clear hq5 hp5 a0 a1 a2 asz ab hb5 HR3 HB3 D1 D2 n0 n1 n2 q0 q1 q2 l3 l4 l5 l6
  go_wp2_with fail
  refine (model_any (sel % 4) again true g idle srch rMs sMs _).mono ?_
  rintro e w6 ⟨rfl, rfl⟩
  go_wp2_with fail
  refine wp_region_held_drew (S := fun W => W.rangeAt (w3.heap.size + 1) 0 (seenV nr sr ns ss (bits .or .u64 (IntKind.u64.wrap (hi * 4)) (sel % 4)) true again).toList ∧ W.rangeAt (w3.heap.size + 2) 0 (seenV nr sr ns ss (bits .or .u64 (IntKind.u64.wrap (hi * 4)) (sel % 4)) true again).toList ∧ W.cell? ⟨w.heap.size + 1, 5, none⟩ = some (.int .i64 g)) (by kernel_rfl) (s19_of HQ5.out HP5.out HG5.out) (fun hHeld => ?_)
  have HE := fun W => seen_eq' nr sr ns ss (bits .or .u64 (IntKind.u64.wrap (hi * 4)) (sel % 4)) true again W
  have HE1 : Hid (∀ W, (binOp .eql 101 (.agg (seenV nr sr ns ss (bits .or .u64 (IntKind.u64.wrap (hi * 4)) (sel % 4)) true again).toList.toArray) (.agg (seenV nr sr ns ss (bits .or .u64 (IntKind.u64.wrap (hi * 4)) (sel % 4)) true again).toList.toArray)).run Yba.prog W = .ok (.bool true) W) := HE
  clear HE
  refine takeYes (i := 0) (v := .bool (decides (sel % 4) again true g idle srch (decide (rMs < 10)) (decide (sMs < 10))).1) (some 123) rfl rfl (by kernel_rfl) (by kernel_rfl) (by kernel_rfl) (fun _ _ _ h => h) (by kernel_rfl) (fun w hS => by go_simp) (by assumption) ?_
  simp only [Act.put, List.setIfInBounds_toArray, List.set_cons_zero, List.set_cons_succ]
  refine takeYes (i := 1) (v := .bool (decides (sel % 4) again true g idle srch (decide (rMs < 10)) (decide (sMs < 10))).1) (some 124) rfl rfl (by kernel_rfl) (by kernel_rfl) (by kernel_rfl) (fun _ _ _ h => h) (by kernel_rfl) (fun w hS => by go_simp) (by assumption) ?_
  simp only [Act.put, List.setIfInBounds_toArray, List.set_cons_zero, List.set_cons_succ]
  refine takeYes (i := 2) (v := .bool true) (some 125) rfl rfl (by kernel_rfl) (by kernel_rfl) (by kernel_rfl) (fun _ _ _ h => h) (by kernel_rfl) (fun w hS => by go_simp) (by assumption) ?_
  simp only [Act.put, List.setIfInBounds_toArray, List.set_cons_zero, List.set_cons_succ]
  refine takeYes (i := 3) (v := .bool true) (some 126) rfl rfl (by kernel_rfl) (by kernel_rfl) (by kernel_rfl) (fun _ _ _ h => h) (by kernel_rfl) (fun w hS => by go_simp) (by assumption) ?_
  simp only [Act.put, List.setIfInBounds_toArray, List.set_cons_zero, List.set_cons_succ]
  refine takeYes (i := 4) (v := .bool (decides (sel % 4) again true g idle srch (decide (rMs < 10)) (decide (sMs < 10))).2) (some 127) rfl rfl (by kernel_rfl) (by kernel_rfl) (by kernel_rfl) (fun _ _ _ h => h) (by kernel_rfl) (fun w hS => by go_simp) (by assumption) ?_
  simp only [Act.put, List.setIfInBounds_toArray, List.set_cons_zero, List.set_cons_succ]
  refine takeYes (i := 5) (v := .bool (decides (sel % 4) again true g idle srch (decide (rMs < 10)) (decide (sMs < 10))).2) (some 128) rfl rfl (by kernel_rfl) (by kernel_rfl) (by kernel_rfl) (fun _ _ _ h => h) (by kernel_rfl) (fun w hS => by go_simp) (by assumption) ?_
  simp only [Act.put, List.setIfInBounds_toArray, List.set_cons_zero, List.set_cons_succ]
  refine takeYes (i := 6) (v := .bool true) (some 129) rfl rfl (by kernel_rfl) (by kernel_rfl) (by kernel_rfl) (fun _ _ _ h => h) (by kernel_rfl) (fun w hS => by go_simp) (by assumption) ?_
  simp only [Act.put, List.setIfInBounds_toArray, List.set_cons_zero, List.set_cons_succ]
  refine takeYes (i := 7) (v := .bool true) (some 130) rfl rfl (by kernel_rfl) (by kernel_rfl) (by kernel_rfl) (fun _ _ _ h => h) (by kernel_rfl) (fun w hS => by go_simp) (by assumption) ?_
  simp only [Act.put, List.setIfInBounds_toArray, List.set_cons_zero, List.set_cons_succ]
  refine takeYes (i := 8) (v := .bool true) (some 131) rfl rfl (by kernel_rfl) (by kernel_rfl) (by kernel_rfl) (fun _ _ _ h => h) (by kernel_rfl) (fun w hS => by go_simp) (by assumption) ?_
  simp only [Act.put, List.setIfInBounds_toArray, List.set_cons_zero, List.set_cons_succ]
  refine takeYes (i := 9) (v := .pointer (some ⟨w3.heap.size + 1, 0, none⟩)) (some 132) rfl rfl (by kernel_rfl) (by kernel_rfl) (by kernel_rfl) (fun _ _ _ h => h) (by kernel_rfl) (fun w hS => by go_simp) (by assumption) ?_
  simp only [Act.put, List.setIfInBounds_toArray, List.set_cons_zero, List.set_cons_succ]
  refine takeYes (i := 10) (v := .pointer (some ⟨w3.heap.size + 1, 0, none⟩)) (some 133) rfl rfl (by kernel_rfl) (by kernel_rfl) (by kernel_rfl) (fun _ _ _ h => h) (by kernel_rfl) (fun w hS => by go_simp) (by assumption) ?_
  simp only [Act.put, List.setIfInBounds_toArray, List.set_cons_zero, List.set_cons_succ]
  refine takeBy (i := 11) (v := .agg (seenV nr sr ns ss (bits .or .u64 (IntKind.u64.wrap (hi * 4)) (sel % 4)) true again).toList.toArray) (some 134) rfl rfl (by kernel_rfl) (by kernel_rfl) (by kernel_rfl) (fun _ _ _ h => h) (yieldsIf_load_mid (by kernel_rfl) 101 (.tmp 133) rfl (w3.heap.size + 1) 0 rfl (seenV nr sr ns ss (bits .or .u64 (IntKind.u64.wrap (hi * 4)) (sel % 4)) true again).toList _ (fun _ h => h.1) Yba.underlying101 rfl (info101' nr sr ns ss (bits .or .u64 (IntKind.u64.wrap (hi * 4)) (sel % 4)) true again)) (by assumption) ?_
  simp only [Act.put, List.setIfInBounds_toArray, List.set_cons_zero, List.set_cons_succ]
  refine takeBy (i := 12) (v := .agg (seenV nr sr ns ss (bits .or .u64 (IntKind.u64.wrap (hi * 4)) (sel % 4)) true again).toList.toArray) (some 135) rfl rfl (by kernel_rfl) (by kernel_rfl) (by kernel_rfl) (fun _ _ _ h => h) (yieldsIf_load_mid (by kernel_rfl) 101 (.tmp 31) rfl (w3.heap.size + 2) 0 rfl (seenV nr sr ns ss (bits .or .u64 (IntKind.u64.wrap (hi * 4)) (sel % 4)) true again).toList _ (fun _ h => h.2.1) Yba.underlying101 rfl (info101' nr sr ns ss (bits .or .u64 (IntKind.u64.wrap (hi * 4)) (sel % 4)) true again)) (by assumption) ?_
  simp only [Act.put, List.setIfInBounds_toArray, List.set_cons_zero, List.set_cons_succ]
  refine takeYes (i := 13) (v := .bool true) (some 136) rfl rfl (by kernel_rfl) (by kernel_rfl) (by kernel_rfl) (fun _ _ _ h => h) (by kernel_rfl) (fun w hS => by clear hHeld hS; exact exec_eql (x := .tmp 134) (y := .tmp 135) rfl rfl rfl HE1.out w) (by assumption) ?_
  simp only [Act.put, List.setIfInBounds_toArray, List.set_cons_zero, List.set_cons_succ]
  refine takeYes (i := 14) (v := .bool true) (some 137) rfl rfl (by kernel_rfl) (by kernel_rfl) (by kernel_rfl) (fun _ _ _ h => h) (by kernel_rfl) (fun w hS => by go_simp) (by assumption) ?_
  simp only [Act.put, List.setIfInBounds_toArray, List.set_cons_zero, List.set_cons_succ]
  refine takeYes (i := 15) (v := .bool true) (some 138) rfl rfl (by kernel_rfl) (by kernel_rfl) (by kernel_rfl) (fun _ _ _ h => h) (by kernel_rfl) (fun w hS => by go_simp) (by assumption) ?_
  simp only [Act.put, List.setIfInBounds_toArray, List.set_cons_zero, List.set_cons_succ]
  refine takeYes (i := 16) (v := .pointer (some ⟨w.heap.size + 1, 0, none⟩)) (some 139) rfl rfl (by kernel_rfl) (by kernel_rfl) (by kernel_rfl) (fun _ _ _ h => h) (by kernel_rfl) (fun w hS => by go_simp) (by assumption) ?_
  simp only [Act.put, List.setIfInBounds_toArray, List.set_cons_zero, List.set_cons_succ]
  refine takeYes (i := 17) (v := .pointer (some ⟨w.heap.size + 1, 0, none⟩)) (some 140) rfl rfl (by kernel_rfl) (by kernel_rfl) (by kernel_rfl) (fun _ _ _ h => h) (by kernel_rfl) (fun w hS => by go_simp) (by assumption) ?_
  simp only [Act.put, List.setIfInBounds_toArray, List.set_cons_zero, List.set_cons_succ]
  refine takeYes (i := 18) (v := .pointer (some ⟨w.heap.size + 1, 3, none⟩)) (some 141) rfl rfl (by kernel_rfl) (by kernel_rfl) (by kernel_rfl) (fun _ _ _ h => h) (by kernel_rfl) (fun w hS => by go_simp) (by assumption) ?_
  simp only [Act.put, List.setIfInBounds_toArray, List.set_cons_zero, List.set_cons_succ]
  refine takeYes (i := 19) (v := .pointer (some ⟨w.heap.size + 1, 5, none⟩)) (some 142) rfl rfl (by kernel_rfl) (by kernel_rfl) (by kernel_rfl) (fun _ _ _ h => h) (by kernel_rfl) (fun w hS => by go_simp) (by assumption) ?_
  simp only [Act.put, List.setIfInBounds_toArray, List.set_cons_zero, List.set_cons_succ]
  refine takeYes (i := 20) (v := .int .i64 g) (some 143) rfl rfl (by kernel_rfl) (by kernel_rfl) (by kernel_rfl) (fun _ _ _ h => h) (by kernel_rfl) (fun w hS => by go_simp) (by assumption) ?_
  simp only [Act.put, List.setIfInBounds_toArray, List.set_cons_zero, List.set_cons_succ]
  refine takeYes (i := 21) (v := .int .i64 g) (some 144) rfl rfl (by kernel_rfl) (by kernel_rfl) (by kernel_rfl) (fun _ _ _ h => h) (by kernel_rfl) (fun w hS => by go_simp) (by assumption) ?_
  simp only [Act.put, List.setIfInBounds_toArray, List.set_cons_zero, List.set_cons_succ]
  refine takeYes (i := 22) (v := .bool true) (some 145) rfl rfl (by kernel_rfl) (by kernel_rfl) (by kernel_rfl) (fun _ _ _ h => h) (by kernel_rfl) (fun w hS => by go_simp) (by assumption) ?_
  simp only [Act.put, List.setIfInBounds_toArray, List.set_cons_zero, List.set_cons_succ]
  refine takeYes (i := 23) (v := .bool true) (some 146) rfl rfl (by kernel_rfl) (by kernel_rfl) (by kernel_rfl) (fun _ _ _ h => h) (by kernel_rfl) (fun w hS => by go_simp) (by assumption) ?_
  simp only [Act.put, List.setIfInBounds_toArray, List.set_cons_zero, List.set_cons_succ]
  refine takeYes (i := 24) (v := .bool true) (some 20) rfl rfl (by kernel_rfl) (by kernel_rfl) (by kernel_rfl) (fun _ _ _ h => h) (by kernel_rfl) (fun w hS => by go_simp) (by assumption) ?_
  simp only [Act.put, List.setIfInBounds_toArray, List.set_cons_zero, List.set_cons_succ]
  refine wpAnyH_done (by kernel_rfl) ?_ _
  clear hHeld HE1 HQ5 HP5 HG5
  go_wp2
  go_ret
  exact ⟨rfl, HB5.out.drew⟩

end Go.Proofs.Ybulkcpmo
