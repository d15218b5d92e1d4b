import Derived.Test.YbulkcpoeMod0
namespace Go.Proofs.Ybulkcpoe
open Go.RowKit Go.MapKept

set_option linter.unusedSimpArgs false in
set_option maxRecDepth 100000 in
set_option maxHeartbeats 40000000 in
/-- From 'if len(m) != want' to the end. -/
theorem model_tailB {sa : Option Addr} {n cap : Nat} {K : Nat → Int} {E : Nat → Ent} {key : Int} {e : Ent} {nm : Bool} {w wc : World} {H : Nat} {x6 x7 x8 x9 x10 x11 x12 x14 x15 x16 x17 x18 x19 x20 x21 x23 x24 x26 x27 x28 x29 x30 x31 x32 x33 x34 x35 x36 x37 x38 x39 x40 x41 x42 x43 x44 x45 x46 x47 x48 x49 x50 x51 x52 x53 x54 x55 x56 x57 x58 x59 x60 x61 x62 x63 x64 x65 x66 x67 x68 x69 x70 x71 x72 x73 x74 x75 x76 x77 x78 x79 x80 x81 x82 x83 x84 x85 x86 x87 x88 x89 x90 x91 x92 x93 x94 x95 x96 x97 x98 x99 x100 x101 x102 x103 x104 x105 x106 x107 x108 x109 x110 x111 x112 x113 x114 x115 x116 x117 x118 x119 x120 x121 x122 x123 x124 x125 x126 x127 x128 x129 x130 x131 x132 x133 x134 x135 x136 x137 x138 x139 x140 x141 x142 x143 x144 x145 x146 x147 x148 x149 x150 x151 x152 x153 x154 x155 x156 x157 x158 x159 x160 x161 x162 x163 x164 x165 x166 x167 x168 x169 x170 x171 x172 x173 x174 x175 x176 x177 x178 x179 x180 x181 x182 x183 x184 x185 x186 x187 x188 x189 x190 x191 x192 x193 x194 x195 x196 x197 x198 x199 x200 x201 x202 x203 x204 x205 x206 x207 x208 x209 x210 x211 x212 x213 x214 x215 x216 x217 x218 x219 x220 x221 x222 x223 x224 x225 x226 x227 x228 : Value} (hn : n ≤ 1024) (HKV : Hid (KV w sa n K E))
    (HS3 : Hid (St w wc (w.heap.size + 1) (put (fill K E n) key e))) (HE3 : Hid (Ec wc H e)) :
    Code.wp Yba.prog (dropSeq 15 (Yba.f5.body.getD .skip)) (bodyPost Yba.prog Yba.f5 fun x w' => x = .returned (.bool true) ∧ Below w.heap.size w w') ⟨#[.slice sa n cap, .int .i32 key, .int .u32 e.1, .int .u32 e.2.1, .int .u32 e.2.2, .bool nm, x6, x7, x8, x9, x10, x11, x12, .pointer (some ⟨w.heap.size, 0, none⟩), x14, x15, x16, x17, x18, x19, x20, x21, .pointer (some ⟨H, 0, none⟩), x23, x24, .int .i64 ((put (fill K E n) key e).length : Int), x26, x27, x28, x29, x30, x31, x32, x33, x34, x35, x36, x37, x38, x39, x40, x41, x42, x43, x44, x45, x46, x47, x48, x49, x50, x51, x52, x53, x54, x55, x56, x57, x58, x59, x60, x61, x62, x63, x64, x65, x66, x67, x68, x69, x70, x71, x72, x73, x74, x75, x76, x77, x78, x79, x80, x81, x82, x83, x84, x85, x86, x87, x88, x89, x90, x91, x92, x93, x94, x95, x96, x97, x98, x99, x100, x101, x102, x103, x104, x105, x106, x107, x108, x109, x110, x111, x112, x113, x114, x115, x116, x117, x118, x119, x120, x121, x122, x123, x124, x125, x126, x127, x128, x129, x130, x131, x132, x133, x134, x135, x136, x137, x138, x139, x140, x141, x142, x143, x144, x145, x146, x147, x148, x149, x150, x151, x152, x153, x154, x155, x156, x157, x158, x159, x160, x161, x162, x163, x164, x165, x166, x167, x168, x169, x170, x171, x172, x173, x174, x175, x176, x177, x178, x179, x180, x181, x182, x183, x184, x185, x186, x187, x188, x189, x190, x191, x192, x193, x194, x195, x196, x197, x198, x199, x200, x201, x202, x203, x204, x205, x206, x207, x208, x209, x210, x211, x212, x213, x214, x215, x216, x217, x218, x219, x220, x221, x222, x223, x224, x225, x226, x227, x228], []⟩ wc := by
  conv => arg 2; whnf
  have hlen : ∀ ty, (Builtin.len_ #[67] ty #[.map (some (w.heap.size + 1))]).run Yba.prog wc = .ok (.int .i64 ((put (fill K E n) key e).length : Int)) wc := fun ty => HS3.out.map.len Yba.underlying67
  have hlk : (Instr.lookup 67 (.map (some (w.heap.size + 1))) (Value.int .i32 key) true).run Yba.prog wc = .ok (.tuple #[.agg #[.int .u32 e.1, .int .u32 e.2.1, .int .u32 e.2.2], .bool true]) wc := by
    have := MapL.look keysI HS3.out.map Yba.underlying67 Yba.underlying21 zero74 key
    simpa [assoc_put, entC] using this
  have h72 := eq72
  have hm3 := HS3.out.var
  have hbig3 := HS3.out.big
  have eb := HE3.out.big
  have e0 := HE3.out.c0
  have e1 := HE3.out.c1
  have e2 := HE3.out.c2
  go_wp2_with fail
  clear hlk hlen
  have HSL : Hid (St w (wc.alloc _) (w.heap.size + 1) (put (fill K E n) key e)) := HS3.out.alloc (.cells #[Value.int IntKind.u32 e.fst, Value.int IntKind.u32 e.snd.fst, Value.int IntKind.u32 e.snd.snd] 74)
  go_loopw [28] (fun i wr => ∃ k : Nat, k ≤ n ∧ i = .int .i64 k ∧ Hid (St w wr (w.heap.size + 1) (put (fill K E n) key e))) (fun i _ => n - (intOf i).toNat)
  case atStart => exact ⟨0, Nat.zero_le _, rfl, HSL⟩
  case round =>
    obtain ⟨k, hk, rfl, HS4⟩ := hrel
    clear HSL HS3 HE3 hm3 hbig3 eb e0 e1 e2
    by_cases hlt : k < n
    · have hlti : (k : Int) < (n : Int) := by omega
      have hk0 : (0 : Int) ≤ (k : Int) := by omega
      obtain ⟨b, off, rfl, i0, i1, i2, i3⟩ := HKV.out k hlt
      obtain ⟨d0, hb⟩ := HS4.out.four i0
      by_cases hq : K k = key
      · have hqb : (K k == key) = true := by simp [hq]
        clear i0 i1 i2 i3
        go_wp2_with fail
        go_roundw
        case rel => exact ⟨k + 1, by omega, by go_num, HS4⟩
        case measure => simp [intOf]; omega
      · have hqb : (K k == key) = false := by simp [hq]
        go_wp2_with fail
        go_loopw [29, 30] (fun f j wr => ∃ m : Nat, k + 1 ≤ m ∧ m ≤ n ∧ f = .bool true ∧ j = .int .i64 m ∧ Hid (∀ t, k < t → t < m → K t ≠ K k) ∧ Hid (St w wr (w.heap.size + 1) (put (fill K E n) key e))) (fun _ j _ => n - (intOf j).toNat)
        case atStart => exact ⟨k + 1, Nat.le_refl _, by omega, rfl, by go_num, fun t h1 h2 => by omega, HS4⟩
        case round =>
          obtain ⟨m, hm1, hm2, rfl, rfl, HT, HS5⟩ := hrel
          by_cases hlt2 : m < n
          · have hlti2 : (m : Int) < (n : Int) := by omega
            have hm0 : (0 : Int) ≤ (m : Int) := by omega
            obtain ⟨b', off', hq0, j0, j1, j2, j3⟩ := HKV.out m hlt2
            simp only [Option.some.injEq, Addr.mk.injEq, and_true] at hq0
            obtain ⟨rfl, rfl⟩ := hq0
            have g0 := (HS5.out.four i0).1
            have g1 := (HS5.out.four j0).1
            clear j0 j1 j2 j3 i1 i2 i3 d0
            by_cases hq2 : K m = K k
            · have hqb2 : (K m == K k) = true := by simp [hq2]
              go_wp2_with fail
              go_quiet (fail)
              go_wp2_with fail
              go_roundw
              case rel => exact ⟨k + 1, by omega, by go_num, HS5.out.drewN _⟩
              case measure => simp [intOf]; omega
            · have hqb2 : (K m == K k) = false := by simp [hq2]
              go_wp2_with fail
              go_quiet (fail)
              go_wp2_with fail
              go_roundw
              case rel => exact ⟨m + 1, by omega, by omega, rfl, by go_num, fun t h1 h2 => (Nat.lt_succ_iff_lt_or_eq.1 h2).elim (HT.out t h1) (fun e => e ▸ hq2), HS5.out.drewN _⟩
              case measure => simp [intOf]; omega
          · have hge2 : ¬ (m : Int) < (n : Int) := by omega
            obtain rfl : m = n := by omega
            have HA : Hid (assoc (put (fill K E m) key e) (K k) = some (E k)) := by show _ = _; rw [assoc_put, if_neg (fun h => hq h.symm)]; exact last_one K E k m hlt (fun j h1 h2 => HT.out j h1 h2)
            have HI0 : Hid (w.cell? ⟨b, off + k * 4, none⟩ = some (.int .i32 (K k))) := i0
            have HI1 : Hid (w.cell? ⟨b, off + k * 4 + 1, none⟩ = some (.int .u32 (E k).1) ∧ w.cell? ⟨b, off + k * 4 + 2, none⟩ = some (.int .u32 (E k).2.1) ∧ w.cell? ⟨b, off + k * 4 + 3, none⟩ = some (.int .u32 (E k).2.2)) := ⟨i1, i2, i3⟩
            clear i0 i1 i2 i3 d0
            go_wp2_with fail
            go_region_held3 (fun W => (W.cell? ⟨w.heap.size, 0, none⟩ = some (.map (some (w.heap.size + 1))) ∧ W.cell? ⟨b, off + k * 4, none⟩ = some (.int .i32 (K k)) ∧ (Instr.lookup 67 (.map (some (w.heap.size + 1))) (.int .i32 (K k)) true).run Yba.prog W = .ok (.tuple #[.agg #[.int .u32 (E k).1, .int .u32 (E k).2.1, .int .u32 (E k).2.2], .bool true]) W) ∧ Hid (St w W (w.heap.size + 1) (put (fill K E m) key e))) (first | exact s57_of HS5.out.drew HI0.out HA.out | exact s57_of (HS5.out.alloc _).drew HI0.out HA.out) (fail)
            all_goals
              have d1 := (HS5.out.four HI1.out.1).1
              have d2 := (HS5.out.four HI1.out.2.1).1
              have d3 := (HS5.out.four HI1.out.2.2).1
              have hb5 : b < wr.heap.size := World.block_lt_of_cell? _ _ d1
              go_wp2_with fail
              go_region_held3 (fun W => (W.cell? ⟨wr.heap.size, 0, none⟩ = some (.int .u32 (E k).1) ∧ W.cell? ⟨wr.heap.size, 1, none⟩ = some (.int .u32 (E k).2.1) ∧ W.cell? ⟨wr.heap.size, 2, none⟩ = some (.int .u32 (E k).2.2)) ∧ W.cell? ⟨b, off + k * 4 + 1, none⟩ = some (.int .u32 (E k).1) ∧ W.cell? ⟨b, off + k * 4 + 2, none⟩ = some (.int .u32 (E k).2.1) ∧ W.cell? ⟨b, off + k * 4 + 3, none⟩ = some (.int .u32 (E k).2.2)) (go_simp) ((go_at_call 9; refine (ent_makes (E k).1 (E k).2.1 (E k).2.2 _).mono ?_; rintro x w1 ⟨rfl, rfl⟩))
              go_wp2_with fail
              go_roundw
              case rel => exact ⟨k + 1, by omega, by go_num, ((HS5.out.alloc _).alloc _).drew.drew⟩
              case measure => simp [intOf]; omega
    · have hge : ¬ (k : Int) < (n : Int) := by omega
      obtain rfl : k = n := by omega
      go_wp2_with fail
      go_ret
      exact ⟨rfl, HS4.out.bel⟩
end Go.Proofs.Ybulkcpoe
