import Derived.Test.YbulkcpmoDoorSt4
import Derived.Deep.CutRange
import Derived.Deep.LoopGhost
namespace Go.Proofs.YbulkcpmoDoor
open Go.RowKit Go.MuLone
set_option linter.unusedVariables false
set_option linter.unusedSimpArgs false

set_option maxRecDepth 100000 in
set_option maxHeartbeats 40000000 in
theorem segH {x0 x1 x2 x3 x4 x9 x10 x11 x12 x13 x14 x15 x16 x17 x18 x26 x27 x30 x37 x38 x39 x40 x41 x42 x43 x44 x45 x46 x47 x48 x49 x50 x51 x52 x53 x54 x55 x56 x57 x58 x59 x60 x61 x62 x63 x64 x65 x66 x67 x68 x69 x70 x71 x72 x73 x74 x75 x76 x77 x78 x79 x80 x81 x82 x83 x84 x85 x86 x87 x88 x89 x90 x91 x92 x93 x94 x95 x96 x97 x98 x99 x100 x101 x102 x103 x104 x105 x106 x107 x108 x109 x110 x111 x112 x113 x114 x115 x116 x117 x118 x119 x120 x121 x122 x123 x124 x125 x126 x127 x128 x129 x130 x131 x132 x133 x134 x135 x136 x137 x138 x139 x140 x141 x142 x143 x144 x145 x146 x147 x148 x149 x150 x151 x152 x153 x154 x155 x156 x157 x158 x159 x160 x161 x162 x163 x164 x165 x166 x167 x168 x169 x170 x171 x172 x173 x174 x175 x176 x177 x178 x179 x180 x181 x182 x183 x184 x185 x186 x187 x188 x189 x190 x191 x192 x193 x194 x195 x196 x197 x198 x199 x200 x201 x202 x203 x204 x205 x206 x207 x208 x209 x210 x211 x212 x213 x214 x215 x216 x217 x218 x219 x220 x221 x222 x223 x224 x225 x226 x227 x228 x229 x230 x231 x232 x233 x234 x235 x236 x237 x238 x239 x240 x241 x242 x243 x244 x245 x246 x247 x248 x249 x250 x251 x252 x253 x254 x255 x256 x257 x258 x259 x260 x261 x262 x263 x264 x265 x266 x267 x268 x269 x270 x271 x272 x273 x274 x275 x276 x277 x278 x279 x280 x281 x282 x283 x284 x285 x286 x287 x288 x289 x290 x291 x292 x293 x294 x295 x296 x297 x298 x299 x300 x301 x302 x303 x304 x305 x306 x307 x308 x309 x310 x311 x312 x313 x314 x315 x316 x317 x318 x319 x320 x321 x322 x323 x324 x325 x326 x327 x328 x329 x330 x331 x332 x333 x334 x335 x336 x337 x338 x339 x340 x341 x342 x343 x344 x345 x346 x347 x348 x349 x350 x351 x352 x353 x354 x355 x356 x357 x358 x359 x360 x361 x362 x363 x364 x365 x366 x367 x368 x369 x370 x371 x372 x373 x374 x375 x376 x377 x378 x379 x380 x381 x382 x383 x384 x385 x386 x387 x388 x389 x390 x391 x392 x393 x394 x395 x396 x397 x398 x399 x400 x401 x402 x403 x404 x405 x406 x407 x408 x409 x410 x411 x412 x413 x414 x415 x416 x417 x418 x419 x420 x421 x422 x423 x424 x425 x426 x427 x428 x429 x430 x431 x432 x433 x434 x435 x436 x437 x438 x439 x440 x441 x442 x443 x444 x445 x446 x447 x448 x449 x450 x451 x452 x453 x454 x455 x456 x457 x458 x459 x460 x461 x462 x463 x464 x465 x466 x467 x468 x469 x470 x471 x472 x473 x474 x475 x476 x477 x478 x479 x480 x481 x482 x483 x484 x485 x486 x487 x488 x489 x490 x491 x492 x493 x494 x495 x496 x497 x498 x499 x500 x501 x502 x503 x504 x505 x506 x507 x508 x509 x510 x511 x512 x513 x514 x515 x516 x517 x518 x519 x520 x521 x522 x523 : Value} {w0 w : World} {bl psb iab wsb pab wk K M s : Nat} {po : Option Addr} {P n st : Int} {ws sr hp : Bool} (HS : Hid (TH w0 w bl psb iab wsb pab wk K M s st po sr)) (HN : Hid (Num K M s P n st)) :
    Code.wp Ybad.prog (dropSeq 31 (Ybad.f3.body.getD .skip)) (bodyPost Ybad.prog Ybad.f3 fun e w' => e = .returned (.bool true) ∧ Below w0.heap.size w0 w') ⟨#[x0, x1, x2, x3, x4, .int .u64 st, .bool ws, .bool sr, .bool hp, x9, x10, x11, x12, x13, x14, x15, x16, x17, x18, .int .i64 P, .int .i64 (K : Int), .int .i64 (M : Int), .int .i64 (s : Int), .int .i32 n, .pointer (some ⟨bl, 0, none⟩), .slice (some ⟨psb, 0, none⟩) K K, x26, x27, .slice (some ⟨iab, 0, none⟩) K K, .slice (some ⟨wsb, 0, none⟩) M M, x30, .slice (some ⟨pab, 0, none⟩) M M, .pointer (some ⟨wk, 0, none⟩), .pointer po, .bool false, .bool false, .int .i32 n, x37, x38, x39, x40, x41, x42, x43, x44, x45, x46, x47, x48, x49, x50, x51, x52, x53, x54, x55, x56, x57, x58, x59, x60, x61, x62, x63, x64, x65, x66, x67, x68, x69, x70, x71, x72, x73, x74, x75, x76, x77, x78, x79, x80, x81, x82, x83, x84, x85, x86, x87, x88, x89, x90, x91, x92, x93, x94, x95, x96, x97, x98, x99, x100, x101, x102, x103, x104, x105, x106, x107, x108, x109, x110, x111, x112, x113, x114, x115, x116, x117, x118, x119, x120, x121, x122, x123, x124, x125, x126, x127, x128, x129, x130, x131, x132, x133, x134, x135, x136, x137, x138, x139, x140, x141, x142, x143, x144, x145, x146, x147, x148, x149, x150, x151, x152, x153, x154, x155, x156, x157, x158, x159, x160, x161, x162, x163, x164, x165, x166, x167, x168, x169, x170, x171, x172, x173, x174, x175, x176, x177, x178, x179, x180, x181, x182, x183, x184, x185, x186, x187, x188, x189, x190, x191, x192, x193, x194, x195, x196, x197, x198, x199, x200, x201, x202, x203, x204, x205, x206, x207, x208, x209, x210, x211, x212, x213, x214, x215, x216, x217, x218, x219, x220, x221, x222, x223, x224, x225, x226, x227, x228, x229, x230, x231, x232, x233, x234, x235, x236, x237, x238, x239, x240, x241, x242, x243, x244, x245, x246, x247, x248, x249, x250, x251, x252, x253, x254, x255, x256, x257, x258, x259, x260, x261, x262, x263, x264, x265, x266, x267, x268, x269, x270, x271, x272, x273, x274, x275, x276, x277, x278, x279, x280, x281, x282, x283, x284, x285, x286, x287, x288, x289, x290, x291, x292, x293, x294, x295, x296, x297, x298, x299, x300, x301, x302, x303, x304, x305, x306, x307, x308, x309, x310, x311, x312, x313, x314, x315, x316, x317, x318, x319, x320, x321, x322, x323, x324, x325, x326, x327, x328, x329, x330, x331, x332, x333, x334, x335, x336, x337, x338, x339, x340, x341, x342, x343, x344, x345, x346, x347, x348, x349, x350, x351, x352, x353, x354, x355, x356, x357, x358, x359, x360, x361, x362, x363, x364, x365, x366, x367, x368, x369, x370, x371, x372, x373, x374, x375, x376, x377, x378, x379, x380, x381, x382, x383, x384, x385, x386, x387, x388, x389, x390, x391, x392, x393, x394, x395, x396, x397, x398, x399, x400, x401, x402, x403, x404, x405, x406, x407, x408, x409, x410, x411, x412, x413, x414, x415, x416, x417, x418, x419, x420, x421, x422, x423, x424, x425, x426, x427, x428, x429, x430, x431, x432, x433, x434, x435, x436, x437, x438, x439, x440, x441, x442, x443, x444, x445, x446, x447, x448, x449, x450, x451, x452, x453, x454, x455, x456, x457, x458, x459, x460, x461, x462, x463, x464, x465, x466, x467, x468, x469, x470, x471, x472, x473, x474, x475, x476, x477, x478, x479, x480, x481, x482, x483, x484, x485, x486, x487, x488, x489, x490, x491, x492, x493, x494, x495, x496, x497, x498, x499, x500, x501, x502, x503, x504, x505, x506, x507, x508, x509, x510, x511, x512, x513, x514, x515, x516, x517, x518, x519, x520, x521, x522, x523], []⟩ w := by
  conv => arg 2; whnf
  have hK := HN.out.hK
  obtain ⟨hM1, hM⟩ := HN.out.hM
  have hq26 := neq26
  have hq67 := neq67
  have hqf := func69
  have c0 := HS.out.c0
  have c1 := HS.out.c1
  have c2 := HS.out.c2
  have c4 := HS.out.c4
  have c5 := HS.out.c5
  go_upto_region 58 with fail
  go_cut [245] from 231 to 244 (fun v wx => ∃ b : Bool, v = .bool b ∧ (b = true → sr = false) ∧ wx = w)
  case first =>
    by_cases h1 : s < M
    · have h1i : (s : Int) < (M : Int) := by omega
      by_cases h2 : 0 < K
      · have h2i : (0 : Int) < (K : Int) := by omega
        cases ws with
        | true =>
          go_wp2_with fail
          go_meet
          exact ⟨false, rfl, fun h => (Bool.noConfusion h), rfl⟩
        | false =>
          cases sr with
          | true =>
            go_wp2_with fail
            go_meet
            exact ⟨false, rfl, fun h => (Bool.noConfusion h), rfl⟩
          | false =>
            go_wp2_with fail
            go_meet
            exact ⟨true, rfl, fun _ => by simp, rfl⟩
      · have h2i : ¬ (0 : Int) < (K : Int) := by omega
        go_wp2_with fail
        go_meet
        exact ⟨false, rfl, fun h => (Bool.noConfusion h), rfl⟩
    · have h1i : ¬ (s : Int) < (M : Int) := by omega
      go_wp2_with fail
      go_meet
      exact ⟨false, rfl, fun h => (Bool.noConfusion h), rfl⟩
  case rest =>
  obtain ⟨b, rfl, hb, rfl⟩ := hcut
  go_upto_if 245 with fail
  go_cut [39] from 245 to 245 (fun v wx => v = .bool sr ∧ wx = wc)
  case first =>
    cases b with
    | true =>
      obtain rfl := hb rfl
      go_wp2_with fail
      go_meet
      exact ⟨rfl, rfl⟩
    | false =>
      go_wp2_with fail
      go_meet
      exact ⟨rfl, rfl⟩
  case rest =>
  obtain ⟨rfl, rfl⟩ := hcut
  clear hb
  have l8 := HS.out.l8
  have l9 := HS.out.l9
  have l11 := HS.out.l11
  have hw : wrap32 (K : Int) = (K : Int) := by unfold wrap32; omega
  go_wp2_with fail
  refine (loadI32 bl 11 (K : Int) _ l11).mono ?_
  rintro e w1 ⟨rfl, rfl⟩
  go_upto_block 4 with fail
  clear c0 c1 c2 c4 c5 l8 l9 l11 hqf
  go_cut [40] from 277 to 307 (fun _ wx => Hid (TH w0 wx bl psb iab wsb pab wk K M s st po sr))
  case first =>
    go_wp2_with fail
    go_loopw [40] (fun i wr => ∃ k : Nat, k ≤ K ∧ i = .int .i64 k ∧ Hid (TH w0 wr bl psb iab wsb pab wk K M s st po sr)) (fun i _ => K - (intOf i).toNat)
    case atStart => exact ⟨0, Nat.zero_le _, rfl, HS⟩
    case round =>
      obtain ⟨k, hk, rfl, HB⟩ := hrel
      by_cases hlt : k < K
      · have hlti : (k : Int) < (K : Int) := by omega
        have hk0 : (0 : Int) ≤ (k : Int) := by omega
        have l8 := HB.out.l8
        have r1 := HB.out.rps k hlt
        have r2 := HB.out.ria k hlt
        have r3 := HB.out.sts k hlt
        have hst := stI_wrap st k
        go_wp2_with fail
        go_quiet ((go_at_call 10; refine Calls.quiet_of_same (loadU64 (w0.heap.size + 2 + k) 260 (stI st k) _ (by go_simp))))
        go_wp2_with fail
        go_roundw
        case rel => exact ⟨k + 1, by omega, by go_num, HB.out.drewN _⟩
        case measure => simp [intOf]; omega
      · have hge : ¬ (k : Int) < (K : Int) := by omega
        obtain rfl : k = K := by omega
        go_wp2_with fail
        go_meet
        exact HB
  case rest =>
  have HB : Hid (TH w0 wc bl psb iab wsb pab wk K M s st po sr) := hcut
  clear HS hcut
  go_upto_block 6 with fail
  go_cut [41] from 308 to 335 (fun _ wx => Hid (TH w0 wx bl psb iab wsb pab wk K M s st po sr))
  case first =>
    go_wp2_with fail
    go_loopw [41] (fun i wr => ∃ k : Nat, k ≤ M ∧ i = .int .i64 k ∧ Hid (TH w0 wr bl psb iab wsb pab wk K M s st po sr)) (fun i _ => M - (intOf i).toNat)
    case atStart => exact ⟨0, Nat.zero_le _, rfl, HB⟩
    case round =>
      obtain ⟨k, hk, rfl, HC⟩ := hrel
      by_cases hlt : k < M
      · have hlti : (k : Int) < (M : Int) := by omega
        have hk0 : (0 : Int) ≤ (k : Int) := by omega
        have l9 := HC.out.l9
        have r1 := HC.out.rws k hlt
        have r2 := HC.out.rpa k hlt
        have r3 := HC.out.sl k hlt
        go_wp2_with fail
        go_quiet (fail)
        go_wp2_with fail
        go_roundw
        case rel => exact ⟨k + 1, by omega, by go_num, HC.out.drewN _⟩
        case measure => simp [intOf]; omega
      · have hge : ¬ (k : Int) < (M : Int) := by omega
        obtain rfl : k = M := by omega
        go_wp2_with fail
        go_meet
        exact HC
  case rest =>
  have HC : Hid (TH w0 wc bl psb iab wsb pab wk K M s st po sr) := hcut
  have hs := HN.out.hs
  have c8 := HC.out.c8
  by_cases hlt : s < M
  · have hlti : ((s : Int) == (M : Int)) = false := by simp; omega
    clear c8
    go_wp2_with fail
    go_ret
    exact ⟨rfl, HC.out.bel⟩
  · have hlti : ((s : Int) == (M : Int)) = true := by simp; omega
    rw [if_neg hlt] at c8
    go_wp2_with fail
    go_ret
    exact ⟨rfl, HC.out.bel⟩
end Go.Proofs.YbulkcpmoDoor
