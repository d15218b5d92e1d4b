import Derived.Test.YbulkcpmoDoorSegI3
import Derived.Deep.CutRange
namespace Go.Proofs.YbulkcpmoDoor
open Go.RowKit Go.MuLone
set_option linter.unusedVariables false
set_option linter.unusedSimpArgs false

theorem look_none {L : List (Addr × Value)} {a : Addr} (h : ∀ p ∈ L, p.1 ≠ a) : look L a = none := by
  induction L with
  | nil => rfl
  | cons p L ih =>
    simp only [look, if_neg (h p (List.mem_cons_self ..))]
    exact ih fun q hq => h q (List.mem_cons_of_mem _ hq)
/-- Writes to new blocks alone. -/
theorem Wr.drop {w w' : World} {L : List (Addr × Value)} (h : Wr L w w') (hL : ∀ p ∈ L, w.heap.size ≤ p.1.block) : Wr [] w w' :=
  ⟨h.os, h.tape, h.output, h.size, fun a ha => by rw [h.cell a ha, look_none (fun p hp e => by have := hL p hp; rw [e] at this; omega)]; rfl, h.froz, fun q hq _ => h.keep q hq (fun p hp e => by have := hL p hp; omega)⟩

set_option maxRecDepth 100000 in
set_option maxHeartbeats 40000000 in
theorem segI2 {x0 x1 x2 x3 x4 x9 x10 x11 x12 x13 x14 x15 x16 x17 x18 x26 x27 x30 x34 x36 x37 x38 x39 x40 x41 x42 x43 x44 x45 x46 x47 x48 x49 x50 x51 x52 x53 x54 x55 x56 x57 x58 x59 x60 x61 x62 x63 x64 x65 x66 x67 x68 x69 x70 x71 x72 x73 x74 x75 x76 x77 x78 x79 x80 x81 x82 x83 x84 x85 x86 x87 x88 x89 x90 x91 x92 x93 x94 x95 x96 x97 x98 x99 x100 x101 x102 x103 x104 x105 x106 x107 x108 x109 x110 x111 x112 x113 x114 x115 x116 x117 x118 x119 x120 x121 x122 x123 x124 x125 x126 x127 x128 x129 x130 x131 x132 x133 x134 x135 x136 x137 x138 x139 x140 x141 x142 x143 x144 x145 x146 x147 x148 x149 x150 x151 x152 x153 x154 x155 x156 x157 x158 x159 x160 x161 x162 x163 x164 x165 x166 x167 x168 x169 x170 x171 x172 x173 x174 x175 x176 x177 x178 x179 x180 x181 x182 x183 x184 x185 x186 x187 x188 x189 x190 x191 x192 x193 x194 x195 x196 x197 x198 x199 x200 x201 x202 x203 x204 x205 x206 x207 x208 x209 x210 x211 x212 x213 x214 x215 x216 x217 x218 x219 x220 x221 x222 x223 x224 x225 x226 x227 x228 x229 x230 x231 x232 x233 x234 x235 x236 x237 x238 x239 x240 x241 x242 x243 x244 x245 x246 x247 x248 x249 x250 x251 x252 x253 x254 x255 x256 x257 x258 x259 x260 x261 x262 x263 x264 x265 x266 x267 x268 x269 x270 x271 x272 x273 x274 x275 x276 x277 x278 x279 x280 x281 x282 x283 x284 x285 x286 x287 x288 x289 x290 x291 x292 x293 x294 x295 x296 x297 x298 x299 x300 x301 x302 x303 x304 x305 x306 x307 x308 x309 x310 x311 x312 x313 x314 x315 x316 x317 x318 x319 x320 x321 x322 x323 x324 x325 x326 x327 x328 x329 x330 x331 x332 x333 x334 x335 x336 x337 x338 x339 x340 x341 x342 x343 x344 x345 x346 x347 x348 x349 x350 x351 x352 x353 x354 x355 x356 x357 x358 x359 x360 x361 x362 x363 x364 x365 x366 x367 x368 x369 x370 x371 x372 x373 x374 x375 x376 x377 x378 x379 x380 x381 x382 x383 x384 x385 x386 x387 x388 x389 x390 x391 x392 x393 x394 x395 x396 x397 x398 x399 x400 x401 x402 x403 x404 x405 x406 x407 x408 x409 x410 x411 x412 x413 x414 x415 x416 x417 x418 x419 x420 x421 x422 x423 x424 x425 x426 x427 x428 x429 x430 x431 x432 x433 x434 x435 x436 x437 x438 x439 x440 x441 x442 x443 x444 x445 x446 x447 x448 x449 x450 x451 x452 x453 x454 x455 x456 x457 x458 x459 x460 x461 x462 x463 x464 x465 x466 x467 x468 x469 x470 x471 x472 x473 x474 x475 x476 x477 x478 x479 x480 x481 x482 x483 x484 x485 x486 x487 x488 x489 x490 x491 x492 x493 x494 x495 x496 x497 x498 x499 x500 x501 x502 x503 x504 x505 x506 x507 x508 x509 x510 x511 x512 x513 x514 x515 x516 x517 x518 x519 x520 x521 x522 x523 : Value} {w0 w : World} {bl psb iab wsb pab wk k m s : Nat} {po : Option Addr} {P n st : Int} {ws sr hp : Bool} (HS : Hid (TI w0 w bl psb iab wsb pab wk k m s st)) (HN : Hid (Num (k + 1) (m + 1) s P n st)) (hs : s < m + 1) :
    Code.wp Ybad.prog (dropSeq 38 (Ybad.f3.body.getD .skip)) (bodyPost Ybad.prog Ybad.f3 fun e w' => e = .returned (.bool true) ∧ Below w0.heap.size w0 w') ⟨#[x0, x1, x2, x3, x4, .int .u64 st, .bool ws, .bool sr, .bool hp, x9, x10, x11, x12, x13, x14, x15, x16, x17, x18, .int .i64 P, .int .i64 ((k : Int) + 1), .int .i64 ((m : Int) + 1), .int .i64 (s : Int), .int .i32 n, .pointer (some ⟨bl, 0, none⟩), .slice (some ⟨psb, 0, none⟩) (k + 1) (k + 1), x26, x27, .slice (some ⟨iab, 0, none⟩) (k + 1) (k + 1), .slice (some ⟨wsb, 0, none⟩) (m + 1) (m + 1), x30, .slice (some ⟨pab, 0, none⟩) (m + 1) (m + 1), .pointer (some ⟨wk, 0, none⟩), .pointer po, x34, .bool true, x36, x37, x38, x39, x40, x41, x42, x43, x44, x45, x46, x47, x48, x49, x50, x51, x52, x53, x54, x55, x56, x57, x58, x59, x60, x61, x62, x63, x64, x65, x66, x67, x68, x69, x70, x71, x72, x73, x74, x75, x76, x77, x78, x79, x80, x81, x82, x83, x84, x85, x86, x87, x88, x89, x90, x91, x92, x93, x94, x95, x96, x97, x98, x99, x100, x101, x102, x103, x104, x105, x106, x107, x108, x109, x110, x111, x112, x113, x114, x115, x116, x117, x118, x119, x120, x121, x122, x123, x124, x125, x126, x127, x128, x129, x130, x131, x132, x133, x134, x135, x136, x137, x138, x139, x140, x141, x142, x143, x144, x145, x146, x147, x148, x149, x150, x151, x152, x153, x154, x155, x156, x157, x158, x159, x160, x161, x162, x163, x164, x165, x166, x167, x168, x169, x170, x171, x172, x173, x174, x175, x176, x177, x178, x179, x180, x181, x182, x183, x184, x185, x186, x187, x188, x189, x190, x191, x192, x193, x194, x195, x196, x197, x198, x199, x200, x201, x202, x203, x204, x205, x206, x207, x208, x209, x210, x211, x212, x213, x214, x215, x216, x217, x218, x219, x220, x221, x222, x223, x224, x225, x226, x227, x228, x229, x230, x231, x232, x233, x234, x235, x236, x237, x238, x239, x240, x241, x242, x243, x244, x245, x246, x247, x248, x249, x250, x251, x252, x253, x254, x255, x256, x257, x258, x259, x260, x261, x262, x263, x264, x265, x266, x267, x268, x269, x270, x271, x272, x273, x274, x275, x276, x277, x278, x279, x280, x281, x282, x283, x284, x285, x286, x287, x288, x289, x290, x291, x292, x293, x294, x295, x296, x297, x298, x299, x300, x301, x302, x303, x304, x305, x306, x307, x308, x309, x310, x311, x312, x313, x314, x315, x316, x317, x318, x319, x320, x321, x322, x323, x324, x325, x326, x327, x328, x329, x330, x331, x332, x333, x334, x335, x336, x337, x338, x339, x340, x341, x342, x343, x344, x345, x346, x347, x348, x349, x350, x351, x352, x353, x354, x355, x356, x357, x358, x359, x360, x361, x362, x363, x364, x365, x366, x367, x368, x369, x370, x371, x372, x373, x374, x375, x376, x377, x378, x379, x380, x381, x382, x383, x384, x385, x386, x387, x388, x389, x390, x391, x392, x393, x394, x395, x396, x397, x398, x399, x400, x401, x402, x403, x404, x405, x406, x407, x408, x409, x410, x411, x412, x413, x414, x415, x416, x417, x418, x419, x420, x421, x422, x423, x424, x425, x426, x427, x428, x429, x430, x431, x432, x433, x434, x435, x436, x437, x438, x439, x440, x441, x442, x443, x444, x445, x446, x447, x448, x449, x450, x451, x452, x453, x454, x455, x456, x457, x458, x459, x460, x461, x462, x463, x464, x465, x466, x467, x468, x469, x470, x471, x472, x473, x474, x475, x476, x477, x478, x479, x480, x481, x482, x483, x484, x485, x486, x487, x488, x489, x490, x491, x492, x493, x494, x495, x496, x497, x498, x499, x500, x501, x502, x503, x504, x505, x506, x507, x508, x509, x510, x511, x512, x513, x514, x515, x516, x517, x518, x519, x520, x521, x522, x523], []⟩ w := by
  conv => arg 2; whnf
  have hM := HN.out.hM
  have hmk : ∀ W, (Instr.makeSlice 56 (.int .i64 ((m : Int) + 1)) (.int .i64 ((m : Int) + 1))).run Ybad.prog W = .ok (.slice (some ⟨W.heap.size, 0, none⟩) (m + 1) (m + 1)) (W.alloc (.cells (madeCells #[.pointer none] (m + 1)) 67)) := make56 (m + 1) (by omega)
  have hcp : ∀ ty, (Builtin.copy_ #[56, 56] ty #[.slice (some ⟨w.heap.size, 0, none⟩) (m + 1) (m + 1), .slice (some ⟨wsb, 0, none⟩) (m + 1) (m + 1)]).run Ybad.prog (w.alloc (.cells (madeCells #[.pointer none] (m + 1)) 67)) = .ok (.int .i64 ((m : Int) + 1)) (w.alloc (.cells (ptrs (m + 1) (w0.heap.size + 4 + (k + 1))).toArray 67)) := fun ty => copy_new 56 67 ty Ybad.underlying56 (by kernel_rfl) w (m + 1) wsb _ HS.out.wsbw HS.out.rws
  have r1 := row_new w (m + 1) (w0.heap.size + 4 + (k + 1)) 67 m (by omega)
  have r2 := row_new w (m + 1) (w0.heap.size + 4 + (k + 1)) 67 s hs
  have f2 := froz_new w (ptrs (m + 1) (w0.heap.size + 4 + (k + 1))).toArray 67 s
  have HT : Hid (TI w0 ((w.alloc (.cells (ptrs (m + 1) (w0.heap.size + 4 + (k + 1))).toArray 67)).setCell ⟨w.heap.size, s, none⟩ (.pointer (some ⟨w0.heap.size + 4 + (k + 1) + m, 0, none⟩))) bl psb iab wsb pab wk k m s st) :=
    HS.out.wr ((((Wr.refl w).alloc _).set r2 _).drop (fun p hp => by simp only [List.mem_cons, List.not_mem_nil, or_false] at hp; rw [hp]; exact Nat.le_refl _))
  have HX : Hid (∀ i, i < m → ((w.alloc (.cells (ptrs (m + 1) (w0.heap.size + 4 + (k + 1))).toArray 67)).setCell ⟨w.heap.size, s, none⟩ (.pointer (some ⟨w0.heap.size + 4 + (k + 1) + m, 0, none⟩))).cell? ⟨w.heap.size, i, none⟩ = some (.pointer (some ⟨w0.heap.size + 4 + (k + 1) + nx s m i, 0, none⟩))) := by
    intro i hi
    by_cases his : i = s
    · subst his
      rw [World.cell?_setCell_same _ _ _ r2]
      simp [nx]
    · have hsi : ¬ s = i := fun e => his e.symm
      rw [World.cell?_setCell_other _ _ _ _ (by simp [hsi]), row_new w (m + 1) (w0.heap.size + 4 + (k + 1)) 67 i (by omega)]
      simp [nx, his]
  generalize hw1 : w.alloc (.cells (ptrs (m + 1) (w0.heap.size + 4 + (k + 1))).toArray 67) = w1 at *
  clear hw1
  have hm0 : (0 : Int) ≤ (m : Int) := by omega
  have hm1 : wrap64 (m : Int) = (m : Int) := by unfold wrap64; omega
  have hm2 : (m : Int) < (m : Int) + 1 := by omega
  have hs0 : (0 : Int) ≤ (s : Int) := by omega
  have hs1 : (s : Int) < (m : Int) + 1 := by omega
  have hs2 : s ≤ m := by omega
  go_upto_region 93 with fail
  go_cut [45] from 475 to 478 (fun v wx => v = .slice (some ⟨w.heap.size, 0, none⟩) m (m + 1) ∧ wx = w1.setCell ⟨w.heap.size, s, none⟩ (.pointer (some ⟨w0.heap.size + 4 + (k + 1) + m, 0, none⟩)))
  case first =>
    go_wp2_with fail
    go_meet
    exact ⟨rfl, rfl⟩
  case rest =>
  obtain ⟨rfl, rfl⟩ := hcut
  first
    | exact segI3 HT HX HN hs
    | (apply_assumption; exact segI3 HT HX HN hs)
end Go.Proofs.YbulkcpmoDoor
