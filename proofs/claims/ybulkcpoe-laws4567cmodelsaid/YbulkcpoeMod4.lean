import Derived.Test.YbulkcpoeMod3
namespace Go.Proofs.Ybulkcpoe
open Go.RowKit Go.MapKept

set_option linter.unusedSimpArgs false in
set_option maxRecDepth 100000 in
set_option maxHeartbeats 40000000 in
/-- From the making of e to 'want'. -/
theorem model_tailA {sa : Option Addr} {n cap : Nat} {K : Nat → Int} {E : Nat → Ent} {key : Int} {e : Ent} {nm : Bool} {w wc : World} {x6 x7 x8 x9 x10 x11 x12 x14 x15 x17 x19 x20 x21 x22 x23 x24 x25 x26 x27 x28 x29 x30 x31 x32 x33 x34 x35 x36 x37 x38 x39 x40 x41 x42 x43 x44 x45 x46 x47 x48 x49 x50 x51 x52 x53 x54 x55 x56 x57 x58 x59 x60 x61 x62 x63 x64 x65 x66 x67 x68 x69 x70 x71 x72 x73 x74 x75 x76 x77 x78 x79 x80 x81 x82 x83 x84 x85 x86 x87 x88 x89 x90 x91 x92 x93 x94 x95 x96 x97 x98 x99 x100 x101 x102 x103 x104 x105 x106 x107 x108 x109 x110 x111 x112 x113 x114 x115 x116 x117 x118 x119 x120 x121 x122 x123 x124 x125 x126 x127 x128 x129 x130 x131 x132 x133 x134 x135 x136 x137 x138 x139 x140 x141 x142 x143 x144 x145 x146 x147 x148 x149 x150 x151 x152 x153 x154 x155 x156 x157 x158 x159 x160 x161 x162 x163 x164 x165 x166 x167 x168 x169 x170 x171 x172 x173 x174 x175 x176 x177 x178 x179 x180 x181 x182 x183 x184 x185 x186 x187 x188 x189 x190 x191 x192 x193 x194 x195 x196 x197 x198 x199 x200 x201 x202 x203 x204 x205 x206 x207 x208 x209 x210 x211 x212 x213 x214 x215 x216 x217 x218 x219 x220 x221 x222 x223 x224 x225 x226 x227 x228 : Value} (hn : n ≤ 1024) (HKV : Hid (KV w sa n K E))
    (HS1 : Hid (St w wc (w.heap.size + 1) (fill K E n))) :
    Code.wp Yba.prog (dropSeq 9 (Yba.f5.body.getD .skip)) (bodyPost Yba.prog Yba.f5 fun x w' => x = .returned (.bool true) ∧ Below w.heap.size w w') ⟨#[.slice sa n cap, .int .i32 key, .int .u32 e.1, .int .u32 e.2.1, .int .u32 e.2.2, .bool nm, x6, x7, x8, x9, x10, x11, x12, .pointer (some ⟨w.heap.size, 0, none⟩), x14, x15, .int .i64 (lastAt K key n), x17, .int .i64 (dist K n), x19, x20, x21, x22, x23, x24, x25, x26, x27, x28, x29, x30, x31, x32, x33, x34, x35, x36, x37, x38, x39, x40, x41, x42, x43, x44, x45, x46, x47, x48, x49, x50, x51, x52, x53, x54, x55, x56, x57, x58, x59, x60, x61, x62, x63, x64, x65, x66, x67, x68, x69, x70, x71, x72, x73, x74, x75, x76, x77, x78, x79, x80, x81, x82, x83, x84, x85, x86, x87, x88, x89, x90, x91, x92, x93, x94, x95, x96, x97, x98, x99, x100, x101, x102, x103, x104, x105, x106, x107, x108, x109, x110, x111, x112, x113, x114, x115, x116, x117, x118, x119, x120, x121, x122, x123, x124, x125, x126, x127, x128, x129, x130, x131, x132, x133, x134, x135, x136, x137, x138, x139, x140, x141, x142, x143, x144, x145, x146, x147, x148, x149, x150, x151, x152, x153, x154, x155, x156, x157, x158, x159, x160, x161, x162, x163, x164, x165, x166, x167, x168, x169, x170, x171, x172, x173, x174, x175, x176, x177, x178, x179, x180, x181, x182, x183, x184, x185, x186, x187, x188, x189, x190, x191, x192, x193, x194, x195, x196, x197, x198, x199, x200, x201, x202, x203, x204, x205, x206, x207, x208, x209, x210, x211, x212, x213, x214, x215, x216, x217, x218, x219, x220, x221, x222, x223, x224, x225, x226, x227, x228], []⟩ wc := by
  conv => arg 2; whnf
  have hbig := HS1.out.big
  have hm0 := HS1.out.var
  go_wp2_with fail
  refine (ent_makes e.1 e.2.1 e.2.2 _).mono ?_
  rintro x w1 ⟨rfl, rfl⟩
  dsimp only
  go_wp2_with fail
  refine (putI_some w.heap.size (w.heap.size + 1) (fill K E n) key e _ ((HS1.out.alloc _).alloc _).map ((HS1.out.alloc _).alloc _).var).mono ?_
  rintro x w2 ⟨rfl, hM, hK⟩
  have HS2 : Hid (St w w2 (w.heap.size + 1) (put (fill K E n) key e)) := st_upd ((HS1.out.alloc _).alloc _) hM (fun v hv => hK.cell (by simp; omega) (by simp) hv) hK
  have e0 : w2.cell? ⟨wc.heap.size + 1, 0, none⟩ = some (.int .u32 e.1) := hK.cell (by simp) (by simp; omega) (by go_simp)
  have e1 : w2.cell? ⟨wc.heap.size + 1, 1, none⟩ = some (.int .u32 e.2.1) := hK.cell (by simp) (by simp; omega) (by go_simp)
  have e2 : w2.cell? ⟨wc.heap.size + 1, 2, none⟩ = some (.int .u32 e.2.2) := hK.cell (by simp) (by simp; omega) (by go_simp)
  have HE : Hid (Ec w2 (wc.heap.size + 1) e) := ⟨e0, e1, e2⟩
  have hbig2 := HS2.out.big
  have hm2 := HS2.out.var
  have h67 := isnil67
  clear hM hK HS1 e0 e1 e2 hm0 hbig
  generalize wc.heap.size + 1 = H at HE ⊢
  generalize hh : (assoc (fill K E n) key).getD zeroE = hd
  generalize ho : (assoc (fill K E n) key).isSome = ok
  unfold entC
  dsimp only
  go_upto_if 113 with fail
  go_cut [16] from 33 (fun s wx => s = .int .i64 (lastAt K key n) ∧ Hid (St w wx (w.heap.size + 1) (put (fill K E n) key e)) ∧ Hid (Ec wx H e))
  case first =>
    have h72 := eq72
    rcases last_spec K E key n with ⟨j, hj, hl, hKj, has⟩ | ⟨hl, has⟩
    · rw [has] at hh ho
      simp only [Option.getD_some, Option.isSome_some] at hh ho
      subst hh ho
      have HL : Hid (lastAt K key n = j) := hl
      have hj0 : (0 : Int) ≤ (j : Int) := by omega
      have hjn : (j : Int) < (n : Int) := by omega
      simp only [hl]
      obtain ⟨b, off, rfl, i0, i1, i2, i3⟩ := HKV.out j hj
      obtain ⟨d1, hb⟩ := HS2.out.four i1
      have d2 := (HS2.out.four i2).1
      have d3 := (HS2.out.four i3).1
      have hb2 : b < w2.heap.size := by omega
      have HX : Hid (St w (w2.alloc (Obj.cells #[Value.int IntKind.u32 (E j).fst, Value.int IntKind.u32 (E j).snd.fst, Value.int IntKind.u32 (E j).snd.snd] 74)) (w.heap.size + 1) (put (fill K E n) key e)) := HS2.out.alloc _
      clear i0 i1 i2 i3 hl has
      go_wp2_with fail
      go_region_held3 (fun W => (W.cell? ⟨w2.heap.size, 0, none⟩ = some (.int .u32 (E j).1) ∧ W.cell? ⟨w2.heap.size, 1, none⟩ = some (.int .u32 (E j).2.1) ∧ W.cell? ⟨w2.heap.size, 2, none⟩ = some (.int .u32 (E j).2.2)) ∧ W.cell? ⟨b, off + j * 4 + 1, none⟩ = some (.int .u32 (E j).1) ∧ W.cell? ⟨b, off + j * 4 + 2, none⟩ = some (.int .u32 (E j).2.1) ∧ W.cell? ⟨b, off + j * 4 + 3, none⟩ = some (.int .u32 (E j).2.2)) (go_simp) ((go_at_call 9; refine (ent_makes (E j).1 (E j).2.1 (E j).2.2 _).mono ?_; rintro x w1 ⟨rfl, rfl⟩))
      go_wp2_with fail
      go_meet
      exact ⟨by rw [HL.out], (HX.out.alloc _).drew, ((HE.out.alloc _).alloc _).drew⟩
    · rw [has] at hh ho
      simp only [Option.getD_none, Option.isSome_none, zeroE] at hh ho
      subst hh ho
      have HL : Hid (lastAt K key n = -1) := hl
      simp only [hl]
      clear hl has
      go_wp2_with fail
      go_meet
      exact ⟨by rw [HL.out], HS2.out.alloc _, HE.out.alloc _⟩
  case rest =>
  obtain ⟨rfl, HS3, HE3⟩ := hcut
  clear HS2 HE hh ho hm2 hbig2
  have hdl := dist_le K n
  go_upto_if 144 with fail
  go_cut [25] from 33 (fun s wx => s = .int .i64 ((put (fill K E n) key e).length : Int) ∧ wx = wc)
  case first =>
    by_cases hl : lastAt K key n < 0
    · go_wp2_with fail
      go_meet
      exact ⟨by rw [want_law, if_pos hl], rfl⟩
    · go_wp2_with fail
      go_meet
      exact ⟨by rw [want_law, if_neg (Int.not_lt.2 hl)], rfl⟩
  case rest =>
  obtain ⟨rfl, rfl⟩ := hcut
  first
    | exact model_tailB hn HKV HS3 HE3
    | (apply_assumption; exact model_tailB hn HKV HS3 HE3)
end Go.Proofs.Ybulkcpoe
