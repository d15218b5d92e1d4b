import Derived.Test.YbulkcpmoRows
import Derived.WalkKit
import Derived.WalkLawsBesides
import Derived.WalkSpells
import Derived.Laws.LoneSync
import Derived.Outline
import Derived.Deep.QuietTactic
import Derived.BigQuiet
import Derived.Deep.RegionWith
namespace Go.Proofs.Ybulkcpmo
open Go.RowKit

theorem read_nearest_cases (neg : Bool) (mag : Nat) (place : Int) :
    (∃ s m e, Ieee.double.read (Ieee.double.nearest neg mag place) = .number s m e) ∨ (∃ s, Ieee.double.read (Ieee.double.nearest neg mag place) = .infinity s) := by
  have hr : ∃ r, r ≤ Ieee.double.infRung ∧ Ieee.double.nearest neg mag place = Ieee.double.word neg r := by
    unfold Ieee.Format.nearest
    dsimp only
    split
    · exact ⟨0, Nat.zero_le _, rfl⟩
    · exact ⟨_, Nat.min_le_right _ _, rfl⟩
  obtain ⟨r, hr, e⟩ := hr
  rw [e]
  have hlt : Ieee.double.infRung < Ieee.double.signWeight := Ieee.Format.infRung_lt _
  have hm : Ieee.double.word neg r % Ieee.double.signWeight = r := by
    unfold Ieee.Format.word
    split
    · rw [Nat.add_mod_left]; exact Nat.mod_eq_of_lt (by omega)
    · exact Nat.mod_eq_of_lt (by omega)
  unfold Ieee.Format.read
  simp only [hm]
  split
  · exact Or.inl ⟨_, _, _, rfl⟩
  · split
    · exact Or.inl ⟨_, _, _, rfl⟩
    · split
      · exact Or.inr ⟨_, rfl⟩
      · omega

/-- A whole number made a float64, over 2^31: always a valid quotient. -/
theorem quo_valid (n : Int) : ∃ r, floatBits .quo .f64 (floatOfInt .f64 n) 4746794007248502784 = some r := by
  show ∃ r, ((Ieee.double.read (Ieee.double.nearest (decide (n < 0)) n.natAbs 0)).quotient 54 (Ieee.double.read 4746794007248502784)).map Ieee.double.write = some r
  have hd : Ieee.double.read 4746794007248502784 = .number false 4503599627370496 (-21) := by decide +kernel
  rw [hd]
  rcases read_nearest_cases (decide (n < 0)) n.natAbs 0 with ⟨s, m, e, h⟩ | ⟨s, h⟩
  · rw [h]; simp [Ieee.Datum.quotient]
  · rw [h]; simp [Ieee.Datum.quotient]

def val (n : Int) : Nat := (floatBits .quo .f64 (floatOfInt .f64 n) 4746794007248502784).getD 0
theorem val_run (n : Int) (w : World) : (binOp .quo 106 (.float .f64 (floatOfInt .f64 n)) (.float .f64 4746794007248502784)).run Yba.prog w = .ok (.float .f64 (val n)) w := by
  obtain ⟨r, h⟩ := quo_valid n
  rw [run_float_arith w .quo 106 .f64 _ _ r h]
  simp [val, h]


theorem bits_or_u32 (a b : Int) : bits .or .u32 a b = ((BitVec.ofInt 32 a ||| BitVec.ofInt 32 b).toNat : Int) := by
  have h := (BitVec.ofInt 32 a ||| BitVec.ofInt 32 b).isLt
  show IntKind.u32.wrap ((BitVec.ofInt 32 a ||| BitVec.ofInt 32 b).toNat : Int) = _
  generalize (BitVec.ofInt 32 a ||| BitVec.ofInt 32 b).toNat = n at h
  have e : IntKind.u32.wrap (n : Int) = (n : Int) % 4294967296 := by simp [IntKind.wrap, IntKind.bits, IntKind.signed]
  rw [e]
  omega
theorem or_flip (a b c d : Int) : bits .or .u32 (bits .or .u32 (bits .or .u32 d c) b) a = bits .or .u32 (bits .or .u32 (bits .or .u32 a b) c) d := by
  simp only [bits_or_u32, BitVec.ofInt_natCast, BitVec.ofNat_toNat, BitVec.setWidth_eq]
  congr 2
  ac_rfl

/-- The draw of a node's state: bytes 16 to 19, big-endian, the top bit cleared: as the walk of 'zzs4564cchildren' spells it. -/
def drawOf (x0 x1 x2 x3 : Int) : Int :=
  bits .and .u32 (bits .or .u32 (bits .or .u32 (bits .or .u32 (x0 % 4294967296 * 16777216 % 4294967296) (x1 % 4294967296 * 65536 % 4294967296)) (x2 % 4294967296 * 256 % 4294967296)) (x3 % 4294967296)) 2147483647
def lessB (q : Nat) (x0 x1 x2 x3 : Int) : Bool := FloatKind.f64.format.order (val (drawOf x0 x1 x2 x3)) q == some Ordering.lt
def kids (rc m : Int) (q : Nat) (x0 x1 x2 x3 d : Int) : Int := if d = 0 then rc else if lessB q x0 x1 x2 x3 = true then m else 0

/-- The cells of a Tree: root children, Q, M (and a seed). -/
structure IsTree (T : List Value) (rc : Int) (q : Nat) (m : Int) : Prop where
  size : T.length = 4
  c0 : T[0]? = some (.int .i64 rc)
  c1 : T[1]? = some (.float .f64 q)
  c2 : T[2]? = some (.int .i64 m)
/-- The cells of a Node that are read one by one: state bytes 16 to 19, the depth. -/
structure IsNode (N : List Value) (x0 x1 x2 x3 d : Int) : Prop where
  size : N.length = 21
  c16 : N[16]? = some (.int .u8 x0)
  c17 : N[17]? = some (.int .u8 x1)
  c18 : N[18]? = some (.int .u8 x2)
  c19 : N[19]? = some (.int .u8 x3)
  c20 : N[20]? = some (.int .i64 d)

set_option maxHeartbeats 400000 in
theorem children_any (T N : List Value) (rc m : Int) (q : Nat) (x0 x1 x2 x3 d : Int) (hT : IsTree T rc q m) (hN : IsNode N x0 x1 x2 x3 d) (w : World) :
    Calls Yba.prog 13 #[.agg T.toArray, .agg N.toArray] w fun e w' => e = .returned (.int .i64 (kids rc m q x0 x1 x2 x3 d)) ∧ Below w.heap.size w w' := by
  have hq := val_run
  obtain ⟨-, t0, t1, t2⟩ := hT
  obtain ⟨-, n16, n17, n18, n19, n20⟩ := hN
  by_cases hd : d = 0
  · subst hd
    go_enter Yba.func13, Yba.ntmps13
    go_wp2
    go_ret
    exact ⟨rfl, ((Below.refl _ _).alloc (Nat.le_refl _) _).alloc (by simp) _⟩
  · have hd' : (d == 0) = false := by simpa using hd
    have HK : Hid (∀ b, lessB q x0 x1 x2 x3 = b → kids rc m q x0 x1 x2 x3 d = if b = true then m else 0) := fun b hb => by simp [kids, hd, hb]
    clear hd
    go_enter Yba.func13, Yba.ntmps13
    go_wp2
    all_goals go_ret
    · have hb : lessB q x0 x1 x2 x3 = true := by assumption
      exact ⟨by rw [HK.out _ hb]; rfl, ((Below.refl _ _).alloc (Nat.le_refl _) _).alloc (by simp) _⟩
    · have hb : lessB q x0 x1 x2 x3 = false := by assumption
      exact ⟨by rw [HK.out _ hb]; rfl, ((Below.refl _ _).alloc (Nat.le_refl _) _).alloc (by simp) _⟩

set_option maxHeartbeats 400000 in
theorem uint32_any (b off : Nat) (x0 x1 x2 x3 : Int) (w : World) (h0 : w.cell? ⟨b, off, none⟩ = some (.int .u8 x0)) (h1 : w.cell? ⟨b, off + 1, none⟩ = some (.int .u8 x1))
    (h2 : w.cell? ⟨b, off + 2, none⟩ = some (.int .u8 x2)) (h3 : w.cell? ⟨b, off + 3, none⟩ = some (.int .u8 x3)) :
    Calls Yba.prog 47 #[.agg #[], .slice (some ⟨b, off, none⟩) 4 4] w fun e w' => e = .returned (.int .u32 (bits .or .u32 (bits .or .u32 (bits .or .u32 (x3 % 4294967296) (x2 % 4294967296 * 256 % 4294967296)) (x1 % 4294967296 * 65536 % 4294967296)) (x0 % 4294967296 * 16777216 % 4294967296))) ∧ Below w.heap.size w w' := by
  have hb : b < w.heap.size := World.block_lt_of_cell? _ _ h0
  go_enter Yba.func47, Yba.ntmps47
  go_wp2
  go_quiet (fail)
  go_wp2
  go_ret
  exact ⟨rfl, below_drewN ((Below.refl _ _).alloc (Nat.le_refl _) _) _⟩

set_option maxHeartbeats 400000 in
theorem value_any (N : List Value) (x0 x1 x2 x3 d : Int) (hN : IsNode N x0 x1 x2 x3 d) (w : World) :
    Calls Yba.prog 42 #[.agg N.toArray] w fun e w' => e = .returned (.float .f64 (val (drawOf x0 x1 x2 x3))) ∧ Below w.heap.size w w' := by
  have hq := val_run
  obtain ⟨-, n16, n17, n18, n19, n20⟩ := hN
  go_enter Yba.func42, Yba.ntmps42
  go_wp2
  go_region_with (go_at_call 47; refine (uint32_any _ _ x0 x1 x2 x3 _ ?_ ?_ ?_ ?_).mono ?_; (simpa using n16); (simpa using n17); (simpa using n18); (simpa using n19); rintro e w' ⟨rfl, hb⟩)
  all_goals
    have hs : w.heap.size < w'.heap.size := by have := hb.size; simp at this; omega
    go_wp2
    go_ret
    refine ⟨?_, ((Below.refl _ _).alloc (Nat.le_refl _) _).trans ⟨hb.os, hb.tape, hb.output, hb.size, fun k hk => hb.block k (by simp; omega)⟩⟩
    show Ending.returned (.float .f64 (val (bits .and .u32 _ 2147483647))) = .returned (.float .f64 (val (drawOf x0 x1 x2 x3)))
    rw [or_flip]
    rfl

/-- What a callee that makes memory leaves: all old cells and marks as they were. -/
theorem bcell {W w1 : World} {B : Nat} (hb : Below B W w1) : (∀ b o, b < B → w1.cell? ⟨b, o, none⟩ = W.cell? ⟨b, o, none⟩) ∧ (∀ b o, b < B → w1.frozen? ⟨b, o, none⟩ = W.frozen? ⟨b, o, none⟩) :=
  ⟨fun b o h => hb.cell (p := ⟨b, o, none⟩) h, fun b o h => hb.frozen (p := ⟨b, o, none⟩) h⟩

end Go.Proofs.Ybulkcpmo
