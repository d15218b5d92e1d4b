import Derived.Test.YbulkcpoeTwWalk
import Derived.Deep.DeepCutAuto
import Derived.Deep.RegionHeld3
import Derived.Deep.CutBlock
import Derived.Deep.QuietTactic
import Derived.BigQuiet
namespace Go.Proofs.Ybulkcpoe
open Go.RowKit Go.MapKept

abbrev encI : Int → Value := fun n : Int => Value.int .i32 n

/-- The pairs are laid in the argument's cells. -/
def KV (w : World) (sa : Option Addr) (n : Nat) (K : Nat → Int) (E : Nat → Ent) : Prop :=
  ∀ i, i < n → ∃ b off, sa = some ⟨b, off, none⟩ ∧ w.cell? ⟨b, off + i * 4, none⟩ = some (.int .i32 (K i)) ∧ w.cell? ⟨b, off + i * 4 + 1, none⟩ = some (.int .u32 (E i).1) ∧
    w.cell? ⟨b, off + i * 4 + 2, none⟩ = some (.int .u32 (E i).2.1) ∧ w.cell? ⟨b, off + i * 4 + 3, none⟩ = some (.int .u32 (E i).2.2)

/-- The code behind the first statements of a sequence. -/
def dropSeq : Nat → Code → Code
  | 0, c => c
  | k + 1, .seq _ b => dropSeq k b
  | _ + 1, c => c

/-- The map is filled from the first k pairs. -/
def fill (K : Nat → Int) (E : Nat → Ent) : Nat → List (Int × Ent)
  | 0 => []
  | k + 1 => put (fill K E k) (K k) (E k)

/-- What stands between the loops: the variable's cell names the map, the map holds l, old memory is as it was. -/
structure St (w W : World) (mb : Nat) (l : List (Int × Ent)) : Prop where
  var : W.cell? ⟨w.heap.size, 0, none⟩ = some (.map (some mb))
  map : MapL encI W mb l
  bel : Below w.heap.size w W
  lt : w.heap.size < mb

theorem St.drew {w W : World} {mb : Nat} {l : List (Int × Ent)} (h : St w W mb l) : St w W.drew mb l := ⟨h.var, h.map, h.bel.drew, h.lt⟩
theorem St.big {w W : World} {mb : Nat} {l : List (Int × Ent)} (h : St w W mb l) : w.heap.size < W.heap.size := World.block_lt_of_cell? _ _ h.var
theorem St.alloc {w W : World} {mb : Nat} {l : List (Int × Ent)} (h : St w W mb l) (o : Obj) : St w (W.alloc o) mb l :=
  ⟨by rw [World.cell?_alloc_lt W o ⟨w.heap.size, 0, none⟩ h.big]; exact h.var, h.map.alloc o, h.bel.alloc (Nat.le_of_lt h.big) o, h.lt⟩
theorem St.four {w W : World} {mb : Nat} {l : List (Int × Ent)} (h : St w W mb l) {b o : Nat} {v : Value} (hc : w.cell? ⟨b, o, none⟩ = some v) : W.cell? ⟨b, o, none⟩ = some v ∧ b < w.heap.size :=
  have hb : b < w.heap.size := World.block_lt_of_cell? _ _ hc
  ⟨(h.bel.cell (p := ⟨b, o, none⟩) hb).trans hc, hb⟩

theorem St.drewN {w W : World} {mb : Nat} {l : List (Int × Ent)} (h : St w W mb l) (q : Nat) : St w (W.drewN q) mb l := ⟨h.var, h.map, below_drewN h.bel q, h.lt⟩

/-- The last place at which the key stands; -1 if none. -/
def lastAt (K : Nat → Int) (key : Int) : Nat → Int
  | 0 => -1
  | k + 1 => if K k = key then (k : Int) else lastAt K key k

theorem lastAt_hit {K : Nat → Int} {key : Int} {k : Nat} (h : K k = key) : lastAt K key (k + 1) = k := if_pos h
theorem lastAt_miss {K : Nat → Int} {key : Int} {k : Nat} (h : ¬ K k = key) : lastAt K key (k + 1) = lastAt K key k := if_neg h

/-- Does x stand among the first j keys? -/
def seen (K : Nat → Int) (x : Int) : Nat → Bool
  | 0 => false
  | j + 1 => seen K x j || K j == x

theorem seen_no {K : Nat → Int} {x : Int} : ∀ {m : Nat}, (∀ t, t < m → K t ≠ x) → seen K x m = false
  | 0, _ => rfl
  | m + 1, h => by simp [seen, seen_no (fun t ht => h t (Nat.lt_succ_of_lt ht)), h m (Nat.lt_succ_self m)]

theorem seen_yes {K : Nat → Int} {x : Int} {t : Nat} (ht : K t = x) : ∀ {m : Nat}, t < m → seen K x m = true
  | 0, h => absurd h (Nat.not_lt_zero _)
  | m + 1, h => by
    rcases Nat.lt_succ_iff_lt_or_eq.1 h with h | rfl
    · simp [seen, seen_yes ht h]
    · simp [seen, ht]

/-- How many keys stand among the first i pairs. -/
def dist (K : Nat → Int) : Nat → Nat
  | 0 => 0
  | i + 1 => if seen K (K i) i then dist K i else dist K i + 1

theorem dist_seen {K : Nat → Int} {i : Nat} (h : seen K (K i) i = true) : dist K (i + 1) = dist K i := by simp [dist, h]
theorem dist_new {K : Nat → Int} {i : Nat} (h : seen K (K i) i = false) : dist K (i + 1) = dist K i + 1 := by simp [dist, h]
theorem dist_le (K : Nat → Int) : ∀ i, dist K i ≤ i
  | 0 => Nat.le_refl _
  | i + 1 => by have := dist_le K i; simp only [dist]; split <;> omega

theorem last_spec (K : Nat → Int) (E : Nat → Ent) (key : Int) : ∀ n, (∃ j : Nat, j < n ∧ lastAt K key n = j ∧ K j = key ∧ assoc (fill K E n) key = some (E j)) ∨ (lastAt K key n = -1 ∧ assoc (fill K E n) key = none)
  | 0 => .inr ⟨rfl, rfl⟩
  | n + 1 => by
    by_cases h : K n = key
    · exact .inl ⟨n, Nat.lt_succ_self n, lastAt_hit h, h, by simp [fill, assoc_put, h]⟩
    · rcases last_spec K E key n with ⟨j, h1, h2, h3, h4⟩ | ⟨h1, h2⟩
      · exact .inl ⟨j, Nat.lt_succ_of_lt h1, by rw [lastAt_miss h, h2], h3, by simp [fill, assoc_put, h, h4]⟩
      · exact .inr ⟨by rw [lastAt_miss h, h1], by simp [fill, assoc_put, h, h2]⟩

theorem seen_assoc (K : Nat → Int) (E : Nat → Ent) (x : Int) : ∀ n, (assoc (fill K E n) x).isSome = seen K x n
  | 0 => rfl
  | n + 1 => by
    by_cases h : K n = x
    · simp [fill, assoc_put, seen, h]
    · simp [fill, assoc_put, seen, h, seen_assoc K E x n]

theorem fill_length (K : Nat → Int) (E : Nat → Ent) : ∀ n, (fill K E n).length = dist K n
  | 0 => rfl
  | n + 1 => by
    simp only [fill, put_length, seen_assoc, fill_length K E n, dist]

theorem last_one (K : Nat → Int) (E : Nat → Ent) (i : Nat) : ∀ n, i < n → (∀ j, i < j → j < n → K j ≠ K i) → assoc (fill K E n) (K i) = some (E i)
  | 0, h, _ => absurd h (Nat.not_lt_zero _)
  | n + 1, h, hl => by
    rcases Nat.lt_succ_iff_lt_or_eq.1 h with h' | rfl
    · simp only [fill, assoc_put, hl n h' (Nat.lt_succ_self n), if_false]
      exact last_one K E i n h' (fun j h1 h2 => hl j h1 (Nat.lt_succ_of_lt h2))
    · simp [fill, assoc_put]

/-- How many keys the map holds behind the put. -/
theorem want_law (K : Nat → Int) (E : Nat → Ent) (key : Int) (e : Ent) (n : Nat) : ((put (fill K E n) key e).length : Int) = if lastAt K key n < 0 then (dist K n : Int) + 1 else dist K n := by
  rw [put_length, fill_length]
  rcases last_spec K E key n with ⟨j, -, h2, -, h4⟩ | ⟨h1, h2⟩
  · have : ¬ ((j : Int) < 0) := by omega
    simp [h2, h4, this]
  · simp [h1, h2]

/-- The entry in block H. -/
structure Ec (W : World) (H : Nat) (e : Ent) : Prop where
  c0 : W.cell? ⟨H, 0, none⟩ = some (.int .u32 e.1)
  c1 : W.cell? ⟨H, 1, none⟩ = some (.int .u32 e.2.1)
  c2 : W.cell? ⟨H, 2, none⟩ = some (.int .u32 e.2.2)
theorem Ec.big {W : World} {H : Nat} {e : Ent} (h : Ec W H e) : H < W.heap.size := World.block_lt_of_cell? _ _ h.c0
theorem Ec.alloc {W : World} {H : Nat} {e : Ent} (h : Ec W H e) (o : Obj) : Ec (W.alloc o) H e :=
  have hb := h.big
  ⟨by rw [World.cell?_alloc_lt W o ⟨H, 0, none⟩ hb]; exact h.c0, by rw [World.cell?_alloc_lt W o ⟨H, 1, none⟩ hb]; exact h.c1, by rw [World.cell?_alloc_lt W o ⟨H, 2, none⟩ hb]; exact h.c2⟩
theorem Ec.drew {W : World} {H : Nat} {e : Ent} (h : Ec W H e) : Ec W.drew H e := ⟨h.c0, h.c1, h.c2⟩

theorem s57_of {w W : World} {mb : Nat} {l : List (Int × Ent)} {b o : Nat} {x : Int} {en : Ent} (h : St w W mb l) (hc : w.cell? ⟨b, o, none⟩ = some (.int .i32 x)) (ha : assoc l x = some en) :
    (W.cell? ⟨w.heap.size, 0, none⟩ = some (.map (some mb)) ∧ W.cell? ⟨b, o, none⟩ = some (.int .i32 x) ∧ (Instr.lookup 67 (.map (some mb)) (.int .i32 x) true).run Yba.prog W = .ok (.tuple #[.agg #[.int .u32 en.1, .int .u32 en.2.1, .int .u32 en.2.2], .bool true]) W) ∧ Hid (St w W mb l) := by
  have hl := MapL.look keysI h.map Yba.underlying67 Yba.underlying21 zero74 x
  rw [ha] at hl
  exact ⟨⟨h.var, (h.four hc).1, hl⟩, h⟩

theorem st_start (w : World) : St w ((w.alloc (.cells #[.map (some (w.heap.size + 1))] 67)).alloc (.map #[] 0)) (w.heap.size + 1) [] := by
  refine ⟨by go_simp, MapL.empty ?_, ((Below.refl _ _).alloc (Nat.le_refl _) _).alloc (by simp) _, by omega⟩
  have := heap_alloc_new (w.alloc (.cells #[.map (some (w.heap.size + 1))] 67)) (.map #[] 0)
  simpa using this

theorem st_upd {w W W2 : World} {mb : Nat} {l l2 : List (Int × Ent)} (h : St w W mb l) (hM : MapL encI W2 mb l2) (hv : ∀ v, W.cell? ⟨w.heap.size, 0, none⟩ = some v → W2.cell? ⟨w.heap.size, 0, none⟩ = some v) (hK : Kept (fun r => r = mb) W W2) : St w W2 mb l2 :=
  ⟨hv _ h.var, hM, h.bel.trans (hK.below (Nat.le_of_lt h.big) (fun k hk => by have := h.lt; omega)), h.lt⟩

end Go.Proofs.Ybulkcpoe
