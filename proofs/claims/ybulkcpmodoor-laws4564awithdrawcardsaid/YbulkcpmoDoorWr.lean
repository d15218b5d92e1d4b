import Derived.Test.YbulkcpmoDoorBits
namespace Go.Proofs.YbulkcpmoDoor
open Go.RowKit

/-- What the list of writes says of a cell: the latest stands first. -/
def look : List (Addr × Value) → Addr → Option Value
  | [], _ => none
  | p :: L, a => if p.1 = a then some p.2 else look L a

theorem look_hit (a : Addr) (v : Value) (L : List (Addr × Value)) : look ((a, v) :: L) a = some v := if_pos rfl
theorem look_miss {a b : Addr} (v : Value) (L : List (Addr × Value)) (h : b ≠ a) : look ((b, v) :: L) a = look L a := if_neg h
theorem look_append (L M : List (Addr × Value)) (a : Addr) : look (L ++ M) a = (look L a).or (look M a) := by
  induction L with
  | nil => rfl
  | cons p L ih =>
    by_cases h : p.1 = a
    · simp [look, h]
    · simp [look, h, ih]

/-- w' is w with the writes L, and new blocks. -/
structure Wr (L : List (Addr × Value)) (w w' : World) : Prop where
  os : w'.os = w.os
  tape : w'.tape = w.tape
  output : w'.output = w.output
  size : w.heap.size ≤ w'.heap.size
  cell : ∀ a, a.block < w.heap.size → w'.cell? a = (look L a).or (w.cell? a)
  froz : ∀ a, a.block < w.heap.size → w'.frozen? a = w.frozen? a
  keep : ∀ k, k < w.heap.size → (∀ p ∈ L, p.1.block ≠ k) → w'.heap[k]? = w.heap[k]?

theorem Wr.refl (w : World) : Wr [] w w := ⟨rfl, rfl, rfl, Nat.le_refl _, fun _ _ => rfl, fun _ _ => rfl, fun _ _ _ => rfl⟩

theorem Wr.of_below {w w' : World} (h : Below w.heap.size w w') : Wr [] w w' :=
  ⟨h.os, h.tape, h.output, h.size, fun _ ha => h.cell ha, fun _ ha => h.frozen ha, fun k hk _ => h.block k hk⟩

theorem Wr.trans {L M : List (Addr × Value)} {a b c : World} (h : Wr L a b) (k : Wr M b c) : Wr (M ++ L) a c :=
  ⟨k.os.trans h.os, k.tape.trans h.tape, k.output.trans h.output, Nat.le_trans h.size k.size,
    fun x hx => by rw [k.cell x (Nat.lt_of_lt_of_le hx h.size), h.cell x hx, look_append, Option.or_assoc],
    fun x hx => (k.froz x (Nat.lt_of_lt_of_le hx h.size)).trans (h.froz x hx),
    fun n hn hp => (k.keep n (Nat.lt_of_lt_of_le hn h.size) (fun p hp' => hp p (List.mem_append_left _ hp'))).trans (h.keep n hn (fun p hp' => hp p (List.mem_append_right _ hp')))⟩

theorem Wr.alloc {L : List (Addr × Value)} {a w : World} (h : Wr L a w) (o : Obj) : Wr L a (w.alloc o) :=
  h.trans (Wr.of_below ((Below.refl _ _).alloc (Nat.le_refl _) o))

theorem Wr.drew {L : List (Addr × Value)} {a w : World} (h : Wr L a w) : Wr L a w.drew := ⟨h.os, h.tape, h.output, h.size, h.cell, h.froz, h.keep⟩

theorem Wr.drewN {L : List (Addr × Value)} {a w : World} (h : Wr L a w) (q : Nat) : Wr L a (w.drewN q) := ⟨h.os, h.tape, h.output, h.size, h.cell, h.froz, h.keep⟩

theorem Wr.one {w : World} {a : Addr} {u : Value} (hc : w.cell? a = some u) (v : Value) : Wr [(a, v)] w (w.setCell a v) :=
  have h0 : Below 0 w (w.setCell a v) := (Below.refl 0 w).setCell (Nat.zero_le _) v
  ⟨h0.os, h0.tape, h0.output, h0.size, fun x _ => by
    by_cases hx : a = x
    · subst hx
      rw [World.cell?_setCell_same _ _ _ hc]
      simp [look]
    · rw [World.cell?_setCell_other _ _ _ _ hx]
      simp [look, hx],
    fun x _ => by simp,
    fun k _ hp => Below.heap_setCell _ _ _ _ (fun e => hp (a, v) (List.mem_singleton.2 rfl) e.symm)⟩

theorem Wr.set {L : List (Addr × Value)} {a w : World} (h : Wr L a w) {x : Addr} {u : Value} (hc : w.cell? x = some u) (v : Value) : Wr ((x, v) :: L) a (w.setCell x v) := h.trans (Wr.one hc v)

theorem Wr.hit {L : List (Addr × Value)} {w w' : World} (h : Wr L w w') {a : Addr} {u v : Value} (hc : w.cell? a = some u) (hl : look L a = some v) : w'.cell? a = some v := by
  rw [h.cell a (World.block_lt_of_cell? _ _ hc), hl]; rfl

theorem Wr.miss {L : List (Addr × Value)} {w w' : World} (h : Wr L w w') {a : Addr} {u : Value} (hc : w.cell? a = some u) (hl : look L a = none) : w'.cell? a = some u := by
  rw [h.cell a (World.block_lt_of_cell? _ _ hc), hl, hc]; rfl

theorem Wr.below {L : List (Addr × Value)} {w w' : World} (h : Wr L w w') {B : Nat} (hB : B ≤ w.heap.size) (hL : ∀ p ∈ L, B ≤ p.1.block) : Below B w w' :=
  ⟨h.os, h.tape, h.output, h.size, fun k hk => h.keep k (by omega) (fun p hp e => by have := hL p hp; omega)⟩
end Go.Proofs.YbulkcpmoDoor
