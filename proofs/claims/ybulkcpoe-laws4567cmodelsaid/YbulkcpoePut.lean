import Derived.Test.YbulkcpoeMap
import Derived.Laws.ResultCell
import Derived.Deep.RegionHeld
namespace Go.Proofs.Ybulkcpoe
open Go.RowKit Go.MapKept
set_option linter.unusedSimpArgs false

theorem isnil80 (w : World) (r : Option Nat) : (binOp .eql 80 (.map r) (.map none)).run Yba.prog w = .ok (.bool r.isNone) w := run_eql_map_nil (P := Yba.prog) w 80 _ _ r Yba.underlying80
theorem isnil67 (w : World) (r : Option Nat) : (binOp .eql 67 (.map r) (.map none)).run Yba.prog w = .ok (.bool r.isNone) w := run_eql_map_nil (P := Yba.prog) w 67 _ _ r Yba.underlying67

theorem zero74 (w : World) : (zeroValue 74).run Yba.prog w = .ok (.agg (entC zeroE)) w := by kernel_rfl

theorem ent_makes (p t0 t1 : Int) (w : World) :
    Calls Yba.prog 9 #[.int .u32 p, .int .u32 t0, .int .u32 t1] w fun e w' => e = .returned (.agg #[.int .u32 p, .int .u32 t0, .int .u32 t1]) ∧ w' = w.alloc (.cells #[.int .u32 p, .int .u32 t0, .int .u32 t1] 74) := by
  go_enter Yba.func9, Yba.ntmps9
  go_wp2
  exact bodyPost_ret (v := .agg #[.int .u32 p, .int .u32 t0, .int .u32 t1]) (by simp [results, Yba.results9, go_sem]) rfl ⟨rfl, rfl⟩

theorem MapL.lt {κ : Type} {enc : κ → Value} {W : World} {b : Nat} {l : List (κ × Ent)} (h : MapL enc W b l) : b < W.heap.size := by
  obtain ⟨es, clk, h1, -⟩ := h
  exact (Array.getElem?_eq_some_iff.1 h1).1

/-- Two blocks more: those that were there are as they were. -/
theorem heap_two (w : World) (A B : Obj) (r : Nat) (h : r < w.heap.size) : ((w.alloc A).alloc B).heap[r]? = w.heap[r]? := by
  show ((w.heap.push A).push B)[r]? = _
  simp only [Array.getElem?_push, Array.size_push]
  rw [if_neg (by omega), if_neg (by omega)]

/-- The blocks that were there, but those in X, are as they were. -/
structure Kept (X : Nat → Prop) (w w' : World) : Prop where
  os : w'.os = w.os
  tape : w'.tape = w.tape
  output : w'.output = w.output
  size : w.heap.size ≤ w'.heap.size
  block : ∀ k, k < w.heap.size → ¬ X k → w'.heap[k]? = w.heap[k]?

theorem Kept.below {X : Nat → Prop} {w w' : World} (h : Kept X w w') {B : Nat} (hB : B ≤ w.heap.size) (hX : ∀ k, X k → B ≤ k) : Below B w w' :=
  ⟨h.os, h.tape, h.output, h.size, fun k hk => h.block k (by omega) (fun hx => by have := hX k hx; omega)⟩

theorem Kept.of_below {X : Nat → Prop} {w w' : World} (h : Below w.heap.size w w') : Kept X w w' := ⟨h.os, h.tape, h.output, h.size, fun k hk _ => h.block k hk⟩

theorem Kept.set {X : Nat → Prop} {w W : World} (h : Kept X w W) {mb : Nat} (hX : X mb ∨ w.heap.size ≤ mb) (o : Obj) : Kept X w { W with heap := W.heap.setIfInBounds mb o } :=
  ⟨h.os, h.tape, h.output, by simpa using h.size, fun k hk hx => by
    have hne : mb ≠ k := fun e => by subst e; rcases hX with h | h; exact hx h; omega
    show (W.heap.setIfInBounds mb o)[k]? = _
    rw [Array.getElem?_setIfInBounds_ne hne]
    exact h.block k hk hx⟩

theorem Kept.setCell {X : Nat → Prop} {w W : World} (h : Kept X w W) {a : Addr} (hX : X a.block ∨ w.heap.size ≤ a.block) (u : Value) : Kept X w (W.setCell a u) :=
  have hb := fun k (hk : k ≠ a.block) => Below.heap_setCell W a u k hk
  have h0 : Below 0 W (W.setCell a u) := (Below.refl 0 W).setCell (Nat.zero_le _) u
  ⟨h0.os.trans h.os, h0.tape.trans h.tape, h0.output.trans h.output, Nat.le_trans h.size h0.size, fun k hk hx => by
    rw [hb k (fun e => by subst e; rcases hX with h | h; exact hx h; omega)]
    exact h.block k hk hx⟩

theorem Kept.alloc {X : Nat → Prop} {w W : World} (h : Kept X w W) (o : Obj) : Kept X w (W.alloc o) :=
  have h0 : Below W.heap.size W (W.alloc o) := (Below.refl _ _).alloc (Nat.le_refl _) o
  ⟨h0.os.trans h.os, h0.tape.trans h.tape, h0.output.trans h.output, Nat.le_trans h.size h0.size, fun k hk hx => (h0.block k (Nat.lt_of_lt_of_le hk h.size)).trans (h.block k hk hx)⟩

theorem Kept.refl (X : Nat → Prop) (w : World) : Kept X w w := ⟨rfl, rfl, rfl, Nat.le_refl _, fun _ _ _ => rfl⟩

theorem Kept.drew {X : Nat → Prop} {w W : World} (h : Kept X w W) : Kept X w W.drew := ⟨h.os, h.tape, h.output, h.size, h.block⟩

theorem setMap_cell (W : World) (mb : Nat) (o : Obj) (es : Array MapEntry) (clk : Nat) (h : W.heap[mb]? = some (.map es clk)) (a : Addr) (v : Value) (hv : W.cell? a = some v) :
    ({ W with heap := W.heap.setIfInBounds mb o } : World).cell? a = some v ∧ ({ W with heap := W.heap.setIfInBounds mb o } : World).frozen? a = W.frozen? a := by
  have hne : mb ≠ a.block := fun e => by
    subst e
    simp [World.cell?, h] at hv
  have hb : ({ W with heap := W.heap.setIfInBounds mb o } : World).heap[a.block]? = W.heap[a.block]? := by
    show (W.heap.setIfInBounds mb o)[a.block]? = _
    rw [Array.getElem?_setIfInBounds_ne hne]
  exact ⟨(World.cell?_of_block (w := W) hb).trans hv, World.frozen?_of_block (w := W) hb⟩

theorem MapL.upd {κ : Type} [DecidableEq κ] {enc : κ → Value} {d : TypeDesc} (K : Keys enc d) {P : Program} {mt kt et : TypeId} {W : World} {b : Nat} {l : List (κ × Ent)} (h : MapL enc W b l) (hm : P.underlying mt = some (.map kt et)) (hd : P.underlying kt = some d)
    (k : κ) (e : Ent) :
    ∃ W', (Instr.mapUpdate mt (.map (some b)) (enc k) (.agg (entC e))).run P W = .ok () W' ∧ MapL enc W' b (put l k e) ∧ (∀ a v, W.cell? a = some v → W'.cell? a = some v ∧ W'.frozen? a = W.frozen? a) ∧ W'.heap.size = W.heap.size ∧ (∀ X w, Kept X w W → (X b ∨ w.heap.size ≤ b) → Kept X w W') := by
  obtain ⟨es, clk, h1, h2⟩ := h.update K hm hd k e
  obtain ⟨es0, clk0, h0, -⟩ := h
  exact ⟨_, h1, h2, setMap_cell W b _ es0 clk0 h0, by simp, fun X w hK hX => hK.set hX _⟩

set_option maxRecDepth 100000 in
set_option maxHeartbeats 1000000 in
/-- 'putEntry' at a map that is there. -/
theorem putS_some (b0 mb : Nat) (l : List (ByteArray × Ent)) (k : ByteArray) (e : Ent) (w : World) (hM : MapL (fun s : ByteArray => Value.string s) w mb l) (hb : w.cell? ⟨b0, 0, none⟩ = some (.map (some mb))) :
    Calls Yba.prog 11 #[.pointer (some ⟨b0, 0, none⟩), Value.string k, .agg (entC e)] w fun x w' => x = .returned (.tuple #[.agg (entC ((assoc l k).getD zeroE)), .bool (assoc l k).isSome]) ∧
       MapL (fun s : ByteArray => Value.string s) w' mb (put l k e) ∧ Kept (fun r => r = mb) w w' := by
  have hn := isnil80
  have hb0 : b0 < w.heap.size := World.block_lt_of_cell? _ _ hb
  have hlk : ∀ A B, (Instr.lookup 80 (.map (some mb)) (Value.string k) true).run Yba.prog ((w.alloc A).alloc B) = .ok (.tuple #[.agg (entC ((assoc l k).getD zeroE)), .bool (assoc l k).isSome]) ((w.alloc A).alloc B) := fun A B =>
    MapL.look keysS (hM.of_block (heap_two w A B mb hM.lt)) Yba.underlying80 Yba.underlying9 zero74 k
  have HM : Hid (MapL (fun s : ByteArray => Value.string s) w mb l) := hM
  clear hM
  generalize hh : (assoc l k).getD zeroE = h at hlk ⊢
  generalize ho : (assoc l k).isSome = ok at hlk ⊢
  unfold entC at hlk ⊢
  obtain ⟨h0, h1, h2⟩ := h
  obtain ⟨W2, hup, hM2, hC2, hS2, hK2⟩ := MapL.upd keysS (W := ((w.alloc (Obj.cells #[Value.int IntKind.u32 e.fst, Value.int IntKind.u32 e.snd.fst, Value.int IntKind.u32 e.snd.snd] 74)).alloc (Obj.cells #[Value.int IntKind.u32 h0, Value.int IntKind.u32 h1, Value.int IntKind.u32 h2] 74)).drew) (HM.out.of_block (heap_two w _ _ mb HM.out.lt)) Yba.underlying80 Yba.underlying9 k e
  obtain ⟨r0, f0⟩ := hC2 ⟨w.heap.size + 1, 0, none⟩ (.int .u32 h0) (by go_simp)
  replace f0 : W2.frozen? ⟨w.heap.size + 1, 0, none⟩ = false := f0.trans (by go_simp)
  obtain ⟨r1, f1⟩ := hC2 ⟨w.heap.size + 1, 1, none⟩ (.int .u32 h1) (by go_simp)
  replace f1 : W2.frozen? ⟨w.heap.size + 1, 1, none⟩ = false := f1.trans (by go_simp)
  obtain ⟨r2, f2⟩ := hC2 ⟨w.heap.size + 1, 2, none⟩ (.int .u32 h2) (by go_simp)
  replace f2 : W2.frozen? ⟨w.heap.size + 1, 2, none⟩ = false := f2.trans (by go_simp)
  have rb := (hC2 ⟨b0, 0, none⟩ (.map (some mb)) (by go_simp)).1
  have p0 := (hC2 ⟨w.heap.size, 0, none⟩ (.int .u32 e.1) (by go_simp)).1
  have p1 := (hC2 ⟨w.heap.size, 1, none⟩ (.int .u32 e.2.1) (by go_simp)).1
  have p2 := (hC2 ⟨w.heap.size, 2, none⟩ (.int .u32 e.2.2) (by go_simp)).1
  have HK2 : Hid (Kept (fun r => r = mb) w W2) := hK2 _ _ (Kept.drew (Kept.of_below (((Below.refl _ _).alloc (Nat.le_refl _) _).alloc (by simp) _))) (.inl rfl)
  have HU : Hid (_ = _) := hup
  have HM2 : Hid (MapL _ _ _ _) := hM2
  have HR : Hid ((W2.cell? ⟨w.heap.size + 1, 0, none⟩ = some (.int .u32 h0) ∧ W2.cell? ⟨w.heap.size + 1, 1, none⟩ = some (.int .u32 h1) ∧ W2.cell? ⟨w.heap.size + 1, 2, none⟩ = some (.int .u32 h2)) ∧ (W2.frozen? ⟨w.heap.size + 1, 0, none⟩ = false ∧ W2.frozen? ⟨w.heap.size + 1, 1, none⟩ = false ∧ W2.frozen? ⟨w.heap.size + 1, 2, none⟩ = false) ∧ W2.cell? ⟨b0, 0, none⟩ = some (.map (some mb)) ∧ W2.cell? ⟨w.heap.size, 0, none⟩ = some (.int .u32 e.1) ∧ W2.cell? ⟨w.heap.size, 1, none⟩ = some (.int .u32 e.2.1) ∧ W2.cell? ⟨w.heap.size, 2, none⟩ = some (.int .u32 e.2.2)) := ⟨⟨r0, r1, r2⟩, ⟨f0, f1, f2⟩, rb, p0, p1, p2⟩
  clear hup hM2 hC2 hK2 r0 r1 r2 f0 f1 f2 rb p0 p1 p2 hS2
  go_enter Yba.func11, Yba.ntmps11
  go_wp2_with fail
  clear hlk
  refine wp_region_held_drew (S := fun W => W.cell? ⟨b0, 0, none⟩ = some (.map (some mb)) ∧ W.cell? ⟨w.heap.size, 0, none⟩ = some (.int .u32 e.1) ∧ W.cell? ⟨w.heap.size, 1, none⟩ = some (.int .u32 e.2.1) ∧ W.cell? ⟨w.heap.size, 2, none⟩ = some (.int .u32 e.2.2)) (by kernel_rfl) ?_ (fun hHeld => ?_)
  · go_simp
  refine wpAnyH_take (i := 0) (oi := _) (v := .pointer (some ⟨b0, 0, none⟩)) rfl (by kernel_rfl) (by kernel_rfl) (by kernel_rfl) (fun _ _ _ h => h) (Or.inl ⟨by rfl, fun w hS => by go_simp⟩) (by assumption) ?_
  simp only [Act.put, List.setIfInBounds_toArray, List.set_cons_zero, List.set_cons_succ]
  refine wpAnyH_take (i := 1) (oi := _) (v := .pointer (some ⟨b0, 0, none⟩)) rfl (by kernel_rfl) (by kernel_rfl) (by kernel_rfl) (fun _ _ _ h => h) (Or.inl ⟨by rfl, fun w hS => by go_simp⟩) (by assumption) ?_
  simp only [Act.put, List.setIfInBounds_toArray, List.set_cons_zero, List.set_cons_succ]
  refine wpAnyH_take (i := 2) (oi := _) (v := .map (some mb)) rfl (by kernel_rfl) (by kernel_rfl) (by kernel_rfl) (fun _ _ _ h => h) (Or.inl ⟨by rfl, fun w hS => by go_simp⟩) (by assumption) ?_
  simp only [Act.put, List.setIfInBounds_toArray, List.set_cons_zero, List.set_cons_succ]
  refine wpAnyH_take (i := 3) (oi := _) (v := Value.string k) rfl (by kernel_rfl) (by kernel_rfl) (by kernel_rfl) (fun _ _ _ h => h) (Or.inl ⟨by rfl, fun w hS => by go_simp⟩) (by assumption) ?_
  simp only [Act.put, List.setIfInBounds_toArray, List.set_cons_zero, List.set_cons_succ]
  refine wpAnyH_take (i := 4) (oi := _) (v := .agg #[.int .u32 e.1, .int .u32 e.2.1, .int .u32 e.2.2]) rfl (by kernel_rfl) (by kernel_rfl) (by kernel_rfl) (fun _ _ _ h => h) (Or.inl ⟨by rfl, fun w hS => by go_simp⟩) (by assumption) ?_
  simp only [Act.put, List.setIfInBounds_toArray, List.set_cons_zero, List.set_cons_succ]
  refine wpAnyH_ready (rs := [5]) (by kernel_rfl) (by simp) ?_
  refine AllReadyH.cons (o := _) rfl (fun K hK => ?_) AllReadyH.nil
  have hup := HU.out
  unfold entC at hup
  go_simp
  clear hup
  refine hK.out _ _ HR.out.2.2 (fun _ => ?_)
  obtain ⟨⟨r0, r1, r2⟩, ⟨f0, f1, f2⟩, -⟩ := HR.out
  clear hK K hHeld
  refine wpAnyH_done (by kernel_rfl) ?_ _
  go_wp2_with fail
  have hlt := HM.out.lt
  refine bodyPost_ret (v := .tuple #[.agg #[.int .u32 h0, .int .u32 h1, .int .u32 h2], .bool ok]) (by simp [results, Yba.results11, go_sem, r0, r1, r2]) rfl ⟨rfl, ?_, ?_⟩
  · exact HM2.out.of_block (((Below.heap_setCell _ _ _ _ (by show mb ≠ w.heap.size + 1; omega)).trans (Below.heap_setCell _ _ _ _ (by show mb ≠ w.heap.size + 1; omega))).trans (Below.heap_setCell _ _ _ _ (by show mb ≠ w.heap.size + 1; omega)))
  · exact ((HK2.out.setCell (a := ⟨w.heap.size + 1, 0, none⟩) (.inr (by simp)) _).setCell (a := ⟨w.heap.size + 1, 1, none⟩) (.inr (by simp)) _).setCell (a := ⟨w.heap.size + 1, 2, none⟩) (.inr (by simp)) _

set_option maxRecDepth 100000 in
set_option maxHeartbeats 1000000 in
/-- 'putEntry' at a nil map. -/
theorem putS_nil (b0 : Nat) (k : ByteArray) (e : Ent) (w : World) (hb : w.cell? ⟨b0, 0, none⟩ = some (.map none)) (hf : w.frozen? ⟨b0, 0, none⟩ = false) :
    Calls Yba.prog 11 #[.pointer (some ⟨b0, 0, none⟩), Value.string k, .agg (entC e)] w fun x w' => x = .returned (.tuple #[.agg (entC zeroE), .bool false]) ∧
       ∃ mb, w.heap.size ≤ mb ∧ w'.cell? ⟨b0, 0, none⟩ = some (.map (some mb)) ∧ MapL (fun s : ByteArray => Value.string s) w' mb [(k, e)] ∧ Kept (fun r => r = b0) w w' := by
  have hn := isnil80
  have hmk := fun w t => run_makeMap (P := Yba.prog) w t
  have hb0 : b0 < w.heap.size := World.block_lt_of_cell? _ _ hb
  have hb1 : b0 < w.heap.size + 1 := by omega
  have hb2 : b0 < w.heap.size + 1 + 1 := by omega
  have hsz : (w.setCell ⟨b0, 0, none⟩ (.map (some (w.heap.size + 1 + 1)))).heap.size = w.heap.size := by simp
  have hE : MapL (fun s : ByteArray => Value.string s) ((((w.setCell ⟨b0, 0, none⟩ (.map (some (w.heap.size + 1 + 1)))).alloc (Obj.cells #[Value.int IntKind.u32 e.fst, Value.int IntKind.u32 e.snd.fst, Value.int IntKind.u32 e.snd.snd] 74)).alloc (Obj.cells #[Value.int IntKind.u32 0, Value.int IntKind.u32 0, Value.int IntKind.u32 0] 74)).alloc (Obj.map #[] 0)) (w.heap.size + 1 + 1) ([] : List (ByteArray × Ent)) := by
    refine MapL.empty ?_
    have := heap_alloc_new (((w.setCell ⟨b0, 0, none⟩ (.map (some (w.heap.size + 1 + 1)))).alloc (Obj.cells #[Value.int IntKind.u32 e.fst, Value.int IntKind.u32 e.snd.fst, Value.int IntKind.u32 e.snd.snd] 74)).alloc (Obj.cells #[Value.int IntKind.u32 0, Value.int IntKind.u32 0, Value.int IntKind.u32 0] 74)) (Obj.map #[] 0)
    simpa using this
  have hlk := MapL.look keysS hE Yba.underlying80 Yba.underlying9 zero74 k
  obtain ⟨W2, hup, hM2, hC2, hS2, hK2⟩ := MapL.upd keysS (W := ((((w.setCell ⟨b0, 0, none⟩ (.map (some (w.heap.size + 1 + 1)))).alloc (Obj.cells #[Value.int IntKind.u32 e.fst, Value.int IntKind.u32 e.snd.fst, Value.int IntKind.u32 e.snd.snd] 74)).alloc (Obj.cells #[Value.int IntKind.u32 0, Value.int IntKind.u32 0, Value.int IntKind.u32 0] 74)).alloc (Obj.map #[] 0)).drew) hE Yba.underlying80 Yba.underlying9 k e
  obtain ⟨r0, f0⟩ := hC2 ⟨w.heap.size + 1, 0, none⟩ (.int .u32 0) (by go_simp)
  replace f0 : W2.frozen? ⟨w.heap.size + 1, 0, none⟩ = false := f0.trans (by go_simp)
  obtain ⟨r1, f1⟩ := hC2 ⟨w.heap.size + 1, 1, none⟩ (.int .u32 0) (by go_simp)
  replace f1 : W2.frozen? ⟨w.heap.size + 1, 1, none⟩ = false := f1.trans (by go_simp)
  obtain ⟨r2, f2⟩ := hC2 ⟨w.heap.size + 1, 2, none⟩ (.int .u32 0) (by go_simp)
  replace f2 : W2.frozen? ⟨w.heap.size + 1, 2, none⟩ = false := f2.trans (by go_simp)
  have rb := (hC2 ⟨b0, 0, none⟩ (.map (some (w.heap.size + 1 + 1))) (by go_simp)).1
  have p0 := (hC2 ⟨w.heap.size, 0, none⟩ (.int .u32 e.1) (by go_simp)).1
  have p1 := (hC2 ⟨w.heap.size, 1, none⟩ (.int .u32 e.2.1) (by go_simp)).1
  have p2 := (hC2 ⟨w.heap.size, 2, none⟩ (.int .u32 e.2.2) (by go_simp)).1
  have HK2 : Hid (Kept (fun r => r = b0) w W2) := hK2 _ _ (Kept.drew (((((Kept.refl (fun r => r = b0) w).setCell (a := ⟨b0, 0, none⟩) (.inl rfl) _).alloc _).alloc _).alloc _)) (.inr (by omega))
  have HU : Hid (_ = _) := hup
  have HM2 : Hid (MapL _ _ _ _) := hM2
  have HR : Hid ((W2.cell? ⟨w.heap.size + 1, 0, none⟩ = some (.int .u32 0) ∧ W2.cell? ⟨w.heap.size + 1, 1, none⟩ = some (.int .u32 0) ∧ W2.cell? ⟨w.heap.size + 1, 2, none⟩ = some (.int .u32 0)) ∧ (W2.frozen? ⟨w.heap.size + 1, 0, none⟩ = false ∧ W2.frozen? ⟨w.heap.size + 1, 1, none⟩ = false ∧ W2.frozen? ⟨w.heap.size + 1, 2, none⟩ = false) ∧ W2.cell? ⟨b0, 0, none⟩ = some (.map (some (w.heap.size + 1 + 1))) ∧ W2.cell? ⟨w.heap.size, 0, none⟩ = some (.int .u32 e.1) ∧ W2.cell? ⟨w.heap.size, 1, none⟩ = some (.int .u32 e.2.1) ∧ W2.cell? ⟨w.heap.size, 2, none⟩ = some (.int .u32 e.2.2)) := ⟨⟨r0, r1, r2⟩, ⟨f0, f1, f2⟩, rb, p0, p1, p2⟩
  clear hup hM2 hC2 hK2 r0 r1 r2 f0 f1 f2 rb p0 p1 p2 hS2 hE hsz
  simp only [assoc, Option.getD_none, Option.isSome_none] at hlk
  unfold entC zeroE at hlk
  unfold entC zeroE
  go_enter Yba.func11, Yba.ntmps11
  go_wp2_with fail
  clear hlk
  refine wp_region_held_drew (S := fun W => W.cell? ⟨b0, 0, none⟩ = some (.map (some (w.heap.size + 1 + 1))) ∧ W.cell? ⟨w.heap.size, 0, none⟩ = some (.int .u32 e.1) ∧ W.cell? ⟨w.heap.size, 1, none⟩ = some (.int .u32 e.2.1) ∧ W.cell? ⟨w.heap.size, 2, none⟩ = some (.int .u32 e.2.2)) (by kernel_rfl) ?_ (fun hHeld => ?_)
  · go_simp
  refine wpAnyH_take (i := 0) (oi := _) (v := .pointer (some ⟨b0, 0, none⟩)) rfl (by kernel_rfl) (by kernel_rfl) (by kernel_rfl) (fun _ _ _ h => h) (Or.inl ⟨by rfl, fun w hS => by go_simp⟩) (by assumption) ?_
  simp only [Act.put, List.setIfInBounds_toArray, List.set_cons_zero, List.set_cons_succ]
  refine wpAnyH_take (i := 1) (oi := _) (v := .pointer (some ⟨b0, 0, none⟩)) rfl (by kernel_rfl) (by kernel_rfl) (by kernel_rfl) (fun _ _ _ h => h) (Or.inl ⟨by rfl, fun w hS => by go_simp⟩) (by assumption) ?_
  simp only [Act.put, List.setIfInBounds_toArray, List.set_cons_zero, List.set_cons_succ]
  refine wpAnyH_take (i := 2) (oi := _) (v := .map (some (w.heap.size + 1 + 1))) rfl (by kernel_rfl) (by kernel_rfl) (by kernel_rfl) (fun _ _ _ h => h) (Or.inl ⟨by rfl, fun w hS => by go_simp⟩) (by assumption) ?_
  simp only [Act.put, List.setIfInBounds_toArray, List.set_cons_zero, List.set_cons_succ]
  refine wpAnyH_take (i := 3) (oi := _) (v := Value.string k) rfl (by kernel_rfl) (by kernel_rfl) (by kernel_rfl) (fun _ _ _ h => h) (Or.inl ⟨by rfl, fun w hS => by go_simp⟩) (by assumption) ?_
  simp only [Act.put, List.setIfInBounds_toArray, List.set_cons_zero, List.set_cons_succ]
  refine wpAnyH_take (i := 4) (oi := _) (v := .agg #[.int .u32 e.1, .int .u32 e.2.1, .int .u32 e.2.2]) rfl (by kernel_rfl) (by kernel_rfl) (by kernel_rfl) (fun _ _ _ h => h) (Or.inl ⟨by rfl, fun w hS => by go_simp⟩) (by assumption) ?_
  simp only [Act.put, List.setIfInBounds_toArray, List.set_cons_zero, List.set_cons_succ]
  refine wpAnyH_ready (rs := [5]) (by kernel_rfl) (by simp) ?_
  refine AllReadyH.cons (o := _) rfl (fun K hK => ?_) AllReadyH.nil
  have hup := HU.out
  unfold entC at hup
  go_simp
  clear hup
  refine hK.out _ _ HR.out.2.2 (fun _ => ?_)
  obtain ⟨⟨r0, r1, r2⟩, ⟨f0, f1, f2⟩, -⟩ := HR.out
  clear hK K hHeld
  refine wpAnyH_done (by kernel_rfl) ?_ _
  go_wp2_with fail
  refine bodyPost_ret (v := .tuple #[.agg #[.int .u32 0, .int .u32 0, .int .u32 0], .bool false]) (by simp [results, Yba.results11, go_sem, r0, r1, r2]) rfl ⟨rfl, w.heap.size + 1 + 1, by omega, ?_, ?_, ?_⟩
  · have := HR.out.2.2.1
    rw [World.cell?_setCell_other _ _ _ _ (by simp), World.cell?_setCell_other _ _ _ _ (by simp), World.cell?_setCell_other _ _ _ _ (by simp)]
    exact this
  · exact HM2.out.of_block (((Below.heap_setCell _ _ _ _ (by show w.heap.size + 1 + 1 ≠ w.heap.size + 1; omega)).trans (Below.heap_setCell _ _ _ _ (by show w.heap.size + 1 + 1 ≠ w.heap.size + 1; omega))).trans (Below.heap_setCell _ _ _ _ (by show w.heap.size + 1 + 1 ≠ w.heap.size + 1; omega)))
  · exact ((HK2.out.setCell (a := ⟨w.heap.size + 1, 0, none⟩) (.inr (by simp)) _).setCell (a := ⟨w.heap.size + 1, 1, none⟩) (.inr (by simp)) _).setCell (a := ⟨w.heap.size + 1, 2, none⟩) (.inr (by simp)) _

set_option maxRecDepth 100000 in
set_option maxHeartbeats 1000000 in
/-- 'putEntry' at a map that is there. -/
theorem putI_some (b0 mb : Nat) (l : List (Int × Ent)) (k : Int) (e : Ent) (w : World) (hM : MapL (fun n : Int => Value.int .i32 n) w mb l) (hb : w.cell? ⟨b0, 0, none⟩ = some (.map (some mb))) :
    Calls Yba.prog 10 #[.pointer (some ⟨b0, 0, none⟩), Value.int .i32 k, .agg (entC e)] w fun x w' => x = .returned (.tuple #[.agg (entC ((assoc l k).getD zeroE)), .bool (assoc l k).isSome]) ∧
       MapL (fun n : Int => Value.int .i32 n) w' mb (put l k e) ∧ Kept (fun r => r = mb) w w' := by
  have hn := isnil67
  have hb0 : b0 < w.heap.size := World.block_lt_of_cell? _ _ hb
  have hlk : ∀ A B, (Instr.lookup 67 (.map (some mb)) (Value.int .i32 k) true).run Yba.prog ((w.alloc A).alloc B) = .ok (.tuple #[.agg (entC ((assoc l k).getD zeroE)), .bool (assoc l k).isSome]) ((w.alloc A).alloc B) := fun A B =>
    MapL.look keysI (hM.of_block (heap_two w A B mb hM.lt)) Yba.underlying67 Yba.underlying21 zero74 k
  have HM : Hid (MapL (fun n : Int => Value.int .i32 n) w mb l) := hM
  clear hM
  generalize hh : (assoc l k).getD zeroE = h at hlk ⊢
  generalize ho : (assoc l k).isSome = ok at hlk ⊢
  unfold entC at hlk ⊢
  obtain ⟨h0, h1, h2⟩ := h
  obtain ⟨W2, hup, hM2, hC2, hS2, hK2⟩ := MapL.upd keysI (W := ((w.alloc (Obj.cells #[Value.int IntKind.u32 e.fst, Value.int IntKind.u32 e.snd.fst, Value.int IntKind.u32 e.snd.snd] 74)).alloc (Obj.cells #[Value.int IntKind.u32 h0, Value.int IntKind.u32 h1, Value.int IntKind.u32 h2] 74)).drew) (HM.out.of_block (heap_two w _ _ mb HM.out.lt)) Yba.underlying67 Yba.underlying21 k e
  obtain ⟨r0, f0⟩ := hC2 ⟨w.heap.size + 1, 0, none⟩ (.int .u32 h0) (by go_simp)
  replace f0 : W2.frozen? ⟨w.heap.size + 1, 0, none⟩ = false := f0.trans (by go_simp)
  obtain ⟨r1, f1⟩ := hC2 ⟨w.heap.size + 1, 1, none⟩ (.int .u32 h1) (by go_simp)
  replace f1 : W2.frozen? ⟨w.heap.size + 1, 1, none⟩ = false := f1.trans (by go_simp)
  obtain ⟨r2, f2⟩ := hC2 ⟨w.heap.size + 1, 2, none⟩ (.int .u32 h2) (by go_simp)
  replace f2 : W2.frozen? ⟨w.heap.size + 1, 2, none⟩ = false := f2.trans (by go_simp)
  have rb := (hC2 ⟨b0, 0, none⟩ (.map (some mb)) (by go_simp)).1
  have p0 := (hC2 ⟨w.heap.size, 0, none⟩ (.int .u32 e.1) (by go_simp)).1
  have p1 := (hC2 ⟨w.heap.size, 1, none⟩ (.int .u32 e.2.1) (by go_simp)).1
  have p2 := (hC2 ⟨w.heap.size, 2, none⟩ (.int .u32 e.2.2) (by go_simp)).1
  have HK2 : Hid (Kept (fun r => r = mb) w W2) := hK2 _ _ (Kept.drew (Kept.of_below (((Below.refl _ _).alloc (Nat.le_refl _) _).alloc (by simp) _))) (.inl rfl)
  have HU : Hid (_ = _) := hup
  have HM2 : Hid (MapL _ _ _ _) := hM2
  have HR : Hid ((W2.cell? ⟨w.heap.size + 1, 0, none⟩ = some (.int .u32 h0) ∧ W2.cell? ⟨w.heap.size + 1, 1, none⟩ = some (.int .u32 h1) ∧ W2.cell? ⟨w.heap.size + 1, 2, none⟩ = some (.int .u32 h2)) ∧ (W2.frozen? ⟨w.heap.size + 1, 0, none⟩ = false ∧ W2.frozen? ⟨w.heap.size + 1, 1, none⟩ = false ∧ W2.frozen? ⟨w.heap.size + 1, 2, none⟩ = false) ∧ W2.cell? ⟨b0, 0, none⟩ = some (.map (some mb)) ∧ W2.cell? ⟨w.heap.size, 0, none⟩ = some (.int .u32 e.1) ∧ W2.cell? ⟨w.heap.size, 1, none⟩ = some (.int .u32 e.2.1) ∧ W2.cell? ⟨w.heap.size, 2, none⟩ = some (.int .u32 e.2.2)) := ⟨⟨r0, r1, r2⟩, ⟨f0, f1, f2⟩, rb, p0, p1, p2⟩
  clear hup hM2 hC2 hK2 r0 r1 r2 f0 f1 f2 rb p0 p1 p2 hS2
  go_enter Yba.func10, Yba.ntmps10
  go_wp2_with fail
  clear hlk
  refine wp_region_held_drew (S := fun W => W.cell? ⟨b0, 0, none⟩ = some (.map (some mb)) ∧ W.cell? ⟨w.heap.size, 0, none⟩ = some (.int .u32 e.1) ∧ W.cell? ⟨w.heap.size, 1, none⟩ = some (.int .u32 e.2.1) ∧ W.cell? ⟨w.heap.size, 2, none⟩ = some (.int .u32 e.2.2)) (by kernel_rfl) ?_ (fun hHeld => ?_)
  · go_simp
  refine wpAnyH_take (i := 0) (oi := _) (v := .pointer (some ⟨b0, 0, none⟩)) rfl (by kernel_rfl) (by kernel_rfl) (by kernel_rfl) (fun _ _ _ h => h) (Or.inl ⟨by rfl, fun w hS => by go_simp⟩) (by assumption) ?_
  simp only [Act.put, List.setIfInBounds_toArray, List.set_cons_zero, List.set_cons_succ]
  refine wpAnyH_take (i := 1) (oi := _) (v := .pointer (some ⟨b0, 0, none⟩)) rfl (by kernel_rfl) (by kernel_rfl) (by kernel_rfl) (fun _ _ _ h => h) (Or.inl ⟨by rfl, fun w hS => by go_simp⟩) (by assumption) ?_
  simp only [Act.put, List.setIfInBounds_toArray, List.set_cons_zero, List.set_cons_succ]
  refine wpAnyH_take (i := 2) (oi := _) (v := .map (some mb)) rfl (by kernel_rfl) (by kernel_rfl) (by kernel_rfl) (fun _ _ _ h => h) (Or.inl ⟨by rfl, fun w hS => by go_simp⟩) (by assumption) ?_
  simp only [Act.put, List.setIfInBounds_toArray, List.set_cons_zero, List.set_cons_succ]
  refine wpAnyH_take (i := 3) (oi := _) (v := Value.int .i32 k) rfl (by kernel_rfl) (by kernel_rfl) (by kernel_rfl) (fun _ _ _ h => h) (Or.inl ⟨by rfl, fun w hS => by go_simp⟩) (by assumption) ?_
  simp only [Act.put, List.setIfInBounds_toArray, List.set_cons_zero, List.set_cons_succ]
  refine wpAnyH_take (i := 4) (oi := _) (v := .agg #[.int .u32 e.1, .int .u32 e.2.1, .int .u32 e.2.2]) rfl (by kernel_rfl) (by kernel_rfl) (by kernel_rfl) (fun _ _ _ h => h) (Or.inl ⟨by rfl, fun w hS => by go_simp⟩) (by assumption) ?_
  simp only [Act.put, List.setIfInBounds_toArray, List.set_cons_zero, List.set_cons_succ]
  refine wpAnyH_ready (rs := [5]) (by kernel_rfl) (by simp) ?_
  refine AllReadyH.cons (o := _) rfl (fun K hK => ?_) AllReadyH.nil
  have hup := HU.out
  unfold entC at hup
  go_simp
  clear hup
  refine hK.out _ _ HR.out.2.2 (fun _ => ?_)
  obtain ⟨⟨r0, r1, r2⟩, ⟨f0, f1, f2⟩, -⟩ := HR.out
  clear hK K hHeld
  refine wpAnyH_done (by kernel_rfl) ?_ _
  go_wp2_with fail
  have hlt := HM.out.lt
  refine bodyPost_ret (v := .tuple #[.agg #[.int .u32 h0, .int .u32 h1, .int .u32 h2], .bool ok]) (by simp [results, Yba.results10, go_sem, r0, r1, r2]) rfl ⟨rfl, ?_, ?_⟩
  · exact HM2.out.of_block (((Below.heap_setCell _ _ _ _ (by show mb ≠ w.heap.size + 1; omega)).trans (Below.heap_setCell _ _ _ _ (by show mb ≠ w.heap.size + 1; omega))).trans (Below.heap_setCell _ _ _ _ (by show mb ≠ w.heap.size + 1; omega)))
  · exact ((HK2.out.setCell (a := ⟨w.heap.size + 1, 0, none⟩) (.inr (by simp)) _).setCell (a := ⟨w.heap.size + 1, 1, none⟩) (.inr (by simp)) _).setCell (a := ⟨w.heap.size + 1, 2, none⟩) (.inr (by simp)) _

set_option maxRecDepth 100000 in
set_option maxHeartbeats 1000000 in
/-- 'putEntry' at a nil map. -/
theorem putI_nil (b0 : Nat) (k : Int) (e : Ent) (w : World) (hb : w.cell? ⟨b0, 0, none⟩ = some (.map none)) (hf : w.frozen? ⟨b0, 0, none⟩ = false) :
    Calls Yba.prog 10 #[.pointer (some ⟨b0, 0, none⟩), Value.int .i32 k, .agg (entC e)] w fun x w' => x = .returned (.tuple #[.agg (entC zeroE), .bool false]) ∧
       ∃ mb, w.heap.size ≤ mb ∧ w'.cell? ⟨b0, 0, none⟩ = some (.map (some mb)) ∧ MapL (fun n : Int => Value.int .i32 n) w' mb [(k, e)] ∧ Kept (fun r => r = b0) w w' := by
  have hn := isnil67
  have hmk := fun w t => run_makeMap (P := Yba.prog) w t
  have hb0 : b0 < w.heap.size := World.block_lt_of_cell? _ _ hb
  have hb1 : b0 < w.heap.size + 1 := by omega
  have hb2 : b0 < w.heap.size + 1 + 1 := by omega
  have hsz : (w.setCell ⟨b0, 0, none⟩ (.map (some (w.heap.size + 1 + 1)))).heap.size = w.heap.size := by simp
  have hE : MapL (fun n : Int => Value.int .i32 n) ((((w.setCell ⟨b0, 0, none⟩ (.map (some (w.heap.size + 1 + 1)))).alloc (Obj.cells #[Value.int IntKind.u32 e.fst, Value.int IntKind.u32 e.snd.fst, Value.int IntKind.u32 e.snd.snd] 74)).alloc (Obj.cells #[Value.int IntKind.u32 0, Value.int IntKind.u32 0, Value.int IntKind.u32 0] 74)).alloc (Obj.map #[] 0)) (w.heap.size + 1 + 1) ([] : List (Int × Ent)) := by
    refine MapL.empty ?_
    have := heap_alloc_new (((w.setCell ⟨b0, 0, none⟩ (.map (some (w.heap.size + 1 + 1)))).alloc (Obj.cells #[Value.int IntKind.u32 e.fst, Value.int IntKind.u32 e.snd.fst, Value.int IntKind.u32 e.snd.snd] 74)).alloc (Obj.cells #[Value.int IntKind.u32 0, Value.int IntKind.u32 0, Value.int IntKind.u32 0] 74)) (Obj.map #[] 0)
    simpa using this
  have hlk := MapL.look keysI hE Yba.underlying67 Yba.underlying21 zero74 k
  obtain ⟨W2, hup, hM2, hC2, hS2, hK2⟩ := MapL.upd keysI (W := ((((w.setCell ⟨b0, 0, none⟩ (.map (some (w.heap.size + 1 + 1)))).alloc (Obj.cells #[Value.int IntKind.u32 e.fst, Value.int IntKind.u32 e.snd.fst, Value.int IntKind.u32 e.snd.snd] 74)).alloc (Obj.cells #[Value.int IntKind.u32 0, Value.int IntKind.u32 0, Value.int IntKind.u32 0] 74)).alloc (Obj.map #[] 0)).drew) hE Yba.underlying67 Yba.underlying21 k e
  obtain ⟨r0, f0⟩ := hC2 ⟨w.heap.size + 1, 0, none⟩ (.int .u32 0) (by go_simp)
  replace f0 : W2.frozen? ⟨w.heap.size + 1, 0, none⟩ = false := f0.trans (by go_simp)
  obtain ⟨r1, f1⟩ := hC2 ⟨w.heap.size + 1, 1, none⟩ (.int .u32 0) (by go_simp)
  replace f1 : W2.frozen? ⟨w.heap.size + 1, 1, none⟩ = false := f1.trans (by go_simp)
  obtain ⟨r2, f2⟩ := hC2 ⟨w.heap.size + 1, 2, none⟩ (.int .u32 0) (by go_simp)
  replace f2 : W2.frozen? ⟨w.heap.size + 1, 2, none⟩ = false := f2.trans (by go_simp)
  have rb := (hC2 ⟨b0, 0, none⟩ (.map (some (w.heap.size + 1 + 1))) (by go_simp)).1
  have p0 := (hC2 ⟨w.heap.size, 0, none⟩ (.int .u32 e.1) (by go_simp)).1
  have p1 := (hC2 ⟨w.heap.size, 1, none⟩ (.int .u32 e.2.1) (by go_simp)).1
  have p2 := (hC2 ⟨w.heap.size, 2, none⟩ (.int .u32 e.2.2) (by go_simp)).1
  have HK2 : Hid (Kept (fun r => r = b0) w W2) := hK2 _ _ (Kept.drew (((((Kept.refl (fun r => r = b0) w).setCell (a := ⟨b0, 0, none⟩) (.inl rfl) _).alloc _).alloc _).alloc _)) (.inr (by omega))
  have HU : Hid (_ = _) := hup
  have HM2 : Hid (MapL _ _ _ _) := hM2
  have HR : Hid ((W2.cell? ⟨w.heap.size + 1, 0, none⟩ = some (.int .u32 0) ∧ W2.cell? ⟨w.heap.size + 1, 1, none⟩ = some (.int .u32 0) ∧ W2.cell? ⟨w.heap.size + 1, 2, none⟩ = some (.int .u32 0)) ∧ (W2.frozen? ⟨w.heap.size + 1, 0, none⟩ = false ∧ W2.frozen? ⟨w.heap.size + 1, 1, none⟩ = false ∧ W2.frozen? ⟨w.heap.size + 1, 2, none⟩ = false) ∧ W2.cell? ⟨b0, 0, none⟩ = some (.map (some (w.heap.size + 1 + 1))) ∧ W2.cell? ⟨w.heap.size, 0, none⟩ = some (.int .u32 e.1) ∧ W2.cell? ⟨w.heap.size, 1, none⟩ = some (.int .u32 e.2.1) ∧ W2.cell? ⟨w.heap.size, 2, none⟩ = some (.int .u32 e.2.2)) := ⟨⟨r0, r1, r2⟩, ⟨f0, f1, f2⟩, rb, p0, p1, p2⟩
  clear hup hM2 hC2 hK2 r0 r1 r2 f0 f1 f2 rb p0 p1 p2 hS2 hE hsz
  simp only [assoc, Option.getD_none, Option.isSome_none] at hlk
  unfold entC zeroE at hlk
  unfold entC zeroE
  go_enter Yba.func10, Yba.ntmps10
  go_wp2_with fail
  clear hlk
  refine wp_region_held_drew (S := fun W => W.cell? ⟨b0, 0, none⟩ = some (.map (some (w.heap.size + 1 + 1))) ∧ W.cell? ⟨w.heap.size, 0, none⟩ = some (.int .u32 e.1) ∧ W.cell? ⟨w.heap.size, 1, none⟩ = some (.int .u32 e.2.1) ∧ W.cell? ⟨w.heap.size, 2, none⟩ = some (.int .u32 e.2.2)) (by kernel_rfl) ?_ (fun hHeld => ?_)
  · go_simp
  refine wpAnyH_take (i := 0) (oi := _) (v := .pointer (some ⟨b0, 0, none⟩)) rfl (by kernel_rfl) (by kernel_rfl) (by kernel_rfl) (fun _ _ _ h => h) (Or.inl ⟨by rfl, fun w hS => by go_simp⟩) (by assumption) ?_
  simp only [Act.put, List.setIfInBounds_toArray, List.set_cons_zero, List.set_cons_succ]
  refine wpAnyH_take (i := 1) (oi := _) (v := .pointer (some ⟨b0, 0, none⟩)) rfl (by kernel_rfl) (by kernel_rfl) (by kernel_rfl) (fun _ _ _ h => h) (Or.inl ⟨by rfl, fun w hS => by go_simp⟩) (by assumption) ?_
  simp only [Act.put, List.setIfInBounds_toArray, List.set_cons_zero, List.set_cons_succ]
  refine wpAnyH_take (i := 2) (oi := _) (v := .map (some (w.heap.size + 1 + 1))) rfl (by kernel_rfl) (by kernel_rfl) (by kernel_rfl) (fun _ _ _ h => h) (Or.inl ⟨by rfl, fun w hS => by go_simp⟩) (by assumption) ?_
  simp only [Act.put, List.setIfInBounds_toArray, List.set_cons_zero, List.set_cons_succ]
  refine wpAnyH_take (i := 3) (oi := _) (v := Value.int .i32 k) rfl (by kernel_rfl) (by kernel_rfl) (by kernel_rfl) (fun _ _ _ h => h) (Or.inl ⟨by rfl, fun w hS => by go_simp⟩) (by assumption) ?_
  simp only [Act.put, List.setIfInBounds_toArray, List.set_cons_zero, List.set_cons_succ]
  refine wpAnyH_take (i := 4) (oi := _) (v := .agg #[.int .u32 e.1, .int .u32 e.2.1, .int .u32 e.2.2]) rfl (by kernel_rfl) (by kernel_rfl) (by kernel_rfl) (fun _ _ _ h => h) (Or.inl ⟨by rfl, fun w hS => by go_simp⟩) (by assumption) ?_
  simp only [Act.put, List.setIfInBounds_toArray, List.set_cons_zero, List.set_cons_succ]
  refine wpAnyH_ready (rs := [5]) (by kernel_rfl) (by simp) ?_
  refine AllReadyH.cons (o := _) rfl (fun K hK => ?_) AllReadyH.nil
  have hup := HU.out
  unfold entC at hup
  go_simp
  clear hup
  refine hK.out _ _ HR.out.2.2 (fun _ => ?_)
  obtain ⟨⟨r0, r1, r2⟩, ⟨f0, f1, f2⟩, -⟩ := HR.out
  clear hK K hHeld
  refine wpAnyH_done (by kernel_rfl) ?_ _
  go_wp2_with fail
  refine bodyPost_ret (v := .tuple #[.agg #[.int .u32 0, .int .u32 0, .int .u32 0], .bool false]) (by simp [results, Yba.results10, go_sem, r0, r1, r2]) rfl ⟨rfl, w.heap.size + 1 + 1, by omega, ?_, ?_, ?_⟩
  · have := HR.out.2.2.1
    rw [World.cell?_setCell_other _ _ _ _ (by simp), World.cell?_setCell_other _ _ _ _ (by simp), World.cell?_setCell_other _ _ _ _ (by simp)]
    exact this
  · exact HM2.out.of_block (((Below.heap_setCell _ _ _ _ (by show w.heap.size + 1 + 1 ≠ w.heap.size + 1; omega)).trans (Below.heap_setCell _ _ _ _ (by show w.heap.size + 1 + 1 ≠ w.heap.size + 1; omega))).trans (Below.heap_setCell _ _ _ _ (by show w.heap.size + 1 + 1 ≠ w.heap.size + 1; omega)))
  · exact ((HK2.out.setCell (a := ⟨w.heap.size + 1, 0, none⟩) (.inr (by simp)) _).setCell (a := ⟨w.heap.size + 1, 1, none⟩) (.inr (by simp)) _).setCell (a := ⟨w.heap.size + 1, 2, none⟩) (.inr (by simp)) _
end Go.Proofs.Ybulkcpoe
