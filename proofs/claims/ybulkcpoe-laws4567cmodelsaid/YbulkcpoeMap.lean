import Derived.Test.YbulkcpoeRows
import Derived.WalkKit
import Derived.WalkLawsBesides
import Derived.WalkSpells
import Derived.MapKept
namespace Go.Proofs.Ybulkcpoe
open Go.RowKit Go.MapKept

/-- An entry: path, two times. -/
abbrev Ent := Int × Int × Int
def entC (e : Ent) : Array Value := #[.int .u32 e.1, .int .u32 e.2.1, .int .u32 e.2.2]
def zeroE : Ent := (0, 0, 0)

/-- What the list holds at k. -/
def assoc {κ : Type} [DecidableEq κ] : List (κ × Ent) → κ → Option Ent
  | [], _ => none
  | p :: l, k => if p.1 = k then some p.2 else assoc l k

/-- The list with e at k. -/
def put {κ : Type} [DecidableEq κ] : List (κ × Ent) → κ → Ent → List (κ × Ent)
  | [], k, e => [(k, e)]
  | p :: l, k, e => if p.1 = k then (k, e) :: l else p :: put l k e

theorem assoc_put {κ : Type} [DecidableEq κ] (l : List (κ × Ent)) (k : κ) (e : Ent) (k' : κ) : assoc (put l k e) k' = if k = k' then some e else assoc l k' := by
  induction l with
  | nil => simp [put, assoc]
  | cons p l ih =>
    by_cases h : p.1 = k
    · simp only [put, h, if_true, assoc]
      by_cases h2 : k = k' <;> simp [h2]
    · simp only [put, h, if_false, assoc, ih]
      by_cases h2 : p.1 = k'
      · have : k ≠ k' := fun q => h (h2.trans q.symm)
        simp [h2, this]
      · simp [h2]

theorem put_length {κ : Type} [DecidableEq κ] (l : List (κ × Ent)) (k : κ) (e : Ent) : (put l k e).length = if (assoc l k).isSome then l.length else l.length + 1 := by
  induction l with
  | nil => simp [put, assoc]
  | cons p l ih =>
    by_cases h : p.1 = k
    · simp [put, assoc, h]
    · simp only [put, h, if_false, assoc, List.length_cons, ih]
      split <;> rfl

def kv (x : MapEntry) : Value × Value := (x.key, x.val)
def encP {κ : Type} (enc : κ → Value) (p : κ × Ent) : Value × Value := (enc p.1, .agg (entC p.2))

/-- The map in block b holds the list l. -/
def MapL {κ : Type} (enc : κ → Value) (W : World) (b : Nat) (l : List (κ × Ent)) : Prop :=
  ∃ es clk, W.heap[b]? = some (.map es clk) ∧ es.toList.map kv = l.map (encP enc)

theorem MapL.of_block {κ : Type} {enc : κ → Value} {W W' : World} {b : Nat} {l : List (κ × Ent)} (h : MapL enc W b l) (hb : W'.heap[b]? = W.heap[b]?) : MapL enc W' b l := by
  obtain ⟨es, clk, h1, h2⟩ := h
  exact ⟨es, clk, hb.trans h1, h2⟩

theorem MapL.empty {κ : Type} {enc : κ → Value} {W : World} {b : Nat} (h : W.heap[b]? = some (.map #[] 0)) : MapL enc W b [] :=
  ⟨#[], 0, h, rfl⟩

/-- The key's code: injective, each a key of the kind d. -/
structure Keys {κ : Type} (enc : κ → Value) (d : TypeDesc) : Prop where
  inj : ∀ a b, enc a = enc b → a = b
  key : ∀ k, IsKey d (enc k)

theorem find_law {κ : Type} [DecidableEq κ] {enc : κ → Value} {d : TypeDesc} (K : Keys enc d) (k : κ) : ∀ (xs : List MapEntry) (l : List (κ × Ent)) (i : Nat), xs.map kv = l.map (encP enc) →
    (assoc l k = none ∧ Instr.findNow d (enc k) xs i = some none ∧ ∀ e, put l k e = l ++ [(k, e)]) ∨
    ∃ j v x, assoc l k = some v ∧ Instr.findNow d (enc k) xs i = some (some (i + j, .agg (entC v))) ∧ xs[j]? = some x ∧ x.key = enc k ∧
      ∀ e (f : MapEntry → MapEntry), (∀ x, kv (f x) = encP enc (k, e)) → (xs.modify j f).map kv = (put l k e).map (encP enc)
  | [], l, i, h => by
    have : l = [] := by cases l with
      | nil => rfl
      | cons a l => simp at h
    subst this
    exact .inl ⟨rfl, rfl, fun e => rfl⟩
  | x :: xs, [], i, h => by simp at h
  | x :: xs, p :: l, i, h => by
    simp only [List.map_cons, List.cons.injEq] at h
    obtain ⟨hx, hxs⟩ := h
    have hxk : x.key = enc p.1 := congrArg Prod.fst hx
    have hxv : x.val = .agg (entC p.2) := congrArg Prod.snd hx
    obtain ⟨r, hr, hiff⟩ := sameNow_of_keys (K.key k) (hxk ▸ K.key p.1 : IsKey d x.key)
    by_cases hp : p.1 = k
    · have hr' : r = true := hiff.2 (by rw [hxk, hp])
      subst hr'
      refine .inr ⟨0, p.2, x, by simp [assoc, hp], by simp [Instr.findNow, hr, hxv], rfl, by rw [hxk, hp], fun e f hf => ?_⟩
      simp [put, hp, hf, hxs]
    · have hr' : r = false := by
        cases r with
        | false => rfl
        | true => exact absurd (K.inj _ _ (hxk.symm.trans (hiff.1 rfl).symm)) hp
      subst hr'
      rcases find_law K k xs l (i + 1) hxs with ⟨h1, h2, h3⟩ | ⟨j, v, y, h1, h2, h3, h4, h5⟩
      · exact .inl ⟨by simp [assoc, hp, h1], by simp [Instr.findNow, hr, h2], fun e => by simp [put, hp, h3]⟩
      · refine .inr ⟨j + 1, v, y, by simp [assoc, hp, h1], by simp [Instr.findNow, hr, h2]; omega, by simpa using h3, h4, fun e f hf => ?_⟩
        simp [put, hp, h5 e f hf, hx]

/-- 'v, ok := m[k]' -/
theorem MapL.look {κ : Type} [DecidableEq κ] {enc : κ → Value} {d : TypeDesc} (K : Keys enc d) {P : Program} {mt kt et : TypeId} {W : World} {b : Nat} {l : List (κ × Ent)} (h : MapL enc W b l) (hm : P.underlying mt = some (.map kt et)) (hd : P.underlying kt = some d)
    (hz : ∀ w, (zeroValue et).run P w = .ok (.agg (entC zeroE)) w) (k : κ) :
    (Instr.lookup mt (.map (some b)) (enc k) true).run P W = .ok (.tuple #[.agg (entC ((assoc l k).getD zeroE)), .bool (assoc l k).isSome]) W := by
  obtain ⟨es, clk, hb, hl⟩ := h
  rcases find_law K k es.toList l 0 hl with ⟨h1, h2, -⟩ | ⟨j, v, x, h1, h2, -⟩
  · simp [Instr.lookup, run_underlying hm, MapKept.run_getObj_map hb, run_checkKey hd (K.key k), run_findKey hd h2, hz, h1, Result.andThen]
  · simp [Instr.lookup, run_underlying hm, MapKept.run_getObj_map hb, run_checkKey hd (K.key k), run_findKey hd h2, h1, Result.andThen]

/-- 'm[k] = e' -/
theorem MapL.update {κ : Type} [DecidableEq κ] {enc : κ → Value} {d : TypeDesc} (K : Keys enc d) {P : Program} {mt kt et : TypeId} {W : World} {b : Nat} {l : List (κ × Ent)} (h : MapL enc W b l) (hm : P.underlying mt = some (.map kt et)) (hd : P.underlying kt = some d)
    (k : κ) (e : Ent) :
    ∃ es clk, (Instr.mapUpdate mt (.map (some b)) (enc k) (.agg (entC e))).run P W = .ok () { W with heap := W.heap.setIfInBounds b (.map es clk) } ∧ MapL enc { W with heap := W.heap.setIfInBounds b (.map es clk) } b (put l k e) := by
  obtain ⟨es, clk, hb, hl⟩ := h
  rcases find_law K k es.toList l 0 hl with ⟨h1, h2, h3⟩ | ⟨j, v, x, h1, h2, h4, h5, h6⟩
  · refine ⟨es.push { key := enc k, val := .agg (entC e), born := clk }, clk + 1, ?_, _, _, (heap_set hb).1, ?_⟩
    · simp [Instr.mapUpdate, run_underlying hm, MapKept.run_getObj_map hb, run_checkKey hd (K.key k), run_findKey hd h2, MapKept.run_setObj_map _ hb, Result.andThen]
    · simp [h3, hl, kv, encP]
  · have hj : es[j]? = some x := by simpa using h4
    refine ⟨es.modify j fun y => { y with key := enc k, val := .agg (entC e) }, clk, ?_, _, _, (heap_set hb).1, ?_⟩
    · simp [Instr.mapUpdate, run_underlying hm, MapKept.run_getObj_map hb, run_checkKey hd (K.key k), run_findKey hd h2, hj, h5, run_keyThatStays (K.key k), MapKept.run_setObj_map _ hb, Result.andThen]
    · rw [Array.toList_modify]
      exact h6 e _ fun _ => rfl

/-- 'len(m)' -/
theorem MapL.len {κ : Type} {enc : κ → Value} {P : Program} {mt kt et ty : TypeId} {W : World} {b : Nat} {l : List (κ × Ent)} (h : MapL enc W b l) (hm : P.underlying mt = some (.map kt et)) :
    (Builtin.len_ #[mt] ty #[.map (some b)]).run P W = .ok (goInt l.length) W := by
  obtain ⟨es, clk, hb, hl⟩ := h
  have : es.size = l.length := by simpa using congrArg List.length hl
  simp [Builtin.len_, run_underlying hm, MapKept.run_getObj_map hb, Result.andThen, this]

theorem keysS : Keys (fun s : ByteArray => Value.string s) .string := ⟨fun a b h => by cases h; rfl, fun _ => trivial⟩
theorem keysI : Keys (fun n : Int => Value.int .i32 n) (.int .i32) := ⟨fun a b h => by cases h; rfl, fun _ => rfl⟩
end Go.Proofs.Ybulkcpoe
