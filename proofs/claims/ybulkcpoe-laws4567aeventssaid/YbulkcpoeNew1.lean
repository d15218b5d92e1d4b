import Derived.Test.YbulkcpoeRows
import Derived.WalkKit
import Derived.WalkLawsBesides
import Derived.WalkSpells
import Derived.Deep.AppendLies
import Derived.Deep.MidRow
import Derived.OwnWalk
namespace Go.Proofs.Ybulkcpoe
open Go.RowKit

theorem isnil23 (w : World) (a : Option Addr) (n c : Nat) : (binOp .eql 23 (.slice a n c) (.slice none 0 0)).run Yba.prog w = .ok (.bool a.isNone) w := Lib.run_eql_slice_nil (P := Yba.prog) w 23 51 a n c 0 0 Yba.underlying23

theorem clone_nil (w : World) : Calls Yba.prog 12 #[.slice none 0 0] w fun e w' => e = .returned (.slice none 0 0) ∧ w' = w := by
  have he := isnil23
  go_enter Yba.func12, Yba.ntmps12
  go_wp2
  go_ret
  exact ⟨rfl, rfl⟩

theorem clone_empty (a : Addr) (c : Nat) (w : World) : Calls Yba.prog 12 #[.slice (some a) 0 c] w fun e w' => e = .returned (.slice (some ⟨w.heap.size, 0, none⟩) 0 0) ∧ w' = w.alloc (.cells #[] 51) := by
  have he := isnil23
  go_enter Yba.func12, Yba.ntmps12
  go_wp2
  go_ret
  exact ⟨rfl, rfl⟩

theorem info51 : ∃ i : TypeInfo, Yba.prog.info? 51 = some i ∧ i.zero = some (.agg #[.int .u64 0, .int .u64 0, .pointer none, .int .u8 0]) ∧ i.size = 4 ∧ i.bytes = 32 := by
  have h : (Yba.prog.info? 51).isSome = true := by kernel_rfl
  have h1 : (Yba.prog.info? 51).bind (·.zero) = some (.agg #[.int .u64 0, .int .u64 0, .pointer none, .int .u8 0]) := by kernel_rfl
  have h2 : (Yba.prog.info? 51).map (·.size) = some 4 := by kernel_rfl
  have h3 : (Yba.prog.info? 51).map (·.bytes) = some 32 := by kernel_rfl
  obtain ⟨i, hi⟩ := Option.isSome_iff_exists.1 h
  rw [hi] at h1 h2 h3
  exact ⟨i, hi, h1, by simpa using h2, by simpa using h3⟩

theorem own_range {w : World} {base g n cap : Nat} {news : List Value} (h : w.ownsRow base 51 4 (.slice (some ⟨g, 0, none⟩) (0 + n) cap) (0 + n) ([] ++ news)) : (∃ A, w.heap[g]? = some (.cells A 51 (0, 0))) ∧ w.rangeAt g 0 news ∧ base ≤ g := by
  rcases h.2 with ⟨hv, _⟩ | ⟨g', cap', cur, hv, hb, hg, _, _, _, ht⟩
  · cases hv
  · simp only [Value.slice.injEq, Option.some.injEq, Addr.mk.injEq, and_true] at hv
    obtain ⟨rfl, -, rfl⟩ := hv
    refine ⟨⟨cur, hg⟩, fun j v hv => ?_, hb⟩
    rw [cell_of_row _ _ _ _ _ _ hg]
    simp only [List.nil_append] at ht
    rw [← ht, List.getElem?_take] at hv
    split at hv
    · simpa using hv
    · cases hv

theorem clone_some (b n c : Nat) (news : List Value) (hl : news.length = n * 4) (h1 : ∀ u ∈ news, u.oneCell' = true) (hn : 0 < n) (hn2 : n ≤ 1024) (w : World) (hsrc : w.rangeAt b 0 news) :
    Calls Yba.prog 12 #[.slice (some ⟨b, 0, none⟩) n c] w fun e w' => ∃ g cap, e = .returned (.slice (some ⟨g, 0, none⟩) n cap) ∧ w.heap.size ≤ g ∧ w'.rangeAt g 0 news ∧ (∃ A, w'.heap[g]? = some (.cells A 51 (0, 0))) ∧ Below w.heap.size w w' := by
  have he := isnil23
  obtain ⟨i, hi, hz, hs, hb⟩ := info51
  have HI : Hid (Yba.prog.info? 51 = some i) := hi
  have HL : Hid (news.length = n * 4) := hl
  have HS : Hid (w.rangeAt b 0 news) := hsrc
  have H1 : Hid (∀ u ∈ news, u.oneCell' = true) := h1
  have hb0 : b < w.heap.size := by
    obtain ⟨u, hu⟩ : ∃ u, news[0]? = some u := ⟨_, List.getElem?_eq_getElem (by omega)⟩
    exact World.block_lt_of_cell? _ _ (hsrc 0 u hu)
  have hown : (w.alloc (.cells #[] 51)).ownsRow w.heap.size 51 4 (.slice (some ⟨w.heap.size, 0, none⟩) 0 0) 0 [] :=
    ⟨rfl, .inr ⟨w.heap.size, 0, #[], rfl, Nat.le_refl _, heap_alloc_new w _, Nat.le_refl _, Nat.zero_le _, rfl, rfl⟩⟩
  have HO : Hid ((w.alloc (.cells #[] 51)).ownsRow w.heap.size 51 4 (.slice (some ⟨w.heap.size, 0, none⟩) 0 0) 0 []) := hown
  have hnews : ∀ j u, news[j]? = some u → (w.alloc (.cells #[] 51)).cell? ((⟨b, 0, none⟩ : Addr).add j) = some u := fun j u hj => by
    rw [Addr.add_mid, World.cell?_alloc_lt w _ ⟨b, 0 + j, none⟩ hb0]; exact hsrc j u hj
  have HNW : Hid (∀ j u, news[j]? = some u → (w.alloc (.cells #[] 51)).cell? ((⟨b, 0, none⟩ : Addr).add j) = some u) := hnews
  clear hi hl hsrc h1 hown hnews
  go_enter Yba.func12, Yba.ntmps12
  go_wp2_with (at_builtin; refine wpList_append_lies _ rfl (.tmp 5) (.tmp 6) 23 rfl w.heap.size 51 i (.agg #[.int .u64 0, .int .u64 0, .pointer none, .int .u8 0]) 4 32 Yba.underlying23 HI.out hz hs hb rfl (by omega) _ 0 [] rfl HO.out ⟨b, 0, none⟩ n c news rfl HL.out HNW.out H1.out hn (by unfold maxLen; omega) (by omega) (by simp) _ rfl ?_; intro g cap w1 hown hgrow hat hlt)
  go_ret
  obtain ⟨g', hr, hg⟩ := own_range hown
  refine ⟨g, cap, by simp, hg, hr, g', ?_⟩
  exact (Below.refl _ _ |>.alloc (Nat.le_refl _) (.cells #[] 51)).grown hgrow (by simp) (fun k hk => by simp [Value.ownBlock, Act.eval] at hk; omega)
end Go.Proofs.Ybulkcpoe
