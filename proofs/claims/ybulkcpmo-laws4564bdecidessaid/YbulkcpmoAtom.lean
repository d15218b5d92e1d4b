import Derived.Test.YbulkcpmoTime1
namespace Go.Proofs.Ybulkcpmo
open Go.RowKit

/-! ### sync/atomic at pointers: the laws -/
theorem run_call_loadPtr {P : Program} {f : FuncId} {fn : Func} (hf : P.funcs[f]? = some fn) (hname : (fn.name == "runtime.NumGoroutine") = false) (hb : fn.body.isNone = true) (hn : Extern.findNext fn = none)
    (he : Extern.find fn = some (Extern.Atomic.loadT .ptr)) {a : Addr} {x : Option Addr} {w : World} (hc : w.cell? a = some (.pointer x)) :
    (callFunc f #[.pointer (some a)]).run P w = .ok (.value (.pointer x)) w := by
  rw [run_callFunc_extern hf hname hb hn he]
  change (Sem.run P (do Extern.Atomic.read .ptr (← asAddr (.pointer (some a)))) w).andThen _ = _
  simp [Extern.Atomic.read, asAddr, hc, Result.andThen]

theorem run_call_storePtr {P : Program} {f : FuncId} {fn : Func} (hf : P.funcs[f]? = some fn) (hname : (fn.name == "runtime.NumGoroutine") = false) (hb : fn.body.isNone = true) (hn : Extern.findNext fn = none)
    (he : Extern.find fn = some Extern.Atomic.storeT) {a : Addr} {x : Option Addr} {u : Value} {w : World} (hc : w.cell? a = some u) (hz : w.frozen? a = false) :
    (callFunc f #[.pointer (some a), .pointer x]).run P w = .ok (.value (.tuple #[])) (w.setCell a (.pointer x)) := by
  rw [run_callFunc_extern hf hname hb hn he]
  change (Sem.run P (do
    store (← asAddr (.pointer (some a))) (.pointer x) .atomic
    pure Extern.Atomic.none_) w).andThen _ = _
  simp [asAddr, hc, hz, run_store P w a (.pointer x) .atomic rfl, Result.andThen, Extern.Atomic.none_]

/-! ### The two conversions inside atomic.Pointer -/
theorem back_nil (w : World) : (convert 44 54 (.pointer none)).run Yba.prog w = .ok (.pointer none) w := by kernel_rfl
theorem run_bind0 {α β : Type} {P : Program} (x : Sem α) (f : α → Sem β) (w : World) : Sem.run P (Sem.bind x f) w = (Sem.run P x w).andThen fun a w' => Sem.run P (f a) w' := Sem.run_bind ..
theorem run_pure0 {α : Type} {P : Program} (x : α) (w : World) : Sem.run P (Sem.pure x) w = .ok x w := Sem.run_pure ..
theorem back_some (w : World) (b : Nat) (cs : Array Value) (fr : Nat × Nat) (h : w.heap[b]? = some (.cells cs 95 fr)) (hs : cs.size = 6) :
    (convert 44 54 (.pointer (some ⟨b, 0, none⟩))).run Yba.prog w = .ok (.pointer (some ⟨b, 0, none⟩)) w := by
  have hsh : w.shape? b = some (95, 6) := by simp [World.shape?, h, hs]
  have hlies : liesAt Yba.prog Yba.prog.depth 95 (6 / Yba.prog.cellsOf 95) 0 95 1 = true := by kernel_rfl
  have hsm : (Yba.prog.info? 95).isSome = true := by kernel_rfl
  obtain ⟨i, hi⟩ := Option.isSome_iff_exists.1 hsm
  simp only [convert, run_underlying Yba.underlying44, run_underlying Yba.underlying54, Sem.run_bind, Result.andThen_ok]
  conv => lhs; arg 2; whnf
  simp only [Sem.run]
  simp only [run_bind0, run_pure0, Result.andThen_ok, Yba.underlying44, Sem.run_pure, Sem.run_bind, run_underlying Yba.underlying54]
  simp [ Conv.seenAt, viewAt, hsh, variablesAt, hlies, sizeOf, typeInfo, hi]

theorem forth_some (w : World) (t : Nat) (v : Value) (hc : w.cell? ⟨t, 0, none⟩ = some v) :
    (convert 54 44 (.pointer (some ⟨t, 0, none⟩))).run Yba.prog w = .ok (.pointer (some ⟨t, 0, none⟩)) w := by
  obtain ⟨e, n, hsh, hlt, hsp⟩ := World.shape?_of_cell? hc
  have hsm : (Yba.prog.info? 95).isSome = true := by kernel_rfl
  obtain ⟨i, hi⟩ := Option.isSome_iff_exists.1 hsm
  have hsz : (Yba.prog.info? 95).map (fun i => decide (i.size = 0)) = some false := by kernel_rfl
  have hz : i.size ≠ 0 := by rw [hi] at hsz; simpa using hsz
  have hge : ¬ n = 0 := by simp at hlt; omega
  simp only [convert, run_underlying Yba.underlying44, run_underlying Yba.underlying54, Sem.run_bind, Result.andThen_ok]
  conv => lhs; arg 2; whnf
  simp only [Sem.run]
  simp only [run_bind0, run_pure0, Result.andThen_ok, Yba.underlying54, Sem.run_pure, Sem.run_bind, run_underlying Yba.underlying44]
  simp [ Conv.seenAt, viewAt, cellsIn, hsh, sizeOf, typeInfo, hi, hz, hge]

theorem loadI32 (b off : Nat) (x : Int) (w : World) (hc : w.cell? ⟨b, off, none⟩ = some (.int .i32 x)) :
    Calls Yba.prog 24 #[.pointer (some ⟨b, off, none⟩)] w fun e w' => e = .returned (.int .i32 x) ∧ w' = w := by
  have hl := run_call_load (P := Yba.prog) Yba.func37 (by kernel_rfl) (by kernel_rfl) (by kernel_rfl) .i32 (by kernel_rfl) hc
  go_enter Yba.func24, Yba.ntmps24
  go_wp2
  go_ret
  exact ⟨rfl, rfl⟩
theorem storeI32 (b off : Nat) (y : Int) (u : Value) (w : World) (hc : w.cell? ⟨b, off, none⟩ = some u) (hz : w.frozen? ⟨b, off, none⟩ = false) :
    Calls Yba.prog 6 #[.pointer (some ⟨b, off, none⟩), .int .i32 y] w fun e w' => e = .returned (.tuple #[]) ∧ w' = w.setCell ⟨b, off, none⟩ (.int .i32 y) := by
  have hl := run_call_store (P := Yba.prog) Yba.func15 (by kernel_rfl) (by kernel_rfl) (by kernel_rfl) (by kernel_rfl) (k := .i32) (y := y) hc hz
  go_enter Yba.func6, Yba.ntmps6
  go_wp2
  go_end0
  exact ⟨rfl, rfl⟩
theorem loadU32 (b off : Nat) (x : Int) (w : World) (hc : w.cell? ⟨b, off, none⟩ = some (.int .u32 x)) :
    Calls Yba.prog 43 #[.pointer (some ⟨b, off, none⟩)] w fun e w' => e = .returned (.int .u32 x) ∧ w' = w := by
  have hl := run_call_load (P := Yba.prog) Yba.func48 (by kernel_rfl) (by kernel_rfl) (by kernel_rfl) .u32 (by kernel_rfl) hc
  go_enter Yba.func43, Yba.ntmps43
  go_wp2
  go_ret
  exact ⟨rfl, rfl⟩
theorem loadNextNil (b off : Nat) (w : World) (hc : w.cell? ⟨b, off, none⟩ = some (.pointer none)) :
    Calls Yba.prog 33 #[.pointer (some ⟨b, off, none⟩)] w fun e w' => e = .returned (.pointer none) ∧ w' = w := by
  have hl := run_call_loadPtr (P := Yba.prog) Yba.func44 (by kernel_rfl) (by kernel_rfl) (by kernel_rfl) (by kernel_rfl) hc
  have hk := back_nil w
  go_enter Yba.func33, Yba.ntmps33
  go_wp2
  go_ret
  exact ⟨rfl, rfl⟩
theorem loadNextTask (b off t : Nat) (cs : Array Value) (fr : Nat × Nat) (w : World) (hc : w.cell? ⟨b, off, none⟩ = some (.pointer (some ⟨t, 0, none⟩))) (h : w.heap[t]? = some (.cells cs 95 fr)) (hs : cs.size = 6) :
    Calls Yba.prog 33 #[.pointer (some ⟨b, off, none⟩)] w fun e w' => e = .returned (.pointer (some ⟨t, 0, none⟩)) ∧ w' = w := by
  have hl := run_call_loadPtr (P := Yba.prog) Yba.func44 (by kernel_rfl) (by kernel_rfl) (by kernel_rfl) (by kernel_rfl) hc
  have hk := back_some w t cs fr h hs
  clear h hs
  go_enter Yba.func33, Yba.ntmps33
  go_wp2
  go_ret
  exact ⟨rfl, rfl⟩
theorem storeNext (b off t : Nat) (v u : Value) (w : World) (hc : w.cell? ⟨b, off, none⟩ = some u) (hz : w.frozen? ⟨b, off, none⟩ = false) (ht : w.cell? ⟨t, 0, none⟩ = some v) :
    Calls Yba.prog 7 #[.pointer (some ⟨b, off, none⟩), .pointer (some ⟨t, 0, none⟩)] w fun e w' => e = .returned (.tuple #[]) ∧ w' = w.setCell ⟨b, off, none⟩ (.pointer (some ⟨t, 0, none⟩)) := by
  have hl := run_call_storePtr (P := Yba.prog) Yba.func16 (by kernel_rfl) (by kernel_rfl) (by kernel_rfl) (by kernel_rfl) (x := some ⟨t, 0, none⟩) hc hz
  have hk := forth_some w t v ht
  go_enter Yba.func7, Yba.ntmps7
  go_wp2
  go_end0
  exact ⟨rfl, rfl⟩
end Go.Proofs.Ybulkcpmo
