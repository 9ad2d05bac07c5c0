import Derived.Test.Qxb6625454aFmtWalkA
namespace Go.Proofs.Qxb6625454aFmt
open Go.RowKit Go.Extern.Stop Go.Stop Go.Extern

set_option maxHeartbeats 400000 in
theorem unwrap_wrap (pb po : Nat) (x : Addr) (w : World) (h1 : w.cell? ⟨pb, po + 1, none⟩ = some (.iface 32 (.pointer (some x)))) :
    Calls Tryf.prog 12 #[.iface 45 (.pointer (some ⟨pb, po, none⟩))] w fun e w' => e = .returned (.iface 32 (.pointer (some x))) ∧ w' = w := by
  have uW := k_hasUnwrapW
  have mU := k_methodUnwrap
  go_enter Tryf.func12, Tryf.ntmps12
  go_wp2
  go_ret
  exact ⟨rfl, rfl⟩

set_option maxHeartbeats 400000 in
theorem unwrap_plain (v : Value) (w : World) :
    Calls Tryf.prog 12 #[.iface 32 v] w fun e w' => e = .returned .nilIface ∧ w' = w := by
  have uE := k_noUnwrapE
  go_enter Tryf.func12, Tryf.ntmps12
  go_wp2
  go_ret
  exact ⟨rfl, rfl⟩

theorem lt_of_block {w : World} {k : Nat} {o : Obj} (h : w.heap[k]? = some o) : k < w.heap.size := by
  rcases Nat.lt_or_ge k w.heap.size with h' | h'
  · exact h'
  · simp [Array.getElem?_eq_none h'] at h
theorem block_alloc {w : World} {k : Nat} {o x : Obj} (h : w.heap[k]? = some x) : (w.alloc o).heap[k]? = some x := by
  rw [Below.heap_alloc w o k (lt_of_block h)]; exact h
theorem block_new (w : World) (o : Obj) : (w.alloc o).heap[w.heap.size]? = some o := by
  show (w.heap.push o)[w.heap.size]? = _
  simp
theorem cell_alloc {w : World} {a : Addr} {v : Value} (o : Obj) (h : w.cell? a = some v) : (w.alloc o).cell? a = some v := by
  have hlt := World.block_lt_of_cell? _ _ h
  simp only [World.cell?] at h ⊢
  rw [Below.heap_alloc w o a.block hlt]; exact h
theorem new_ne {w : World} {a : Addr} {o : Obj} (h : w.heap[a.block]? = some o) (off : Nat) : (⟨w.heap.size, off, none⟩ : Addr) ≠ a := by
  rintro rfl
  have := lt_of_block h
  simp at this

/-- The world behind notJSON of a new error. -/
abbrev wrapW (F : Interp) (s : ByteArray) (w : World) : World :=
  (((w.alloc (.cells #[.string s] 34)).alloc (.cells #[.iface 32 (.pointer (some ⟨w.heap.size, 0, none⟩))] 20)).alloc (.cells #[.string (FmtStop.textOf (F "fmt.errorf" (reading s.data.toList) 0)), .iface 32 (.pointer (some ⟨w.heap.size, 0, none⟩))] 79)).drew

theorem wrapW_cell (F : Interp) (s : ByteArray) (w : World) : (wrapW F s w).cell? ⟨w.heap.size + 1 + 1, 0 + 1, none⟩ = some (.iface 32 (.pointer (some ⟨w.heap.size, 0, none⟩))) := by
  unfold wrapW
  go_simp

set_option maxHeartbeats 1000000 in
theorem onText (F : Interp) (a0 a1 : Addr) (s : ByteArray) (c0 c1 : Array Value) (t0 t1 : TypeId) (w : World) (hF : F.answers w.tape)
    (hg0 : w.cell? ⟨0, 0, none⟩ = some (.iface 32 (.pointer (some a0)))) (hg1 : w.cell? ⟨1, 0, none⟩ = some (.iface 32 (.pointer (some a1))))
    (hb0 : w.heap[a0.block]? = some (.cells c0 t0 (0, 0))) (hb1 : w.heap[a1.block]? = some (.cells c1 t1 (0, 0))) :
    Calls Tryf.prog 6 #[.string s] w fun e w' => e = .returned (.tuple #[.bool false, .bool false, .bool true]) ∧ ∃ n, w' = (wrapW F s w).drewN n := by
  obtain ⟨i, hi, hcmp⟩ := Option.map_eq_some_iff.1 k_comp32
  obtain ⟨j, hj, hjs⟩ := Option.map_eq_some_iff.1 k_size34
  have hsame := fun u => run_eql_iface_ptr_same (P := Tryf.prog) u ⟨w.heap.size, 0, none⟩ Tryf.underlying28 Tryf.underlying32 hi hcmp hj
  have hty := fun u => run_eql_iface_types (P := Tryf.prog) 45 32 (.pointer (some ⟨w.heap.size + 1 + 1, 0, none⟩)) (.pointer (some ⟨w.heap.size, 0, none⟩)) Tryf.underlying28 (by decide) u
  go_enter Tryf.func6, Tryf.ntmps6
  go_wp2_with fail
  refine (new_any _ _).mono ?_
  rintro e w' ⟨rfl, rfl⟩
  go_wp2_with fail
  refine (notJSON_other F ⟨w.heap.size, 0, none⟩ a0 a1 s #[.string s] c0 c1 34 t0 t1 (w.alloc (.cells #[.string s] 34)) hF (cell_alloc _ hg0) (cell_alloc _ hg1) (new_ne hb0 0) (new_ne hb1 0) (block_new _ _) (block_alloc hb0) (block_alloc hb1) (by go_simp)).mono ?_
  rintro e w' ⟨rfl, rfl⟩
  go_wp2_with fail
  go_quiet ((go_at_call 12; exact (unwrap_wrap (w.heap.size + 1 + 1) 0 ⟨w.heap.size, 0, none⟩ _ (by exact wrapW_cell F s w)).mono fun _ _ ⟨he, hm⟩ => ⟨he, _, hm⟩))
  go_wp2
  go_ret3
  exact ⟨rfl, _, rfl⟩
end Go.Proofs.Qxb6625454aFmt
