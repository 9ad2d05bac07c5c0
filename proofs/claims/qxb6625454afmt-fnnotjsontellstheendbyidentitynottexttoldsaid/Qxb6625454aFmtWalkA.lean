/-
  The walks over errors.New, notJSON, errors.Unwrap and ZZnotJSONOnText.
-/
import Derived.Test.Qxb6625454aFmtFacts
import Derived.Deep.QuietTactic
import Derived.BigQuiet
import Derived.Deep.RegionWith
namespace Go.Proofs.Qxb6625454aFmt
open Go.RowKit Go.Extern.Stop Go.Stop Go.Extern
attribute [local go_sem] k_call17 k_guard k_fmt0 k_fmt0r k_fmt1 k_fmt1r k_ptr32 k_elem32 k_isError32 k_ptr45 k_elem45 k_isError45

set_option maxHeartbeats 400000 in
theorem new_any (s : ByteArray) (w : World) :
    Calls Tryf.prog 10 #[.string s] w fun e w' => e = .returned (.iface 32 (.pointer (some ⟨w.heap.size, 0, none⟩))) ∧ w' = w.alloc (.cells #[.string s] 34) := by
  go_enter Tryf.func10, Tryf.ntmps10
  go_wp2
  go_ret
  exact ⟨rfl, rfl⟩

/-- What fmt is asked. -/
def reading (s : List UInt8) : List (List UInt8) := [[110, 111, 116, 32, 74, 83, 79, 78, 58, 32, 37, 119], plain32, s]

set_option maxHeartbeats 400000 in
theorem notJSON_other (F : Interp) (a a0 a1 : Addr) (s : ByteArray) (ca c0 c1 : Array Value) (ta t0 t1 : TypeId) (w : World) (hF : F.answers w.tape)
    (hg0 : w.cell? ⟨0, 0, none⟩ = some (.iface 32 (.pointer (some a0)))) (hg1 : w.cell? ⟨1, 0, none⟩ = some (.iface 32 (.pointer (some a1))))
    (hn0 : a ≠ a0) (hn1 : a ≠ a1) (ha : w.heap[a.block]? = some (.cells ca ta (0, 0))) (hb0 : w.heap[a0.block]? = some (.cells c0 t0 (0, 0))) (hb1 : w.heap[a1.block]? = some (.cells c1 t1 (0, 0)))
    (hs : (w.alloc (.cells #[.iface 32 (.pointer (some a))] 20)).cell? a = some (.string s)) :
    Calls Tryf.prog 11 #[.iface 32 (.pointer (some a))] w fun e w' => e = .returned (.iface 45 (.pointer (some ⟨w.heap.size + 1, 0, none⟩))) ∧
      w' = ((w.alloc (.cells #[.iface 32 (.pointer (some a))] 20)).alloc (.cells #[.string (FmtStop.textOf (F "fmt.errorf" (reading s.data.toList) 0)), .iface 32 (.pointer (some a))] 79)).drew := by
  obtain ⟨i, hi, hcmp⟩ := Option.map_eq_some_iff.1 k_comp32
  obtain ⟨j, hj, hjs⟩ := Option.map_eq_some_iff.1 k_size34
  have hF' := hF
  unfold Interp.answers at hF'
  have hop := k_opPlain32 "fmt.errorf" a s _ hs
  have he0 := run_eql_iface_ptr_other (P := Tryf.prog) w Tryf.underlying28 Tryf.underlying32 hi hcmp hj (of_decide_eq_false hjs) hn0 ha hb0
  have he1 := run_eql_iface_ptr_other (P := Tryf.prog) w Tryf.underlying28 Tryf.underlying32 hi hcmp hj (of_decide_eq_false hjs) hn1 ha hb1
  go_enter Tryf.func11, Tryf.ntmps11
  go_wp2
  go_ret
  exact ⟨rfl, rfl⟩

end Go.Proofs.Qxb6625454aFmt
