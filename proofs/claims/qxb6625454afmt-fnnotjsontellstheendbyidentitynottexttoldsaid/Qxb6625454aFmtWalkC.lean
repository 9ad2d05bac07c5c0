/-
  The first law's walk.
-/
import Derived.Test.Qxb6625454aFmtWalkB
import Derived.WalkSmall
namespace Go.Proofs.Qxb6625454aFmt
open Go.RowKit Go.Extern.Stop Go.Stop Go.Extern

set_option maxHeartbeats 400000 in
theorem bytes5_yes (s : ByteArray) (w : World) (hs : (s.size : Int) ≤ 1048576) :
    Calls Tryf.prog 5 #[.string s] w fun e w' => e = .returned (.bool true) ∧ w' = w := by
  go_enter Tryf.func5, Tryf.ntmps5
  go_wp2
  go_ret
  exact ⟨rfl, rfl⟩

set_option maxHeartbeats 400000 in
theorem bytes5_no (s : ByteArray) (w : World) (hs : (1048576 : Int) < s.size) :
    Calls Tryf.prog 5 #[.string s] w fun e w' => e = .returned (.bool false) ∧ w' = w := by
  go_enter Tryf.func5, Tryf.ntmps5
  go_wp2
  go_ret
  exact ⟨rfl, rfl⟩

set_option maxHeartbeats 400000 in
theorem law3_long (s : ByteArray) (w : World) (hs : (1048576 : Int) < s.size) :
    Calls Tryf.prog 3 #[.string s] w fun e w' => e = .returned (.bool true) ∧ w' = w := by
  go_enter Tryf.func3, Tryf.ntmps3
  go_wp2_with fail
  refine (bytes5_no _ _ hs).mono ?_
  rintro e w' ⟨rfl, rfl⟩
  go_wp2
  go_ret
  exact ⟨rfl, rfl⟩

theorem onText_below (F : Interp) (a0 a1 : Addr) (s : ByteArray) (c0 c1 : Array Value) (t0 t1 : TypeId) (w : World) (hF : F.answers w.tape)
    (hg0 : w.cell? ⟨0, 0, none⟩ = some (.iface 32 (.pointer (some a0)))) (hg1 : w.cell? ⟨1, 0, none⟩ = some (.iface 32 (.pointer (some a1))))
    (hb0 : w.heap[a0.block]? = some (.cells c0 t0 (0, 0))) (hb1 : w.heap[a1.block]? = some (.cells c1 t1 (0, 0))) :
    Calls Tryf.prog 6 #[.string s] w fun e w' => e = .returned (.tuple #[.bool false, .bool false, .bool true]) ∧ Below w.heap.size w w' := by
  refine (onText F a0 a1 s c0 c1 t0 t1 _ hF hg0 hg1 hb0 hb1).mono ?_
  rintro e w' ⟨rfl, n, rfl⟩
  refine ⟨rfl, below_drewN (Below.drew ?_) n⟩
  exact (((Below.refl _ w).alloc (Nat.le_refl _) _).alloc (by simp) _).alloc (by simp; omega) _

set_option maxHeartbeats 400000 in
theorem law3_short (F : Interp) (a0 a1 : Addr) (s : ByteArray) (c0 c1 : Array Value) (t0 t1 : TypeId) (w : World) (hF : F.answers w.tape)
    (hg0 : w.cell? ⟨0, 0, none⟩ = some (.iface 32 (.pointer (some a0)))) (hg1 : w.cell? ⟨1, 0, none⟩ = some (.iface 32 (.pointer (some a1))))
    (hb0 : w.heap[a0.block]? = some (.cells c0 t0 (0, 0))) (hb1 : w.heap[a1.block]? = some (.cells c1 t1 (0, 0)))
    (hs : (s.size : Int) ≤ 1048576) :
    Calls Tryf.prog 3 #[.string s] w fun e w' => e = .returned (.bool true) ∧ Below w.heap.size w w' := by
  go_enter Tryf.func3, Tryf.ntmps3
  go_wp2_with fail
  refine (bytes5_yes _ _ hs).mono ?_
  rintro e w' ⟨rfl, rfl⟩
  go_wp2_with fail
  refine (onText_below F a0 a1 s c0 c1 t0 t1 _ hF hg0 hg1 hb0 hb1).mono ?_
  rintro e w' ⟨rfl, hb⟩
  go_wp2
  go_ret
  exact ⟨rfl, hb⟩

end Go.Proofs.Qxb6625454aFmt
