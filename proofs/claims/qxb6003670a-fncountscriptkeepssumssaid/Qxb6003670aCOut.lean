import Derived.Test.Qxb6003670aCLaw
import Derived.Test.Qxb6003670aIsRow
namespace Go.Proofs.Qxb6003670a.st
open Go.RowKit
open Go.Proofs.Qxb6003670a.sm

set_option maxHeartbeats 2000000 in
theorem walk (a0 : Option Addr) (len0 cap0 : Nat) (z0 : List Int) (a1 : Option Addr) (len1 cap1 : Nat) (z1 : List Int) (w : World) (w0 : IsRow .u8 w a0 len0 cap0 z0) (w1 : IsRow .i8 w a1 len1 cap1 z1) :
    Calls Try.prog 4 #[.slice a0 len0 cap0, .slice a1 len1 cap1] w fun e w' => e = .returned (.bool true) ∧ Below w.heap.size w w' := by
  have H0 := hide w0
  have H1 := hide w1
  clear w0 w1
  by_cases c0 : 4096 < (len0 : Int)
  · go_enter Try.func4, Try.ntmps4
    go_wp2_with fail
    refine (bytesC_any _ _ _ _ _ _ _).mono ?_
    rintro e w' ⟨b, rfl, rfl⟩
    cases b <;> (go_wp2; go_ret; exact ⟨rfl, Below.refl _ _⟩)
  by_cases c1 : 4096 < (len1 : Int)
  · go_enter Try.func4, Try.ntmps4
    go_wp2_with fail
    refine (bytesC_any _ _ _ _ _ _ _).mono ?_
    rintro e w' ⟨b, rfl, rfl⟩
    cases b <;> (go_wp2; go_ret; exact ⟨rfl, Below.refl _ _⟩)
  exact claw a0 len0 cap0 _ a1 len1 cap1 _ w (by omega) (by omega) H0.out.nil (H0.out.src Try.underlying22 (fun wx => by kernel_rfl)) (fun i => by have := bounds_u8 (H0.out.wf i rfl); omega) H1.out.nil (H1.out.src Try.underlying34 (fun wx => by kernel_rfl)) (fun i => by have := bounds_i8 (H1.out.wf i rfl); omega)

end Go.Proofs.Qxb6003670a.st
