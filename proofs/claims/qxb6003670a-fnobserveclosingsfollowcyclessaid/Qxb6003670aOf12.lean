import Derived.Test.Qxb6003670aOf9
import Derived.Test.Qxb6003670aOf11
namespace Go.Proofs.Qxb6003670a.st
open Go.RowKit
open Go.Proofs.Qxb6003670a.sm

theorem walk6 (a0 : Option Addr) (len0 cap0 : Nat) (z0 : List Int) (a1 : Option Addr) (len1 cap1 : Nat) (A : Nat → Option Addr) (L C : Nat → Nat) (Z : Nat → List Int) (w : World) (w0 : IsRow .u8 w a0 len0 cap0 z0) (w1 : IsRows w a1 len1 cap1 A L C Z) :
    Calls Try.prog 6 #[.slice a0 len0 cap0, .slice a1 len1 cap1] w fun e w' => e = .returned (.bool true) ∧ Below w.heap.size w w' :=
  claw6 a0 len0 cap0 _ a1 len1 cap1 A L C (fz len1 Z) w w0.nil (w0.src Try.underlying22 (fun wx => by kernel_rfl)) (fun i => by have := bounds_u8 (w0.wf i rfl); omega) w1.nil w1.src (fun i hi => (w1.row hi).nil)
    (fun i hi => by
      have h := (w1.row hi).src (t := 22) Try.underlying22 (fun wx => by kernel_rfl)
      have e : fz len1 Z i = fun j => (Z i).getD j 0 := by funext j; unfold fz; rw [if_pos hi]
      rw [e]
      exact h) (fz_bnd w1)

end Go.Proofs.Qxb6003670a.st
