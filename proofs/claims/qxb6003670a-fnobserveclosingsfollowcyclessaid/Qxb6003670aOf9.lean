import Derived.Test.Qxb6003670aOf8
import Derived.Test.Qxb6003670aIsRow
namespace Go.Proofs.Qxb6003670a.st
open Go.RowKit
open Go.Proofs.Qxb6003670a.sm

/-- WHAT THE WALK IS TOLD OF A SLICE OF SLICES OF BYTES THAT CAME IN. -/
def IsRows (w : World) (a : Option Addr) (len cap : Nat) (A : Nat → Option Addr) (L C : Nat → Nat) (Z : Nat → List Int) : Prop :=
  (a = none ∧ len = 0 ∧ cap = 0) ∨
  ∃ x, a = some x ∧ len ≤ cap ∧ cap ≤ maxLen ∧ ∀ r, r < cap → w.cell? (x.add r) = some (.slice (A r) (L r) (C r)) ∧ IsRow .u8 w (A r) (L r) (C r) (Z r)

theorem IsRows.nil {w : World} {a : Option Addr} {len cap : Nat} {A : Nat → Option Addr} {L C : Nat → Nat} {Z : Nat → List Int} (h : IsRows w a len cap A L C Z) : a = none → len = 0 ∧ cap = 0 := by
  intro e
  rcases h with ⟨_, h1, h2⟩ | ⟨x, h1, _⟩
  · exact ⟨h1, h2⟩
  · rw [e] at h1; cases h1
theorem IsRows.row {w : World} {a : Option Addr} {len cap : Nat} {A : Nat → Option Addr} {L C : Nat → Nat} {Z : Nat → List Int} (h : IsRows w a len cap A L C Z) {r : Nat} (hr : r < len) : IsRow .u8 w (A r) (L r) (C r) (Z r) := by
  rcases h with ⟨_, h1, h2⟩ | ⟨x, _, h1, _, h2⟩
  · omega
  · exact (h2 r (by omega)).2
theorem size22 (wx : World) : (sizeOf 22).run Try.prog wx = .ok 1 wx := by kernel_rfl
theorem IsRows.src {w : World} {a : Option Addr} {len cap : Nat} {A : Nat → Option Addr} {L C : Nat → Nat} {Z : Nat → List Int} (h : IsRows w a len cap A L C Z) : SrcR w a len cap A L C := by
  by_cases h0 : len = 0
  · subst h0
    exact ⟨0, 0, fun _ _ hi => absurd hi (by omega), fun _ hi => absurd hi (by omega)⟩
  rcases h with ⟨_, rfl, _⟩ | ⟨x, rfl, hl, _, hc⟩
  · exact absurd rfl h0
  · have hs : x.spot = none := by
      have := (hc 0 (by omega)).1
      rw [show x.add 0 = x from rfl] at this
      unfold World.cell? at this
      split at this
      · cases hsp : x.spot with
        | none => rfl
        | some _ => rw [hsp] at this; simp at this
      · cases this
    obtain ⟨b, off, sp⟩ := x
    simp only at hs
    subst hs
    refine ⟨b, off, fun wx i hi => ?_, fun i hi => ?_⟩
    · have e : Try.prog.elem 45 = 22 := by simp [Program.elem, Try.underlying45]
      rw [run_indexAt_slice wx 45 _ len cap .i64 (i : Int) (by rw [e]; exact Try.underlying45), if_pos ⟨by omega, by omega⟩, e, size22]
      simp only [Result.andThen_ok, Int.toNat_natCast, Nat.mul_one, Addr.add_lit]
    · have := (hc i (by omega)).1
      rw [Addr.add_lit] at this
      exact this

/-- The bytes. -/
def fz (len : Nat) (Z : Nat → List Int) (r j : Nat) : Int := if r < len then (Z r).getD j 0 else 0
theorem fz_bnd {w : World} {a : Option Addr} {len cap : Nat} {A : Nat → Option Addr} {L C : Nat → Nat} {Z : Nat → List Int} (h : IsRows w a len cap A L C Z) (r j : Nat) : 0 ≤ fz len Z r j ∧ fz len Z r j < 256 := by
  unfold fz
  split
  · rename_i hr
    have := bounds_u8 ((h.row hr).wf j rfl)
    omega
  · omega

theorem walk5 (a0 : Option Addr) (len0 cap0 : Nat) (z0 : List Int) (a1 : Option Addr) (len1 cap1 : Nat) (A : Nat → Option Addr) (L C : Nat → Nat) (Z : Nat → List Int) (w : World) (w0 : IsRow .u8 w a0 len0 cap0 z0) (w1 : IsRows w a1 len1 cap1 A L C Z) :
    Calls Try.prog 5 #[.slice a0 len0 cap0, .slice a1 len1 cap1] w fun e w' => e = .returned (.bool true) ∧ Below w.heap.size w w' :=
  slaw a0 len0 cap0 _ a1 len1 cap1 A L C (fz len1 Z) w w0.nil (w0.src Try.underlying22 (fun wx => by kernel_rfl)) (fun i => by have := bounds_u8 (w0.wf i rfl); omega) w1.nil w1.src (fun i hi => (w1.row hi).nil)
    (fun i hi => by
      have h := (w1.row hi).src (t := 22) Try.underlying22 (fun wx => by kernel_rfl)
      have e : fz len1 Z i = fun j => (Z i).getD j 0 := by funext j; unfold fz; rw [if_pos hi]
      rw [e]
      exact h) (fz_bnd w1)

end Go.Proofs.Qxb6003670a.st
