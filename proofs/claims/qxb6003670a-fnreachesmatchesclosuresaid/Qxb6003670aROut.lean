import Derived.Test.Qxb6003670aRLaw
import Derived.OpenShut
namespace Go.Proofs.Qxb6003670a.sm
open Go.RowKit

/-- WHAT THE WALK IS TOLD OF A SLICE OF INTEGERS THAT CAME IN: it is nil; or it leads to a row of 'cap' cells, the numbers 'zs' (the first 'len' are its elements, the rest its spare room), each fitting its kind. -/
def IsRow (k : IntKind) (w : World) (a : Option Addr) (len cap : Nat) (zs : List Int) : Prop :=
  (a = none ∧ len = 0 ∧ cap = 0 ∧ zs = []) ∨
  ∃ x, a = some x ∧ len ≤ cap ∧ cap ≤ maxLen ∧ zs.length = cap ∧ (∀ i, i < zs.length → w.cell? (x.add i) = some (.int k (zs.getD i 0))) ∧ ∀ n ∈ zs, (Lit.int k n).wf = true


theorem IsRow.nil {k : IntKind} {w : World} {a : Option Addr} {len cap : Nat} {zs : List Int} (h : IsRow k w a len cap zs) : a = none → len = 0 ∧ cap = 0 := by
  intro e
  rcases h with ⟨_, h1, h2, _⟩ | ⟨x, h1, _⟩
  · exact ⟨h1, h2⟩
  · rw [e] at h1; cases h1

theorem IsRow.src {t el : TypeId} {k : IntKind} {w : World} {a : Option Addr} {len cap : Nat} {zs : List Int} (ht : Try.prog.underlying t = some (.slice el)) (hz : ∀ wx, (sizeOf el).run Try.prog wx = .ok 1 wx) (h : IsRow k w a len cap zs) : Src t k w a len cap (fun i => zs.getD i 0) := by
  rcases h with ⟨_, rfl, _, _⟩ | ⟨x, rfl, hl, _, hz0, hc, _⟩
  · exact ⟨0, 0, fun _ _ hi => absurd hi (by omega), fun _ hi => absurd hi (by omega)⟩
  · by_cases h0 : len = 0
    · subst h0
      exact ⟨0, 0, fun _ _ hi => absurd hi (by omega), fun _ hi => absurd hi (by omega)⟩
    · have hs : x.spot = none := by
        have := hc 0 (by omega)
        rw [show x.add 0 = x from rfl] at this
        unfold World.cell? at this
        split at this
        · cases hsp : x.spot with
          | none => rfl
          | some _ => rw [hsp] at this; simp at this
        · cases this
      obtain ⟨b, off, sp⟩ := x
      simp only at hs
      subst hs
      refine ⟨b, off, fun wx i hi => ?_, fun i hi => ?_⟩
      · have e : Try.prog.elem t = el := by simp [Program.elem, ht]
        rw [run_indexAt_slice wx t _ len cap .i64 (i : Int) (by rw [e]; exact ht), if_pos ⟨by omega, by omega⟩, e, hz]
        simp only [Result.andThen_ok, Int.toNat_natCast, Nat.mul_one, Addr.add_lit]
      · have := hc i (by omega)
        rw [Addr.add_lit] at this
        exact this

theorem IsRow.wf {k : IntKind} {w : World} {a : Option Addr} {len cap : Nat} {zs : List Int} (h : IsRow k w a len cap zs) (i : Nat) (h0 : (Lit.int k 0).wf = true) : (Lit.int k (zs.getD i 0)).wf = true := by
  have hz : ∀ n ∈ zs, (Lit.int k n).wf = true := by
    rcases h with ⟨_, _, _, rfl⟩ | ⟨x, _, _, _, _, _, hw⟩
    · simp
    · exact hw
  by_cases hi : i < zs.length
  · rw [List.getD_eq_getElem?_getD, List.getElem?_eq_getElem hi]
    exact hz _ (List.getElem_mem hi)
  · rw [List.getD_eq_getElem?_getD, List.getElem?_eq_none (by omega)]
    exact h0
end Go.Proofs.Qxb6003670a.sm

namespace Go.Proofs.Qxb6003670a.rc
open Go.RowKit
open Go.Proofs.Qxb6003670a.sm

set_option maxHeartbeats 2000000 in
theorem walk (a0 : Option Addr) (len0 cap0 : Nat) (z0 : List Int) (a1 : Option Addr) (len1 cap1 : Nat) (z1 : List Int) (a2 : Int) (a3 : Int) (w : World) (w0 : IsRow .u8 w a0 len0 cap0 z0) (w1 : IsRow .i64 w a1 len1 cap1 z1) (w2 : (Lit.int .i64 a2).wf = true) (w3 : (Lit.int .i64 a3).wf = true) :
    Calls Try.prog 3 #[.slice a0 len0 cap0, .slice a1 len1 cap1, .int .i64 a2, .int .i64 a3] w fun e w' => e = .returned (.bool true) ∧ Below w.heap.size w w' := by
  have b2 := bounds_i64 w2
  have b3 := bounds_i64 w3
  have H0 := hide w0
  have H1 := hide w1
  clear w0 w1 w2 w3
  by_cases c0 : 256 < (len0 : Int)
  · go_enter Try.func3, Try.ntmps3
    go_wp2_with fail
    refine (bytesR_any _ _ _ _ _ _ _ _ _).mono ?_
    rintro e w' ⟨b, rfl, rfl⟩
    cases b <;> (go_wp2; go_ret; exact ⟨rfl, Below.refl _ _⟩)
  by_cases c1 : 256 < (len1 : Int)
  · go_enter Try.func3, Try.ntmps3
    go_wp2_with fail
    refine (bytesR_any _ _ _ _ _ _ _ _ _).mono ?_
    rintro e w' ⟨b, rfl, rfl⟩
    cases b <;> (go_wp2; go_ret; exact ⟨rfl, Below.refl _ _⟩)
  by_cases c2 : a2 < 0
  · go_enter Try.func3, Try.ntmps3
    go_wp2_with fail
    refine (bytesR_any _ _ _ _ _ _ _ _ _).mono ?_
    rintro e w' ⟨b, rfl, rfl⟩
    cases b <;> (go_wp2; go_ret; exact ⟨rfl, Below.refl _ _⟩)
  by_cases c3 : 9 < a2
  · go_enter Try.func3, Try.ntmps3
    go_wp2_with fail
    refine (bytesR_any _ _ _ _ _ _ _ _ _).mono ?_
    rintro e w' ⟨b, rfl, rfl⟩
    cases b <;> (go_wp2; go_ret; exact ⟨rfl, Below.refl _ _⟩)
  by_cases c4 : a3 < 0
  · go_enter Try.func3, Try.ntmps3
    go_wp2_with fail
    refine (bytesR_any _ _ _ _ _ _ _ _ _).mono ?_
    rintro e w' ⟨b, rfl, rfl⟩
    cases b <;> (go_wp2; go_ret; exact ⟨rfl, Below.refl _ _⟩)
  by_cases c5 : 9 < a3
  · go_enter Try.func3, Try.ntmps3
    go_wp2_with fail
    refine (bytesR_any _ _ _ _ _ _ _ _ _).mono ?_
    rintro e w' ⟨b, rfl, rfl⟩
    cases b <;> (go_wp2; go_ret; exact ⟨rfl, Below.refl _ _⟩)
  obtain ⟨x, rfl⟩ : ∃ x : Nat, a2 = (x : Int) := ⟨a2.toNat, by omega⟩
  obtain ⟨y, rfl⟩ : ∃ y : Nat, a3 = (y : Int) := ⟨a3.toNat, by omega⟩
  exact rlaw a0 len0 cap0 _ a1 len1 cap1 _ x y w (by omega) (by omega) (by omega) (by omega) H0.out.nil (H0.out.src Try.underlying22 (fun wx => by kernel_rfl)) (fun i => by have := bounds_u8 (H0.out.wf i rfl); omega) H1.out.nil (H1.out.src Try.underlying23 (fun wx => by kernel_rfl))

end Go.Proofs.Qxb6003670a.rc
