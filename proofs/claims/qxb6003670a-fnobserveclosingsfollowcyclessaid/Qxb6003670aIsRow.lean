import Derived.Test.Qxb6003670aClone
import Derived.OpenShut
namespace Go.Proofs.Qxb6003670a.sm
open Go.RowKit

/-- WHAT THE WALK IS TOLD OF A SLICE OF INTEGERS THAT CAME IN: it is nil; or it leads to a row of 'cap' cells, the numbers 'zs' (the first 'len' are its elements, the rest its spare room), each fitting its kind. -/
def IsRow (k : IntKind) (w : World) (a : Option Addr) (len cap : Nat) (zs : List Int) : Prop :=
  (a = none ∧ len = 0 ∧ cap = 0 ∧ zs = []) ∨
  ∃ x, a = some x ∧ len ≤ cap ∧ cap ≤ maxLen ∧ zs.length = cap ∧ (∀ i, i < zs.length → w.cell? (x.add i) = some (.int k (zs.getD i 0))) ∧ ∀ n ∈ zs, (Lit.int k n).wf = true


theorem IsRow.nil {k : IntKind} {w : World} {a : Option Addr} {len cap : Nat} {zs : List Int} (h : IsRow k w a len cap zs) : a = none → len = 0 ∧ cap = 0 := by
  intro e
  rcases h with ⟨_, h1, h2, _⟩ | ⟨x, h1, _⟩
  · exact ⟨h1, h2⟩
  · rw [e] at h1; cases h1

theorem IsRow.src {t el : TypeId} {k : IntKind} {w : World} {a : Option Addr} {len cap : Nat} {zs : List Int} (ht : Try.prog.underlying t = some (.slice el)) (hz : ∀ wx, (sizeOf el).run Try.prog wx = .ok 1 wx) (h : IsRow k w a len cap zs) : Src t k w a len cap (fun i => zs.getD i 0) := by
  rcases h with ⟨_, rfl, _, _⟩ | ⟨x, rfl, hl, _, hz0, hc, _⟩
  · exact ⟨0, 0, fun _ _ hi => absurd hi (by omega), fun _ hi => absurd hi (by omega)⟩
  · by_cases h0 : len = 0
    · subst h0
      exact ⟨0, 0, fun _ _ hi => absurd hi (by omega), fun _ hi => absurd hi (by omega)⟩
    · have hs : x.spot = none := by
        have := hc 0 (by omega)
        rw [show x.add 0 = x from rfl] at this
        unfold World.cell? at this
        split at this
        · cases hsp : x.spot with
          | none => rfl
          | some _ => rw [hsp] at this; simp at this
        · cases this
      obtain ⟨b, off, sp⟩ := x
      simp only at hs
      subst hs
      refine ⟨b, off, fun wx i hi => ?_, fun i hi => ?_⟩
      · have e : Try.prog.elem t = el := by simp [Program.elem, ht]
        rw [run_indexAt_slice wx t _ len cap .i64 (i : Int) (by rw [e]; exact ht), if_pos ⟨by omega, by omega⟩, e, hz]
        simp only [Result.andThen_ok, Int.toNat_natCast, Nat.mul_one, Addr.add_lit]
      · have := hc i (by omega)
        rw [Addr.add_lit] at this
        exact this

theorem IsRow.wf {k : IntKind} {w : World} {a : Option Addr} {len cap : Nat} {zs : List Int} (h : IsRow k w a len cap zs) (i : Nat) (h0 : (Lit.int k 0).wf = true) : (Lit.int k (zs.getD i 0)).wf = true := by
  have hz : ∀ n ∈ zs, (Lit.int k n).wf = true := by
    rcases h with ⟨_, _, _, rfl⟩ | ⟨x, _, _, _, _, _, hw⟩
    · simp
    · exact hw
  by_cases hi : i < zs.length
  · rw [List.getD_eq_getElem?_getD, List.getElem?_eq_getElem hi]
    exact hz _ (List.getElem_mem hi)
  · rw [List.getD_eq_getElem?_getD, List.getElem?_eq_none (by omega)]
    exact h0
end Go.Proofs.Qxb6003670a.sm

