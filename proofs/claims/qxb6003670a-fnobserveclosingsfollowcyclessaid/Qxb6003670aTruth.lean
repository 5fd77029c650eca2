/-
  'newTruth'; 'ZZCount'.
-/
import Derived.Test.Qxb6003670aAgree
namespace Go.Proofs.Qxb6003670a.st
open Go.RowKit
open Go.Proofs.Qxb6003670a.sm Go.Proofs.Qxb6003670a.mp Go.Proofs.Qxb6003670a.pl Go.Proofs.Qxb6003670a.rc

/-- The world behind 'newTruth'. -/
def truthW (w : World) : World := ((((w.alloc (.map #[] 0)).alloc (.map #[] 0)).alloc (.map #[] 0)).alloc (.map #[] 0)).alloc
  (.cells #[.map (some w.heap.size), .map (some (w.heap.size + 1)), .map (some (w.heap.size + 1 + 1)), .map (some (w.heap.size + 1 + 1 + 1)), .int .i64 0] 76)

theorem truth_any (w : World) : Calls Try.prog 32 #[] w fun e w' => e = .returned (.pointer (some ⟨w.heap.size + 4, 0, none⟩)) ∧ w' = truthW w := by
  have hmm := @run_makeMap Try.prog
  go_enter Try.func32, Try.ntmps32
  go_wp2
  go_ret
  exact ⟨rfl, rfl⟩
theorem zztruth_any (w : World) : Calls Try.prog 16 #[] w fun e w' => e = .returned (.pointer (some ⟨w.heap.size + 4, 0, none⟩)) ∧ w' = truthW w := by
  go_enter Try.func16, Try.ntmps16
  go_wp2_with (go_at_call 32; refine (truth_any _).mono ?_; rintro e w' ⟨rfl, rfl⟩)
  go_ret
  exact ⟨rfl, rfl⟩

theorem zzcount_any (tb bo u v : Nat) (k : Int) (M : Nat → Option Nat) (C : Nat → Nat → Int) (w : World) (hu : u < 10) (hv : v < 10) (hSt : Stand w bo M C)
    (htb : w.cell? ⟨tb, 1, none⟩ = some (.map (some bo))) (h1 : -1000000 ≤ k) (h2 : k ≤ 1000000) (h3 : -100000000 ≤ C u v) (h4 : C u v ≤ 100000000) :
    Calls Try.prog 17 #[.pointer (some ⟨tb, 0, none⟩), .string (nd u), .string (nd v), .int .i64 k] w fun e w' => e = .returned (.tuple #[]) ∧ ∃ M', Stand w' bo M' (addC C u v k) ∧ Stp w w' bo M M' := by
  have A := hide (And.intro hSt htb)
  clear hSt htb
  go_enter Try.func17, Try.ntmps17
  go_wp2_with (go_at_call 33; refine (count_any tb bo u v k M C _ hu hv A.out.1 A.out.2 h1 h2 h3 h4).mono ?_; rintro e w' ⟨rfl, hb⟩)
  go_end0
  exact ⟨rfl, hb⟩

theorem truth_size (w : World) : (truthW w).heap.size = w.heap.size + 5 := by simp [truthW]
theorem truth_below (w : World) : Below w.heap.size w (truthW w) := by
  unfold truthW
  exact (((((Below.refl _ _).alloc (Nat.le_refl _) _).alloc (by simp) _).alloc (by simp; omega) _).alloc (by simp; omega) _).alloc (by simp; omega) _
theorem truth_map (w : World) (i : Nat) (hi : i < 4) : (truthW w).heap[w.heap.size + i]? = some (.map #[] 0) := by
  show (((((w.heap.push _).push _).push _).push _).push _)[w.heap.size + i]? = _
  simp only [Array.getElem?_push, Array.size_push]
  by_cases h3 : i = 3
  · subst h3; simp
  by_cases h2 : i = 2
  · subst h2; simp
  by_cases h1 : i = 1
  · subst h1; simp
  have h0 : i = 0 := by omega
  subst h0; simp; omega
theorem truth_cells (w : World) : (truthW w).heap[w.heap.size + 4]? = some (.cells #[.map (some w.heap.size), .map (some (w.heap.size + 1)), .map (some (w.heap.size + 1 + 1)), .map (some (w.heap.size + 1 + 1 + 1)), .int .i64 0] 76) := by
  show (((((w.heap.push _).push _).push _).push _).push _)[w.heap.size + 4]? = _
  simp only [Array.getElem?_push, Array.size_push]
  simp
theorem made_at {α β : Type} (mk : α → Value) (D : α → Prop) (mv : β → Value) {w : World} {b : Nat} (h : w.heap[b]? = some (.map #[] 0)) : IsMap mk D mv w b (fun _ => none) :=
  ⟨#[], 0, h, MapKept.stamped_empty 0, ⟨by simp, by simp⟩⟩

theorem truth_stand (w : World) : Stand (truthW w) (w.heap.size + 1) (fun _ => none) (fun _ _ => 0) :=
  ⟨⟨made_at _ _ _ (truth_map w 1 (by omega)), fun u c h => by cases h⟩, ⟨fun _ _ _ h => (by cases h), fun _ _ h => (by cases h)⟩, fun _ _ h => (by cases h), fun _ _ _ => rfl⟩
theorem truth_cell1 (w : World) : (truthW w).cell? ⟨w.heap.size + 4, 1, none⟩ = some (.map (some (w.heap.size + 1))) := by
  simp [World.cell?, truth_cells w]

end Go.Proofs.Qxb6003670a.st
