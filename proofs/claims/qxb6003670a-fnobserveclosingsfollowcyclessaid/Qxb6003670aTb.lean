/-
  THE TRUTH's STRUCT, and what a call leaves as it was.
-/
import Derived.Test.Qxb6003670aTruth
import Derived.Test.Qxb6003670aClose
namespace Go.Proofs.Qxb6003670a.st
open Go.RowKit
open Go.Proofs.Qxb6003670a.sm Go.Proofs.Qxb6003670a.mp Go.Proofs.Qxb6003670a.pl Go.Proofs.Qxb6003670a.rc
open Go.ChangeMaps (setBlock)

/-- Block tb is the struct: waits at bw, standing at bo, seen at bs, cl closings. -/
def TB (w : World) (tb bw bo bk bs : Nat) (cl : Int) : Prop := w.heap[tb]? = some (.cells #[.map (some bw), .map (some bo), .map (some bk), .map (some bs), .int .i64 cl] 76)

section
variable {w w' : World} {tb bw bo bk bs : Nat} {cl : Int}
theorem TB.c0 (h : TB w tb bw bo bk bs cl) : w.cell? ⟨tb, 0, none⟩ = some (.map (some bw)) := by unfold TB at h; simp [World.cell?, h]
theorem TB.c1 (h : TB w tb bw bo bk bs cl) : w.cell? ⟨tb, 1, none⟩ = some (.map (some bo)) := by unfold TB at h; simp [World.cell?, h]
theorem TB.c3 (h : TB w tb bw bo bk bs cl) : w.cell? ⟨tb, 3, none⟩ = some (.map (some bs)) := by unfold TB at h; simp [World.cell?, h]
theorem TB.c4 (h : TB w tb bw bo bk bs cl) : w.cell? ⟨tb, 4, none⟩ = some (.int .i64 cl) := by unfold TB at h; simp [World.cell?, h]
theorem TB.fz (h : TB w tb bw bo bk bs cl) (o : Nat) : w.frozen? ⟨tb, o, none⟩ = false := by unfold TB at h; simp [World.frozen?, h]
theorem TB.lt (h : TB w tb bw bo bk bs cl) : tb < w.heap.size := (Array.getElem?_eq_some_iff.1 h).1
theorem TB.kept (h : TB w tb bw bo bk bs cl) (e : w'.heap[tb]? = w.heap[tb]?) : TB w' tb bw bo bk bs cl := e.trans h
theorem TB.set (h : TB w tb bw bo bk bs cl) (c' : Int) : TB (w.setCell ⟨tb, 4, none⟩ (.int .i64 c')) tb bw bo bk bs c' := by
  unfold TB at *
  simp [World.setCell, Array.getElem?_modify, h]
theorem TB.ne_map {α β : Type} {mk : α → Value} {D : α → Prop} {mv : β → Value} {m : α → Option β} {b : Nat} (h : TB w tb bw bo bk bs cl) (k : IsMap mk D mv w b m) : tb ≠ b := cell_ne_map h.c0 k
end

/-- From w to w': nothing has turned outside T; what is in T' was in T, or is new. -/
structure Fr (w w' : World) (T T' : Nat → Prop) : Prop where
  os : w'.os = w.os
  tape : w'.tape = w.tape
  output : w'.output = w.output
  size : w.heap.size ≤ w'.heap.size
  block : ∀ i, i < w.heap.size → ¬ T i → w'.heap[i]? = w.heap[i]?
  new : ∀ i, T' i → T i ∨ w.heap.size ≤ i

theorem Fr.refl (w : World) (T : Nat → Prop) : Fr w w T T := ⟨rfl, rfl, rfl, Nat.le_refl _, fun _ _ _ => rfl, fun _ h => Or.inl h⟩
theorem Fr.trans {a b c : World} {T T' T'' : Nat → Prop} (h : Fr a b T T') (k : Fr b c T' T'') : Fr a c T T'' := by
  refine ⟨k.os.trans h.os, k.tape.trans h.tape, k.output.trans h.output, Nat.le_trans h.size k.size, fun i hi h1 => ?_, fun i hi => ?_⟩
  · refine (k.block i (Nat.lt_of_lt_of_le hi h.size) (fun h2 => ?_)).trans (h.block i hi h1)
    rcases h.new i h2 with h3 | h3
    · exact h1 h3
    · omega
  · rcases k.new i hi with h3 | h3
    · exact h.new i h3
    · exact Or.inr (Nat.le_trans h.size h3)
theorem Fr.of_below {w w' : World} (h : Below w.heap.size w w') (T : Nat → Prop) : Fr w w' T T := ⟨h.os, h.tape, h.output, h.size, fun i hi _ => h.block i hi, fun _ h => Or.inl h⟩
theorem Fr.drew {w w' : World} {T T' : Nat → Prop} (h : Fr w w' T T') : Fr w w'.drew T T' := ⟨h.os, h.tape, h.output, h.size, h.block, h.new⟩
theorem Fr.grown {w w' : World} {T T' : Nat → Prop} {b : Nat} (h : w.grownBy w' (some b)) (hb : T b) (hn : ∀ i, T' i → T i ∨ w.heap.size ≤ i) : Fr w w' T T' :=
  ⟨h.os, h.tape, h.output, h.size, fun i hi h1 => h.block i hi (fun e => by cases e; exact h1 hb), hn⟩
theorem Fr.grown0 {w w' : World} {T T' : Nat → Prop} (h : w.grownBy w' none) (hn : ∀ i, T' i → T i ∨ w.heap.size ≤ i) : Fr w w' T T' :=
  ⟨h.os, h.tape, h.output, h.size, fun i hi _ => h.block i hi (by simp), hn⟩
theorem Fr.setCell {w w' : World} {T T' : Nat → Prop} (h : Fr w w' T T') {a : Addr} (v : Value) (ha : T' a.block) : Fr w (w'.setCell a v) T T' := by
  refine ⟨h.os, h.tape, h.output, by have := h.size; simpa [World.setCell] using this, fun i hi h1 => ?_, h.new⟩
  refine (Below.heap_setCell w' a v i (fun e => ?_)).trans (h.block i hi h1)
  subst e
  rcases h.new _ ha with h2 | h2
  · exact h1 h2
  · omega
/-- A wider T. -/
theorem Fr.mono {w w' : World} {T T' S S' : Nat → Prop} (h : Fr w w' T T') (h1 : ∀ i, T i → S i) (h2 : ∀ i, S' i → S i ∨ T' i) : Fr w w' S S' :=
  ⟨h.os, h.tape, h.output, h.size, fun i hi hn => h.block i hi (fun k => hn (h1 i k)), fun i hi => by
    rcases h2 i hi with h3 | h3
    · exact Or.inl h3
    · rcases h.new i h3 with h4 | h4
      · exact Or.inl (h1 i h4)
      · exact Or.inr h4⟩
theorem Stp.fr {w w' : World} {bo : Nat} {M M' : Nat → Option Nat} (h : Stp w w' bo M M') (P : Nat → Prop) : Fr w w' (fun i => P i ∨ i = bo ∨ ∃ u, M u = some i) (fun i => P i ∨ i = bo ∨ ∃ u, M' u = some i) :=
  ⟨h.os, h.tape, h.output, h.size, fun i hi h1 => h.block i hi (fun e => h1 (Or.inr (Or.inl e))) (fun u hu => h1 (Or.inr (Or.inr ⟨u, hu⟩))), fun i hi => by
    rcases hi with h1 | h1 | ⟨u, h1⟩
    · exact Or.inl (Or.inl h1)
    · exact Or.inl (Or.inr (Or.inl h1))
    · rcases h.new u i h1 with h2 | h2
      · exact Or.inl (Or.inr (Or.inr ⟨u, h2⟩))
      · exact Or.inr h2⟩

/-- Block g holds the edges L. -/
def ERow (w : World) (g : Nat) (L : List (Nat × Nat)) : Prop := ∀ i (h : i < L.length), w.cell? ⟨g, i * 2, none⟩ = some (.string (nd L[i].1)) ∧ w.cell? ⟨g, i * 2 + 1, none⟩ = some (.string (nd L[i].2))
theorem ERow.kept {w w' : World} {g : Nat} {L : List (Nat × Nat)} (h : ERow w g L) (e : w'.heap[g]? = w.heap[g]?) : ERow w' g L := fun i hi =>
  ⟨(World.cell?_of_block (w := w) (a := ⟨g, i * 2, none⟩) e).trans (h i hi).1, (World.cell?_of_block (w := w) (a := ⟨g, i * 2 + 1, none⟩) e).trans (h i hi).2⟩

theorem edge_iff {w : World} {bo : Nat} {M : Nat → Option Nat} {D : Nat → Nat → Int} (h : Stand w bo M D) (u v : Nat) : rc.Edge M (toS D) u v ↔ After D u v := by
  unfold rc.Edge After toS
  constructor
  · rintro ⟨c, k, _, h2⟩
    intro h0
    rw [if_pos h0] at h2
    cases h2
  · intro h0
    cases hM : M u with
    | none => exact absurd (h.dead u hM v) h0
    | some c => exact ⟨c, D u v, rfl, if_neg h0⟩

theorem sub_take {C : Nat → Nat → Int} {L : List (Nat × Nat)} {i : Nat} (h : i < L.length) : addC (subL C (L.take i)) L[i].1 L[i].2 (-1) = subL C (L.take (i + 1)) := by
  funext x y
  rw [List.take_succ_eq_append_getElem h]
  unfold addC subL
  rw [occ_append]
  simp only [occ]
  by_cases e : x = L[i].1 ∧ y = L[i].2
  · rw [if_pos e, if_pos ⟨e.1.symm, e.2.symm⟩]; omega
  · rw [if_neg e, if_neg (fun k => e ⟨k.1.symm, k.2.symm⟩)]; omega
theorem sub_drop {C : Nat → Nat → Int} {L : List (Nat × Nat)} {i : Nat} (h : i < L.length) : addC (subL C (L.drop i)) L[i].1 L[i].2 1 = subL C (L.drop (i + 1)) := by
  funext x y
  rw [List.drop_eq_getElem_cons h]
  unfold addC subL
  simp only [occ]
  by_cases e : x = L[i].1 ∧ y = L[i].2
  · rw [if_pos e, if_pos ⟨e.1.symm, e.2.symm⟩]; omega
  · rw [if_neg e, if_neg (fun k => e ⟨k.1.symm, k.2.symm⟩)]; omega

/-- A run of one waiter. -/
theorem split_group {L : List (Nat × Nat)} {f j u : Nat} (hfj : f < j) (hj : j ≤ L.length) (hall : ∀ k (h : k < L.length), f ≤ k → k < j → L[k].1 = u) (hend : ∀ h : j < L.length, L[j].1 ≠ u) (hSo : L.Pairwise (fun a b => a.1 ≤ b.1)) :
    ∃ B : List (Nat × Nat), L.drop f = B ++ L.drop j ∧ L.take j = L.take f ++ B ∧ (∀ e ∈ B, e.1 = u) ∧ (∀ e ∈ L.drop j, u < e.1) ∧ (∀ k (h : f + k < L.length), f + k < j → L[f + k] ∈ B) ∧ ∀ e ∈ B, ∃ k, ∃ h : f + k < L.length, f + k < j ∧ L[f + k] = e := by
  have hmem : ∀ k (h : f + k < L.length), f + k < j → ((L.drop f).take (j - f))[k]? = some L[f + k] := fun k h hk => by
    rw [List.getElem?_take, if_pos (by omega), List.getElem?_drop, List.getElem?_eq_getElem h]
  have hof : ∀ e ∈ (L.drop f).take (j - f), ∃ k, ∃ h : f + k < L.length, f + k < j ∧ L[f + k] = e := fun e he => by
    obtain ⟨k, hk, rfl⟩ := List.getElem_of_mem he
    have hk2 : k < j - f ∧ f + k < L.length := by simp at hk; omega
    refine ⟨k, hk2.2, by omega, ?_⟩
    simp
  refine ⟨(L.drop f).take (j - f), ?_, ?_, ?_, ?_, ?_, hof⟩
  · have : L.drop j = (L.drop f).drop (j - f) := by rw [List.drop_drop]; congr 1; omega
    rw [this, List.take_append_drop]
  · have : j = f + (j - f) := by omega
    rw [show L.take j = L.take (f + (j - f)) by rw [← this], List.take_add]
  · intro e he
    obtain ⟨k, h, hk, rfl⟩ := hof e he
    exact hall (f + k) h (by omega) hk
  · intro e he
    obtain ⟨k, hk, rfl⟩ := List.getElem_of_mem he
    have hjk : j + k < L.length := by simp at hk; omega
    have hjl : j < L.length := by omega
    rw [List.getElem_drop]
    have hp := List.pairwise_iff_getElem.1 hSo
    have h1 := hp f j (by omega) hjl hfj
    rw [hall f (by omega) (Nat.le_refl _) hfj] at h1
    have h2 := hend hjl
    by_cases hk0 : k = 0
    · subst hk0
      simp only [Nat.add_zero]
      omega
    · have h3 := hp j (j + k) hjl hjk (by omega)
      omega
  · intro k h hk
    exact List.mem_of_getElem? (hmem k h hk)

end Go.Proofs.Qxb6003670a.st
