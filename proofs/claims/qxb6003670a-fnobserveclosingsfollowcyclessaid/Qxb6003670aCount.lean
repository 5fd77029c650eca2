/-
  THE WALK OF '(*truth).count'.
-/
import Derived.Test.Qxb6003670aStand
import Derived.Deep.RegionHeld3
import Derived.Deep.DrawnRows
namespace Go.Proofs.Qxb6003670a.st
open Go.RowKit
open Go.Proofs.Qxb6003670a.sm Go.Proofs.Qxb6003670a.mp Go.Proofs.Qxb6003670a.pl Go.Proofs.Qxb6003670a.rc
open Go.ChangeMaps (setBlock)
attribute [local go_sem ↓] Go.wp_at_zero Go.wp_at_succ

theorem nil30' (r : Option Nat) (w : World) : (binOp .eql 30 (.map r) (.map none)).run Try.prog w = .ok (.bool r.isNone) w := run_eql_map_nil w 30 9 3 r Try.underlying30
theorem cell_ne_map {α β : Type} {mk : α → Value} {D : α → Prop} {mv : β → Value} {m : α → Option β} {w : World} {t o b : Nat} {x : Value} (h : w.cell? ⟨t, o, none⟩ = some x) (k : IsMap mk D mv w b m) : t ≠ b := by
  obtain ⟨_, _, hb, _⟩ := k
  intro e
  subst e
  simp [World.cell?, hb] at h

theorem toS_getD (C : Nat → Nat → Int) (u v : Nat) : (toS C u v).getD 0 = C u v := by
  unfold toS
  by_cases h : C u v = 0
  · rw [if_pos h, h]; rfl
  · rw [if_neg h]; rfl

theorem rest_none {C : Nat → Nat → Int} {u v : Nat} {k : Int} (h : ∀ y, cutS (setS (toS C) u v k) u v u y = none) (y : Nat) (hy : y ≠ v) : C u y = 0 := by
  have := h y
  simp [cutS, cut, setS, put, toS, hy] at this
  exact this
theorem rest_some {C : Nat → Nat → Int} {u v : Nat} {k : Int} (h : ¬ ∀ y, cutS (setS (toS C) u v k) u v u y = none) : ∃ y, y ≠ v ∧ C u y ≠ 0 := by
  by_cases h1 : ∃ y, y ≠ v ∧ C u y ≠ 0
  · exact h1
  · refine absurd (fun y => ?_) h
    by_cases hy : y = v
    · simp [cutS, cut, hy]
    · have h0 : C u y = 0 := by
        by_cases h0 : C u y = 0
        · exact h0
        · exact absurd ⟨y, hy, h0⟩ h1
      simp [cutS, cut, setS, put, toS, hy, h0]

/-- 'to[e.to] += by', and what follows: the row is there. -/
structure Row2 (w : World) (bo tb eb u v c : Nat) (M : Nat → Option Nat) (S : Nat → Nat → Option Int) : Prop where
  graph : Graph w bo M S
  sep : Sep bo M
  at_ : M u = some c
  cell : w.cell? ⟨tb, 1, none⟩ = some (.map (some bo))
  from_ : w.cell? ⟨eb, 0, none⟩ = some (.string (nd u))
  to_ : w.cell? ⟨eb, 1, none⟩ = some (.string (nd v))

theorem Row2.cells {w w' : World} {bo tb eb u v c : Nat} {M M' : Nat → Option Nat} {S S' : Nat → Nat → Option Int} {b : Nat} (h : Row2 w bo tb eb u v c M S) (hg : w.grownBy w' (some b)) (ht : tb ≠ b) (he : eb ≠ b) (hG : Graph w' bo M' S') (hs : Sep bo M') (hM : M' u = some c) : Row2 w' bo tb eb u v c M' S' :=
  ⟨hG, hs, hM, hg.cell h.cell (by simpa using ht), hg.cell h.from_ (by simpa using he), hg.cell h.to_ (by simpa using he)⟩

set_option maxRecDepth 20000 in
set_option maxHeartbeats 2000000 in
theorem count_some (tb bo u v c : Nat) (k : Int) (M : Nat → Option Nat) (C : Nat → Nat → Int) (w : World) (hu : u < 10) (hv : v < 10) (hM : M u = some c) (hSt : Stand w bo M C)
    (htb : w.cell? ⟨tb, 1, none⟩ = some (.map (some bo))) (h1 : -1000000000 ≤ C u v + k) (h2 : C u v + k ≤ 1000000000) :
    Calls Try.prog 33 #[.pointer (some ⟨tb, 0, none⟩), .agg #[.string (nd u), .string (nd v)], .int .i64 k] w fun e w' => e = .returned (.tuple #[]) ∧ ∃ M', Stand w' bo M' (addC C u v k) ∧ Stp w w' bo M M' := by
  have hlt' : tb < w.heap.size := World.block_lt_of_cell? _ _ htb
  have hcl := (hSt.graph.2 u c hM).lt
  have hbl := hSt.graph.1.lt
  have hcb := hSt.sep.out u c hM
  have htb_bo : tb ≠ bo := cell_ne_map htb hSt.graph.1
  have htb_c : tb ≠ c := cell_ne_map htb (hSt.graph.2 u c hM)
  have hb1 : Below w.heap.size w (w.alloc (.cells #[.string (nd u), .string (nd v)] 65)) := (Below.refl _ _).alloc (Nat.le_refl _) _
  have hR1 : Row2 (w.alloc (.cells #[.string (nd u), .string (nd v)] 65)) bo tb w.heap.size u v c M (toS C) := by
    refine ⟨hSt.graph.below hb1, hSt.sep, hM, ?_, ?_, ?_⟩ <;> go_simp
  go_enter Try.func33, Try.ntmps33
  go_wp2
  obtain ⟨wa, hwa⟩ : ∃ wa, wa = w.alloc (.cells #[.string (nd u), .string (nd v)] 65) := ⟨_, rfl⟩
  rw [← hwa] at hb1 hR1
  rw [← hwa]
  clear hwa
  have hlk : (Instr.lookup 27 (.map (some bo)) (.string (nd u)) false).run Try.prog wa.drew = .ok (.map (some c)) wa.drew := by
    have := look27 (w := wa.drew) hR1.graph.1 hu
    rw [hM] at this
    exact this
  have hc1 := hR1.cell
  have hc2 := hR1.from_
  have HR := hide (And.intro hR1 hb1)
  clear hb1 hR1
  go_region_held3 (fun w' => w'.cell? ⟨tb, 1, none⟩ = some (.map (some bo)) ∧ w'.cell? ⟨w.heap.size, 0, none⟩ = some (.string (nd u)) ∧ (Instr.lookup 27 (.map (some bo)) (.string (nd u)) false).run Try.prog w' = .ok (.map (some c)) w')
    (exact ⟨hc1, hc2, hlk⟩) (fail)
  have hR1 : Row2 wa.drew bo tb w.heap.size u v c M (toS C) := ⟨HR.out.1.graph, HR.out.1.sep, hM, hc1, hc2, HR.out.1.to_⟩
  have hb1 := HR.out.2.drew
  obtain ⟨wb, hwb⟩ : ∃ wb, wb = wa.drew := ⟨_, rfl⟩
  rw [← hwb] at hb1 hR1
  rw [← hwb]
  clear hwb HR hlk hc1 hc2 hlt' htb
  have hlk := look30 (hR1.graph.2 u c hM) hv
  rw [toS_getD] at hlk
  obtain ⟨w2, hup, hG2, hg2, hz2⟩ := hR1.graph.setInner hR1.sep hM hv (C u v + k)
  have hR2 := hR1.cells hg2 htb_c (by omega) hG2 hR1.sep hM
  have hlk2 := look30 (hG2.2 u c hM) hv
  rw [show ((setS (toS C) u v (C u v + k)) u v).getD 0 = C u v + k by simp [setS, put]] at hlk2
  have hs2 : Stp w w2 bo M M := (Stp.of_below hb1 bo M).trans (Stp.grown hg2 (Or.inr ⟨u, hM⟩) (fun _ _ h => Or.inl h))
  have hto := hR1.to_
  have hto2 := hR2.to_
  have hnil := nil30'
  have AS := hide (And.intro hSt (And.intro hR2 hs2))
  clear hSt hR1 hR2 hs2 hb1 hG2 hg2
  by_cases hk : C u v + k = 0
  · rw [hk] at hup hlk2
    obtain ⟨hSt, hR2, hs2⟩ := AS.out
    obtain ⟨w3, hdel, hG3, hg3, hz3⟩ := Graph.delInner hR2.graph hR2.sep hM hv 0
    have hR3 := hR2.cells hg3 htb_c (by omega) hG3 hR2.sep hM
    have hs3 : Stp w w3 bo M M := hs2.trans (Stp.grown hg3 (Or.inr ⟨u, hM⟩) (fun _ _ h => Or.inl h))
    obtain ⟨n, hlen, hn⟩ := Graph.lenInner hG3 hM 3
    by_cases hn0 : n = 0
    · subst hn0
      have hall : ∀ y, y ≠ v → C u y = 0 := rest_none (hn.1 rfl)
      obtain ⟨w4, hdel4, hG4, hsep4, hg4, hz4⟩ := Graph.delOuter (w := w3.drew) hG3 hR3.sep hu 0
      have hs4 : Stp w w4 bo M (cut M u) := hs3.trans (Stp.grown (M := M) (show w3.grownBy w4 (some bo) from ⟨hg4.os, hg4.tape, hg4.output, hg4.size, hg4.block⟩) (Or.inl rfl) (fun x d h => by
        unfold cut at h
        split at h
        · cases h
        · exact Or.inl h))
      have hStf : Stand w4 bo (cut M u) (addC C u v k) := hSt.gone (M' := M) (fun _ _ => rfl) hk hall hsep4 (fun x hx => by simp [cutS, setS, hx]) hG4
      have hc1 := hR3.cell
      have hc2 := hR3.from_
      have hc1' : w4.cell? ⟨tb, 1, none⟩ = some (.map (some bo)) := hg4.cell (w := w3.drew) hc1 (by simpa using htb_bo)
      have hc2' : w4.cell? ⟨w.heap.size, 0, none⟩ = some (.string (nd u)) := hg4.cell (w := w3.drew) hc2 (by simp; omega)
      have AF := hide (And.intro hStf hs4)
      clear hSt hR2 hs2 hG3 hg3 hR3 hs3 hn hall hG4 hsep4 hg4 hs4 hStf AS
      go_wp2
      go_region_held3 (fun w' => w'.cell? ⟨tb, 1, none⟩ = some (.map (some bo)) ∧ w'.cell? ⟨w.heap.size, 0, none⟩ = some (.string (nd u))) (first | exact ⟨hc1, hc2⟩ | exact ⟨hc1', hc2'⟩) (fail)
      go_wp2
      go_end0
      exact ⟨rfl, _, AF.out⟩
    · have hall : ∃ y, y ≠ v ∧ C u y ≠ 0 := rest_some (fun h => hn0 (hn.2 h))
      have hStf := hSt.less hM hk hall hG3
      have hn' : ((n : Int) == 0) = false := by simp; omega
      have AF := hide (And.intro hStf hs3)
      clear hSt hR2 hs2 hG3 hg3 hR3 hs3 hn hall hStf AS
      go_wp2
      go_end0
      exact ⟨rfl, M, AF.out⟩
  · go_wp2
    go_end0
    obtain ⟨hSt, hR2, hs2⟩ := AS.out
    exact ⟨rfl, M, hSt.fill hM hk hR2.graph, hs2⟩

set_option maxRecDepth 20000 in
set_option maxHeartbeats 2000000 in
theorem count_none (tb bo u v : Nat) (k : Int) (M : Nat → Option Nat) (C : Nat → Nat → Int) (w : World) (hu : u < 10) (hv : v < 10) (hM : M u = none) (hSt : Stand w bo M C)
    (htb : w.cell? ⟨tb, 1, none⟩ = some (.map (some bo))) (h1 : -1000000000 ≤ k) (h2 : k ≤ 1000000000) :
    Calls Try.prog 33 #[.pointer (some ⟨tb, 0, none⟩), .agg #[.string (nd u), .string (nd v)], .int .i64 k] w fun e w' => e = .returned (.tuple #[]) ∧ ∃ M', Stand w' bo M' (addC C u v k) ∧ Stp w w' bo M M' := by
  have hlt' : tb < w.heap.size := World.block_lt_of_cell? _ _ htb
  have hbl := hSt.graph.1.lt
  have htb_bo : tb ≠ bo := cell_ne_map htb hSt.graph.1
  have hmm := @run_makeMap Try.prog
  have hb1 : Below w.heap.size w (w.alloc (.cells #[.string (nd u), .string (nd v)] 65)) := (Below.refl _ _).alloc (Nat.le_refl _) _
  have hG1 := hSt.graph.below hb1
  have hz1 : (w.alloc (.cells #[.string (nd u), .string (nd v)] 65)).heap.size = w.heap.size + 1 := by simp
  have hc1 : (w.alloc (.cells #[.string (nd u), .string (nd v)] 65)).cell? ⟨tb, 1, none⟩ = some (.map (some bo)) := by go_simp
  have hc2 : (w.alloc (.cells #[.string (nd u), .string (nd v)] 65)).cell? ⟨w.heap.size, 0, none⟩ = some (.string (nd u)) := by go_simp
  have hc3 : (w.alloc (.cells #[.string (nd u), .string (nd v)] 65)).cell? ⟨w.heap.size, 1, none⟩ = some (.string (nd v)) := by go_simp
  go_enter Try.func33, Try.ntmps33
  go_wp2
  obtain ⟨wa, hwa⟩ : ∃ wa, wa = w.alloc (.cells #[.string (nd u), .string (nd v)] 65) := ⟨_, rfl⟩
  rw [← hwa] at hb1 hG1 hc1 hc2 hc3 hz1
  rw [← hwa]
  clear hwa
  have hlk : (Instr.lookup 27 (.map (some bo)) (.string (nd u)) false).run Try.prog wa.drew = .ok (.map none) wa.drew := by
    have := look27 (w := wa.drew) hG1.1 hu
    rw [hM] at this
    exact this
  have HR := hide (And.intro hG1 (And.intro hb1 (And.intro hc3 hz1)))
  clear hb1 hG1 hc3 hz1 hmm htb
  go_region_held3 (fun w' => w'.cell? ⟨tb, 1, none⟩ = some (.map (some bo)) ∧ w'.cell? ⟨w.heap.size, 0, none⟩ = some (.string (nd u)) ∧ (Instr.lookup 27 (.map (some bo)) (.string (nd u)) false).run Try.prog w' = .ok (.map none) w')
    (exact ⟨hc1, hc2, hlk⟩) (fail)
  obtain ⟨wb, hwb⟩ : ∃ wb, wb = wa.drew := ⟨_, rfl⟩
  have hb1 : Below w.heap.size w wb := by rw [hwb]; exact HR.out.2.1.drew
  have hG1 : Graph wb bo M (toS C) := by rw [hwb]; exact HR.out.1
  have hz1 : wb.heap.size = w.heap.size + 1 := by rw [hwb]; exact HR.out.2.2.2
  have hd1 : wb.cell? ⟨tb, 1, none⟩ = some (.map (some bo)) := by rw [hwb]; exact hc1
  have hd2 : wb.cell? ⟨w.heap.size, 0, none⟩ = some (.string (nd u)) := by rw [hwb]; exact hc2
  have hd3 : wb.cell? ⟨w.heap.size, 1, none⟩ = some (.string (nd v)) := by rw [hwb]; exact HR.out.2.2.1
  rw [← hwb]
  clear hwb HR hlk hc1 hc2 hlt'
  have hmm := @run_makeMap Try.prog
  have hnil := nil30'
  obtain ⟨c, hc, hcw⟩ : ∃ c, wb.heap.size = c ∧ w.heap.size < c := ⟨_, rfl, by omega⟩
  obtain ⟨w2, hup0, hG2, hsep2, hg2, hz2⟩ := Graph.newInner (w := wb.drew) hG1 hSt.sep hu
  rw [show wb.drew.heap.size = c from hc] at hup0 hG2 hsep2 hz2
  have hup : (Instr.mapUpdate 27 (.map (some bo)) (.string (nd u)) (.map (some c))).run Try.prog (wb.alloc (.map #[] 0)).drew = .ok () w2 := hup0
  have hc1 : (wb.alloc (.map #[] 0)).cell? ⟨tb, 1, none⟩ = some (.map (some bo)) := (Below.cell ((Below.refl wb.heap.size wb).alloc (Nat.le_refl _) _) (World.block_lt_of_cell? _ _ hd1)).trans hd1
  have hc2 : (wb.alloc (.map #[] 0)).cell? ⟨w.heap.size, 0, none⟩ = some (.string (nd u)) := (Below.cell ((Below.refl wb.heap.size wb).alloc (Nat.le_refl _) _) (World.block_lt_of_cell? _ _ hd2)).trans hd2
  have he1 : w2.cell? ⟨tb, 1, none⟩ = some (.map (some bo)) := hg2.cell (w := wb.drew) hd1 (by simpa using htb_bo)
  have he2 : w2.cell? ⟨w.heap.size, 0, none⟩ = some (.string (nd u)) := hg2.cell (w := wb.drew) hd2 (by simp; omega)
  have he3 : w2.cell? ⟨w.heap.size, 1, none⟩ = some (.string (nd v)) := hg2.cell (w := wb.drew) hd3 (by simp; omega)
  have hs2 : Stp w w2 bo M (put M u c) := (Stp.of_below hb1 bo M).trans (Stp.grown (M := M) (show wb.grownBy w2 (some bo) from ⟨hg2.os, hg2.tape, hg2.output, hg2.size, hg2.block⟩) (Or.inl rfl) (fun x d h => by
    unfold put at h
    split at h
    · cases h; exact Or.inr (by omega)
    · exact Or.inl h))
  have hMu : put M u c u = some c := by simp [put]
  have hR2 : Row2 w2 bo tb w.heap.size u v c (put M u c) (newS (toS C) u) := ⟨hG2, hsep2, hMu, he1, he2, he3⟩
  have htb_c : tb ≠ c := by have := World.block_lt_of_cell? _ _ hd1; simp at this; omega
  have hlk := look30 (hG2.2 u _ hMu) hv
  rw [show ((newS (toS C) u) u v).getD 0 = 0 by simp [newS]] at hlk
  obtain ⟨w3, hup3, hG3, hg3, hz3⟩ := hG2.setInner hsep2 hMu hv k
  have hR3 := hR2.cells hg3 htb_c (by omega) hG3 hsep2 hMu
  have hlk3 := look30 (hG3.2 u _ hMu) hv
  rw [show ((setS (newS (toS C) u) u v k) u v).getD 0 = k by simp [setS, put]] at hlk3
  have hs3 : Stp w w3 bo M (put M u c) := hs2.trans (Stp.grown hg3 (Or.inr ⟨u, hMu⟩) (fun _ _ h => Or.inl h))
  have hC0 := hSt.dead u hM
  have ht3 := hR3.to_
  have AS := hide (And.intro hSt (And.intro hR3 (And.intro hs3 (And.intro hC0 (And.intro hMu hM)))))
  clear hz1 hup0 hz2 hb1 hG1 hG2 hsep2 hg2 hs2 hR2 hg3 hR3 hs3 hC0 hG3 hSt hMu hM
  by_cases hk : k = 0
  · subst hk
    obtain ⟨hSt, hR3, hs3, hC0, hMu, hM⟩ := AS.out
    obtain ⟨w4, hdel, hG4, hg4, hz4⟩ := Graph.delInner hR3.graph hR3.sep hMu hv 0
    have hR4 := hR3.cells hg4 htb_c (by omega) hG4 hR3.sep hMu
    have hs4 : Stp w w4 bo M (put M u c) := hs3.trans (Stp.grown hg4 (Or.inr ⟨u, hMu⟩) (fun _ _ h => Or.inl h))
    obtain ⟨n, hlen, hn⟩ := Graph.lenInner hG4 hMu 3
    have hn0 : n = 0 := hn.2 (fun y => by
      by_cases hy : y = v
      · simp [cutS, cut, hy]
      · simp [cutS, cut, setS, put, newS, hy])
    subst hn0
    obtain ⟨w5, hdel5, hG5, hsep5, hg5, hz5⟩ := Graph.delOuter (w := w4.drew) hG4 hR4.sep hu 0
    have hs5 : Stp w w5 bo M (cut (put M u c) u) := hs4.trans (Stp.grown (M := put M u c) (show w4.grownBy w5 (some bo) from ⟨hg5.os, hg5.tape, hg5.output, hg5.size, hg5.block⟩) (Or.inl rfl) (fun x d h => by
      unfold cut at h
      split at h
      · cases h
      · exact Or.inl h))
    have hStf : Stand w5 bo (cut (put M u c) u) (addC C u v 0) := hSt.gone (M' := put M u c) (fun x hx => by simp [put, hx]) (by rw [hC0]; rfl) (fun y _ => hC0 y) hsep5 (fun x hx => by simp [cutS, setS, newS, hx]) hG5
    have hf1 := hR4.cell
    have hf2 := hR4.from_
    have hf1' : w5.cell? ⟨tb, 1, none⟩ = some (.map (some bo)) := hg5.cell (w := w4.drew) hf1 (by simpa using htb_bo)
    have hf2' : w5.cell? ⟨w.heap.size, 0, none⟩ = some (.string (nd u)) := hg5.cell (w := w4.drew) hf2 (by simp; omega)
    have AF := hide (And.intro hStf hs5)
    clear hSt hR3 hs3 hC0 hMu hM hG4 hg4 hR4 hs4 hn hG5 hsep5 hg5 hs5 hStf AS
    go_wp2
    go_region_held3 (fun w' => w'.cell? ⟨tb, 1, none⟩ = some (.map (some bo)) ∧ w'.cell? ⟨w.heap.size, 0, none⟩ = some (.string (nd u))) (first | exact ⟨hc1, hc2⟩ | exact ⟨he1, he2⟩) (fail)
    go_wp2
    go_region_held3 (fun w' => w'.cell? ⟨tb, 1, none⟩ = some (.map (some bo)) ∧ w'.cell? ⟨w.heap.size, 0, none⟩ = some (.string (nd u))) (first | exact ⟨hf1, hf2⟩ | exact ⟨hf1', hf2'⟩) (fail)
    go_wp2
    go_end0
    exact ⟨rfl, _, AF.out⟩
  · go_wp2
    go_region_held3 (fun w' => w'.cell? ⟨tb, 1, none⟩ = some (.map (some bo)) ∧ w'.cell? ⟨w.heap.size, 0, none⟩ = some (.string (nd u))) (first | exact ⟨hc1, hc2⟩ | exact ⟨he1, he2⟩) (fail)
    go_wp2
    go_end0
    obtain ⟨hSt, hR3, hs3, hC0, hMu, hM⟩ := AS.out
    exact ⟨rfl, _, hSt.fillNew hM (by rw [hC0]; simpa using hk) hR3.sep (by rw [hC0]; simpa using hR3.graph), hs3⟩

/-- '(*truth).count'. -/
theorem count_any (tb bo u v : Nat) (k : Int) (M : Nat → Option Nat) (C : Nat → Nat → Int) (w : World) (hu : u < 10) (hv : v < 10) (hSt : Stand w bo M C)
    (htb : w.cell? ⟨tb, 1, none⟩ = some (.map (some bo))) (h1 : -1000000 ≤ k) (h2 : k ≤ 1000000) (h3 : -100000000 ≤ C u v) (h4 : C u v ≤ 100000000) :
    Calls Try.prog 33 #[.pointer (some ⟨tb, 0, none⟩), .agg #[.string (nd u), .string (nd v)], .int .i64 k] w fun e w' => e = .returned (.tuple #[]) ∧ ∃ M', Stand w' bo M' (addC C u v k) ∧ Stp w w' bo M M' := by
  cases hM : M u with
  | none => exact count_none tb bo u v k M C w hu hv hM hSt htb (by omega) (by omega)
  | some c => exact count_some tb bo u v c k M C w hu hv hM hSt htb (by omega) (by omega)

end Go.Proofs.Qxb6003670a.st
