/-
  zzSnapshotOf: what it keeps.
-/
import Derived.Test.Qxb6003670aOf3
import Derived.Deep.RegionLaw
namespace Go.Proofs.Qxb6003670a.st
open Go.RowKit
open Go.Proofs.Qxb6003670a.sm Go.Proofs.Qxb6003670a.mp Go.Proofs.Qxb6003670a.pl Go.Proofs.Qxb6003670a.rc
attribute [local go_sem ↓] Go.wp_at_zero Go.wp_at_succ

/-- 'append' in a region that draws, its run known. -/
theorem step_append_run {P : Program} {ops : Array Oper} {o : Oper} {a : Act} {w w' : World} {K : Act → World → Prop} {Q : Exit → Act → World → Prop} {E : Prop}
    (hg : o.guard = none) (s x : Operand) (t : TypeId) (hop : o.op = Op.call { callee := Callee.builtin Builtin.append, args := #[s, x], argTypes := #[t, t] }) (v1 v2 v' : Value) (hs : a.eval s = v1) (hx : a.eval x = v2)
    (hr : (Builtin.append_ #[t, t] o.type #[v1, v2]).run P w = .ok v' w') (hK : K (a.put o.dst v') w') :
    if Region.wanted o (yielded ops a.tmps) = true then Oper.wp P o a w K Q else E := by
  have hw : Region.wanted o (yielded ops a.tmps) = true := by simp [Region.wanted, hg]
  rw [if_pos hw]
  unfold Oper.wp
  simp [execOp, hop, resolve, invoke, builtin, hs, hx, hr, Result.andThen]
  exact hK

/-- The node's name, the world told. -/
theorem node_at (i : Nat) (h : i < 100) (w : World) :
    Calls Try.prog 10 #[.int .i64 i] w fun e w' => e = .returned (.string (nd i)) ∧ w' = w.alloc (.cells #[.int .u8 (97 + (i : Int))] 5) := by
  have hc : (convert 22 9 (.slice (some ⟨w.heap.size, 0, none⟩) 1 1)).run Try.prog (w.alloc (.cells #[.int .u8 (97 + (i : Int))] 5)) = .ok (.string (nd i)) (w.alloc (.cells #[.int .u8 (97 + (i : Int))] 5)) := by
    rw [conv1]
    unfold nd
    rw [show (97 + (i : Int)).toNat = 97 + i by omega]
  go_enter Try.func10, Try.ntmps10
  go_wp2
  go_ret
  exact ⟨rfl, rfl⟩

theorem cells_new (w : World) (cs : List Value) (t : TypeId) : ∀ j u, cs[j]? = some u → (w.alloc (.cells cs.toArray t)).cell? ((⟨w.heap.size, 0, none⟩ : Addr).add j) = some u := by
  intro j u hj
  rw [Addr.add_mid, Nat.zero_add, cell_of_row _ _ j cs.toArray t (0, 0) (heap_alloc_last w _)]
  simpa using hj

/-- 'ws = append(ws, name)'. -/
theorem push_str (w : World) (N : Nat) (v : Value) (L : List Nat) (x : Nat) (hown : w.ownsRow N 9 1 v L.length (L.map ndV)) (hk : L.length ≤ 100000) (hN : N ≤ w.heap.size) :
    ∃ g' cap' w', (Builtin.append_ #[69, 69] 69 #[v, .slice (some ⟨w.heap.size, 0, none⟩) 1 1]).run Try.prog (w.alloc (.cells #[.string (nd x)] 9)) = .ok (.slice (some ⟨g', 0, none⟩) (L.length + 1) cap') w' ∧
      w'.ownsRow N 9 1 (.slice (some ⟨g', 0, none⟩) (L.length + 1) cap') (L ++ [x]).length ((L ++ [x]).map ndV) ∧ w.grownBy w' v.ownBlock := by
  obtain ⟨i, hi, hzz⟩ := Option.map_eq_some_iff.1 info9
  simp only [Prod.mk.injEq] at hzz
  obtain ⟨hz, hs, hb⟩ := hzz
  obtain ⟨g', cap', w', h1, h2, h3, h4, _⟩ := run_append_lies (P := Try.prog) (w.alloc (.cells #[.string (nd x)] 9)) 69 69 N 9 i _ 1 16 Try.underlying69 hi hz hs hb rfl (by omega) v L.length (L.map ndV) (hown.alloc _)
    ⟨w.heap.size, 0, none⟩ 1 1 [.string (nd x)] rfl (cells_new w [.string (nd x)] 9) (by simp [Value.oneCell']) (by omega) (by unfold maxLen; omega) (by omega) (by simp; omega) _ rfl
  refine ⟨g', cap', w', h1, ?_, (World.grownBy_alloc w _ v.ownBlock).trans h3⟩
  rw [List.map_append, List.length_append]
  exact h2

/-- A process as it lies: its ID, whom it waits for, their row's block and capacity. -/
structure Pr where
  u : Nat
  ws : List Nat
  g : Nat
  cap : Nat
def pc6 (p : Pr) : List Value := [.string (nd p.u), .string ⟨#[]⟩, .slice (some ⟨p.g, 0, none⟩) p.ws.length p.cap, .pointer none, .int .i64 0, .int .i64 0]
def pcs (Q : List Pr) : List Value := Q.flatMap pc6
theorem pcs_at (L : List Pr) (i : Nat) (h : i < L.length) (k : Nat) (hk : k < 6) : (pcs L)[i * 6 + k]? = (pc6 L[i])[k]? := by
  induction L generalizing i with
  | nil => simp at h
  | cons e r ih =>
    have hl : (pc6 e).length = 6 := rfl
    cases i with
    | zero =>
      simp only [pcs, List.flatMap_cons, Nat.zero_mul, Nat.zero_add, List.getElem_cons_zero]
      rw [List.getElem?_append_left (by omega)]
    | succ j =>
      have := ih j (by simpa using h)
      simp only [pcs, List.flatMap_cons, List.getElem_cons_succ] at this ⊢
      rw [List.getElem?_append_right (by omega), hl, show (j + 1) * 6 + k - 6 = j * 6 + k by omega]
      exact this
theorem info72 : (Try.prog.info? 72).map (fun i => (i.zero, i.size, i.bytes)) = some (some (.agg #[.string ⟨#[]⟩, .string ⟨#[]⟩, .slice none 0 0, .pointer none, .int .i64 0, .int .i64 0]), 6, 80) := by kernel_rfl

/-- 's.Processes = append(s.Processes, p)'. -/
theorem push_proc (w : World) (N : Nat) (v : Value) (L : List Pr) (p : Pr) (hown : w.ownsRow N 72 6 v L.length (pcs L)) (hk : L.length ≤ 100000) (hN : N ≤ w.heap.size) :
    ∃ g' cap' w', (Builtin.append_ #[53, 53] 53 #[v, .slice (some ⟨w.heap.size, 0, none⟩) 1 1]).run Try.prog (w.alloc (.cells (pc6 p).toArray 72)) = .ok (.slice (some ⟨g', 0, none⟩) (L.length + 1) cap') w' ∧
      w'.ownsRow N 72 6 (.slice (some ⟨g', 0, none⟩) (L.length + 1) cap') (L ++ [p]).length (pcs (L ++ [p])) ∧ w.grownBy w' v.ownBlock ∧ (v.ownBlock = some g' ∨ w.heap.size < g') := by
  obtain ⟨i, hi, hzz⟩ := Option.map_eq_some_iff.1 info72
  simp only [Prod.mk.injEq] at hzz
  obtain ⟨hz, hs, hb⟩ := hzz
  obtain ⟨g', cap', w', h1, h2, h3, h4, _⟩ := run_append_lies (P := Try.prog) (w.alloc (.cells (pc6 p).toArray 72)) 53 53 N 72 i _ 6 80 Try.underlying53 hi hz hs hb rfl (by omega) v L.length (pcs L) (hown.alloc _)
    ⟨w.heap.size, 0, none⟩ 1 1 (pc6 p) rfl (cells_new w (pc6 p) 72) (by simp [pc6, Value.oneCell']) (by omega) (by unfold maxLen; omega) (by omega) (by simp; omega) _ rfl
  refine ⟨g', cap', w', h1, ?_, (World.grownBy_alloc w _ v.ownBlock).trans h3, ?_⟩
  · have e1 : pcs (L ++ [p]) = pcs L ++ pc6 p := by simp [pcs]
    rw [e1, List.length_append]
    exact h2
  · rcases h4 with h4 | h4
    · exact Or.inl h4
    · right; simp at h4; omega

/-- Whom u waits for, of the first n edges. -/
def wsn (f : Nat → Int) (n u : Nat) : List Nat := ((egs f n).filter (fun e => e.1 == u)).map Prod.snd
def psn (f : Nat → Int) (len n : Nat) : List (Nat × List Nat) := (List.range n).flatMap (fun k => if wsn f len k = [] then [] else [(k, wsn f len k)])
theorem wsn_hit (f : Nat → Int) (n u v : Nat) (h : eg f n = (u, v)) : wsn f (n + 1) u = wsn f n u ++ [v] := by
  unfold wsn
  rw [egs_succ, List.filter_append, List.map_append, h]
  simp
theorem wsn_miss (f : Nat → Int) (n u u' v : Nat) (h : eg f n = (u', v)) (hne : u' ≠ u) : wsn f (n + 1) u = wsn f n u := by
  unfold wsn
  rw [egs_succ, List.filter_append, List.map_append, h]
  simp [hne]
theorem wsn_len (f : Nat → Int) (n u : Nat) : (wsn f n u).length ≤ n := by
  unfold wsn
  rw [List.length_map]
  refine Nat.le_trans (List.length_filter_le _ _) ?_
  simp [egs]
theorem psn_succ (f : Nat → Int) (len n : Nat) : psn f len (n + 1) = psn f len n ++ (if wsn f len n = [] then [] else [(n, wsn f len n)]) := by
  unfold psn
  rw [List.range_succ, List.flatMap_append]
  simp

/-- What the outer loop keeps. -/
structure SN (w wr : World) (N : Nat) (Q : List Pr) (v : Value) : Prop where
  cell : wr.cell? ⟨N + 1, 0, none⟩ = some v
  fz : wr.frozen? ⟨N + 1, 0, none⟩ = false
  res : wr.cell? ⟨N, 0, none⟩ = some (.slice none 0 0)
  rfz : wr.frozen? ⟨N, 0, none⟩ = false
  own : wr.ownsRow (N + 2) 72 6 v Q.length (pcs Q)
  rows : ∀ p ∈ Q, N + 2 ≤ p.g ∧ p.g < wr.heap.size ∧ v.ownBlock ≠ some p.g ∧ ∀ j (h : j < p.ws.length), wr.cell? ⟨p.g, j, none⟩ = some (.string (nd p.ws[j]))
  below : Below N w wr
  size : N + 2 ≤ wr.heap.size

theorem SN.mono {w wr w' : World} {N : Nat} {Q : List Pr} {v : Value} (h : SN w wr N Q v) (hb : Below wr.heap.size wr w') : SN w w' N Q v := by
  have hs := h.size
  have hz := hb.size
  have hc : ∀ {b o : Nat} {x : Value}, wr.cell? ⟨b, o, none⟩ = some x → w'.cell? ⟨b, o, none⟩ = some x := fun hx => (hb.cell (World.block_lt_of_cell? _ _ hx)).trans hx
  have hf : ∀ {b : Nat}, b < wr.heap.size → w'.frozen? ⟨b, 0, none⟩ = wr.frozen? ⟨b, 0, none⟩ := fun hx => World.frozen?_of_block (w := wr) (a := ⟨_, 0, none⟩) (hb.block _ hx)
  refine ⟨hc h.cell, (hf (by omega)).trans h.fz, hc h.res, (hf (by omega)).trans h.rfz, own_same h.own (fun k hk => hb.block k (h.own.lt k hk).2), fun p hp => ?_, h.below.trans (hb.mono (by omega)), by omega⟩
  obtain ⟨h1, h2, h3, h4⟩ := h.rows p hp
  exact ⟨h1, by omega, h3, fun j hj => hc (h4 j hj)⟩

/-- A process more: wq the world with its row, wa where it is appended. -/
theorem SN.push {w wr : World} {N : Nat} {Q : List Pr} {v : Value} (h : SN w wr N Q v) {B : Nat} (hB : ∀ k, v.ownBlock = some k → k < B) {u g cap : Nat} {ws : List Nat} (hg : B ≤ g ∧ g < wr.heap.size) (hBN : N + 2 ≤ B) (hrow : ∀ j (hj : j < ws.length), wr.cell? ⟨g, j, none⟩ = some (.string (nd ws[j]))) (hQ : Q.length ≤ 100) :
    ∃ v' w4, (Builtin.append_ #[53, 53] 53 #[v, .slice (some ⟨wr.heap.size, 0, none⟩) 1 1]).run Try.prog (wr.alloc (.cells #[.string (nd u), .string ⟨#[]⟩, .slice (some ⟨g, 0, none⟩) ws.length cap, .pointer none, .int .i64 0, .int .i64 0] 72)) = .ok v' w4 ∧
      w4.cell? ⟨N + 1, 0, none⟩ = some v ∧ w4.frozen? ⟨N + 1, 0, none⟩ = false ∧ v'.oneCell' = true ∧ (∃ g' cap', v' = .slice (some ⟨g', 0, none⟩) (Q.length + 1) cap') ∧ SN w (w4.setCell ⟨N + 1, 0, none⟩ v') N (Q ++ [⟨u, ws, g, cap⟩]) v' := by
  obtain ⟨g', cap', w4, hr, hown, hgr, hwho⟩ := push_proc wr (N + 2) v Q ⟨u, ws, g, cap⟩ h.own (by omega) h.size
  have hs := h.size
  have hz := hgr.size
  have hvb : ∀ k, v.ownBlock = some k → N + 2 ≤ k := fun k hk => (h.own.lt k hk).1
  have hbl : ∀ i, i < wr.heap.size → v.ownBlock ≠ some i → w4.heap[i]? = wr.heap[i]? := fun i hi hne => hgr.block i hi (fun e => hne e.symm)
  have hN1 : v.ownBlock ≠ some (N + 1) := fun e => by have := hvb _ e; omega
  have hN0 : v.ownBlock ≠ some N := fun e => by have := hvb _ e; omega
  have hgv : v.ownBlock ≠ some g := fun e => by have := hB _ e; omega
  have hg'1 : N + 2 ≤ g' := (hown.lt g' rfl).1
  have c4 : w4.cell? ⟨N + 1, 0, none⟩ = some v := (World.cell?_of_block (w := wr) (a := ⟨N + 1, 0, none⟩) (hbl (N + 1) (by omega) hN1)).trans h.cell
  have f4 : w4.frozen? ⟨N + 1, 0, none⟩ = false := (World.frozen?_of_block (w := wr) (a := ⟨N + 1, 0, none⟩) (hbl (N + 1) (by omega) hN1)).trans h.fz
  refine ⟨_, w4, hr, c4, f4, rfl, ⟨g', cap', rfl⟩, ?_⟩
  have hset : ∀ i, i ≠ N + 1 → (w4.setCell ⟨N + 1, 0, none⟩ (.slice (some ⟨g', 0, none⟩) (Q.length + 1) cap')).heap[i]? = w4.heap[i]? := fun i hi => Below.heap_setCell w4 _ _ i hi
  have hb4 : Below N w w4 := h.below.grown hgr (by omega) (fun k hk => by have := hvb k hk; omega)
  refine ⟨World.cell?_setCell_same _ _ _ c4, by rw [World.frozen?_setCell]; exact f4, ?_, ?_, own_same hown (fun k hk => hset k (by cases hk; show g' ≠ N + 1; omega)), fun p hp => ?_, hb4.setCell (by show N ≤ N + 1; omega) _, by simp [World.setCell]; omega⟩
  · exact (World.cell?_of_block (w := w4) (a := ⟨N, 0, none⟩) (hset N (by omega))).trans ((World.cell?_of_block (w := wr) (a := ⟨N, 0, none⟩) (hbl N (by omega) hN0)).trans h.res)
  · exact (World.frozen?_of_block (w := w4) (a := ⟨N, 0, none⟩) (hset N (by omega))).trans ((World.frozen?_of_block (w := wr) (a := ⟨N, 0, none⟩) (hbl N (by omega) hN0)).trans h.rfz)
  · have key : ∀ (q : Pr), N + 2 ≤ q.g → q.g < wr.heap.size → v.ownBlock ≠ some q.g → (∀ j (hj : j < q.ws.length), wr.cell? ⟨q.g, j, none⟩ = some (.string (nd q.ws[j]))) → N + 2 ≤ q.g ∧ q.g < (w4.setCell ⟨N + 1, 0, none⟩ (.slice (some ⟨g', 0, none⟩) (Q.length + 1) cap')).heap.size ∧ (Value.slice (some ⟨g', 0, none⟩) (Q.length + 1) cap').ownBlock ≠ some q.g ∧ ∀ j (hj : j < q.ws.length), (w4.setCell ⟨N + 1, 0, none⟩ (.slice (some ⟨g', 0, none⟩) (Q.length + 1) cap')).cell? ⟨q.g, j, none⟩ = some (.string (nd q.ws[j])) := fun q h1 h2 h3 h4 => by
      refine ⟨h1, by simp [World.setCell]; omega, fun e => ?_, fun j hj => ?_⟩
      · have e1 : g' = q.g := by simpa [Value.ownBlock] using e
        rcases hwho with hh | hh
        · exact h3 (by rw [hh, e1])
        · omega
      · exact (World.cell?_of_block (w := w4) (a := ⟨q.g, j, none⟩) (hset q.g (by omega))).trans ((World.cell?_of_block (w := wr) (a := ⟨q.g, j, none⟩) (hbl _ h2 h3)).trans (h4 j hj))
    rcases List.mem_append.1 hp with hp | hp
    · obtain ⟨h1, h2, h3, h4⟩ := h.rows p hp
      exact key p h1 h2 h3 h4
    · rw [List.mem_singleton.1 hp]
      exact key ⟨u, ws, g, cap⟩ (by show N + 2 ≤ g; omega) hg.2 hgv hrow

end Go.Proofs.Qxb6003670a.st
