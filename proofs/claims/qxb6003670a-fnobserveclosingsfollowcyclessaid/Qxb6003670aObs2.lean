/-
  'observe', a round of its inner loop: the three ways.
-/
import Derived.Test.Qxb6003670aObs1
import Derived.Deep.RegionHeld3
import Derived.Deep.DrawnRows
namespace Go.Proofs.Qxb6003670a.st
open Go.RowKit
open Go.Proofs.Qxb6003670a.sm Go.Proofs.Qxb6003670a.mp Go.Proofs.Qxb6003670a.pl Go.Proofs.Qxb6003670a.rc
open Go.ChangeMaps (setBlock)

theorem look30opt {w : World} {bo u v : Nat} {M : Nat → Option Nat} {C : Nat → Nat → Int} (h : Stand w bo M C) (hv : v < 10) : (Instr.lookup 30 (.map (M u)) (.string (nd v)) false).run Try.prog w = .ok (.int .i64 (C u v)) w := by
  cases hM : M u with
  | none => rw [h.dead u hM v]; exact look30nil w hv
  | some c =>
    have := look30 (h.graph.2 u c hM) hv
    rw [toS_getD] at this
    exact this

/-- What 'observe' is told. -/
structure OPre (w : World) (tb bw bo bk bs s cap : Nat) (M W : Nat → Option Nat) (C : Nat → Nat → Int) (TT : Nat → Nat × Nat → Option Int) (cl now : Int) (A : Option Addr) (PS : List (Nat × List Nat)) : Prop where
  ti : TI w tb bw bo bk bs M C W TT cl
  snap : SnapIs w A cap PS
  ps8 : ∀ i (h : i < PS.length), PS[i].1 < 8 ∧ PS[i].2.length ≤ 1000 ∧ ∀ j (h' : j < PS[i].2.length), PS[i].2[j] < 8
  sorted : PS.Pairwise (fun a b => a.1 ≤ b.1)
  few : (flat PS).length ≤ 1000
  cb : ∀ u v, -1000 ≤ C u v ∧ C u v ≤ 1000
  clb : 0 ≤ cl ∧ cl ≤ 100000

/-- What the inner loop keeps: p's block is pb, its ID u. -/
structure In (w2 wr : World) (N : Nat) (T : Nat × Nat → Option Int) (now : Int) (C : Nat → Nat → Int) (X : List (Nat × Nat)) (v : Value) (pb u : Nat) : Prop where
  o1 : O1 w2 wr N T now C X v
  cell : wr.cell? ⟨pb, 0, none⟩ = some (.string (nd u))
  ne : v.ownBlock ≠ some pb
  big : N + 2 ≤ pb

section
variable {w2 wr : World} {N pb u x : Nat} {T : Nat × Nat → Option Int} {now : Int} {C : Nat → Nat → Int} {X : List (Nat × Nat)} {v : Value}
theorem In.alloc (h : In w2 wr N T now C X v pb u) (o : Obj) : In w2 (wr.alloc o) N T now C X v pb u :=
  ⟨h.o1.alloc o, ((World.cell?_of_block (w := wr) (a := ⟨pb, 0, none⟩) (heap_alloc_old wr o (World.block_lt_of_cell? _ _ h.cell)))).trans h.cell, h.ne, h.big⟩
theorem In.drew (h : In w2 wr N T now C X v pb u) : In w2 wr.drew N T now C X v pb u := ⟨h.o1.drew, h.cell, h.ne, h.big⟩
/-- The wait stood there, or stands elsewhere. -/
theorem In.put (h : In w2 wr N T now C X v pb u) (hu : u < 10) (hx : x < 10) (hs : ((T (u, x)).isNone && C u x == 0) = false) {z : Int} (hz : z = (T (u, x)).getD now) :
    ∃ w3, (Instr.mapUpdate 79 (.map (some (N + 1))) (.agg #[.string (nd u), .string (nd x)]) (.int .i64 z)).run Try.prog wr = .ok () w3 ∧ In w2 w3 N T now C (X ++ [(u, x)]) v pb u := by
  obtain ⟨w3, hr, hO, hg, _⟩ := h.o1.put (e := (u, x)) ⟨hu, hx⟩ hs
  subst hz
  exact ⟨w3, hr, hO, hg.cell h.cell (by have := h.big; simp; omega), h.ne, h.big⟩
/-- The wait starts. -/
theorem In.putNew (h : In w2 wr N T now C X v pb u) (hu : u < 10) (hx : x < 10) (hs : ((T (u, x)).isNone && C u x == 0) = true) (hn : (stf T C X).length ≤ 100000) {eb : Nat} (hc0 : wr.cell? ⟨eb, 0, none⟩ = some (.string (nd u))) (hc1 : wr.cell? ⟨eb, 1, none⟩ = some (.string (nd x))) (hne : v.ownBlock ≠ some eb) :
    ∃ g' cap' k w4 w5, (Builtin.append_ #[80, 80] 80 #[v, .slice (some ⟨wr.heap.size, 0, none⟩) 1 1]).run Try.prog (wr.alloc (.cells #[.string (nd u), .string (nd x)] 65)) = .ok (.slice (some ⟨g', 0, none⟩) k cap') w4 ∧
      (Instr.mapUpdate 79 (.map (some (N + 1))) (.agg #[.string (nd u), .string (nd x)]) (.int .i64 now)).run Try.prog w4 = .ok () w5 ∧
      In w2 w5 N T now C (X ++ [(u, x)]) (.slice (some ⟨g', 0, none⟩) k cap') pb u ∧ w4.cell? ⟨eb, 0, none⟩ = some (.string (nd u)) ∧ w4.cell? ⟨eb, 1, none⟩ = some (.string (nd x)) := by
  obtain ⟨g', cap', w4, hr, hown, hg, hwho⟩ := push_edge wr (N + 2) v (stf T C X) u x h.o1.own hn h.o1.size
  obtain ⟨w5, hr5, hO5, hg5, _⟩ := h.o1.putNew (e := (u, x)) ⟨hu, hx⟩ hs hg hown
  have hT : T (u, x) = none := by
    cases hT : T (u, x) with
    | none => rfl
    | some t => rw [hT] at hs; simp at hs
  rw [hT] at hr5
  have hpl := World.block_lt_of_cell? _ _ h.cell
  refine ⟨g', cap', _, w4, w5, hr, hr5, ⟨hO5, hg5.cell (hg.cell h.cell (fun e => h.ne e.symm)) (by have := h.big; simp; omega), ?_, h.big⟩, hg.cell hc0 (fun e => hne e.symm), hg.cell hc1 (fun e => hne e.symm)⟩
  intro e
  have e1 : g' = pb := by simpa [Value.ownBlock] using e
  rcases hwho with h1 | h1
  · exact h.ne (h1.trans (by rw [e1]))
  · simp at hpl; omega

theorem O1.ti {w : World} {tb bw bo bk bs : Nat} {M W : Nat → Option Nat} {C' : Nat → Nat → Int} {TT : Nat → Nat × Nat → Option Int} {cl : Int} (h : O1 w2 wr N T now C X v) (hT : TI w tb bw bo bk bs M C' W TT cl) (hb : Below N w w2) (hN : N = w.heap.size) : TI wr tb bw bo bk bs M C' W TT cl :=
  hT.same (fun i hi => (h.below.block i (by omega)).trans (hb.block i (by omega)))
theorem O1.cell {w : World} (h : O1 w2 wr N T now C X v) (hb : Below N w w2) (hN : N = w.heap.size) {b o : Nat} {y : Value} (hc : w.cell? ⟨b, o, none⟩ = some y) : wr.cell? ⟨b, o, none⟩ = some y := by
  have hl : b < w.heap.size := World.block_lt_of_cell? _ _ hc
  exact (World.cell?_of_block (w := w) (a := ⟨b, o, none⟩) ((h.below.block b (by omega)).trans (hb.block b (by omega)))).trans hc
end
end Go.Proofs.Qxb6003670a.st
