/-
  'observe', its third and fourth loops: a range over one map of edges, a look into another, a count.
-/
import Derived.Test.Qxb6003670aObs2
namespace Go.Proofs.Qxb6003670a.st
open Go.RowKit
open Go.Proofs.Qxb6003670a.sm Go.Proofs.Qxb6003670a.mp Go.Proofs.Qxb6003670a.pl Go.Proofs.Qxb6003670a.rc
open Go.ChangeMaps (setBlock)

/-- 'range' over a map that may be nil, under way. -/
def ORg (w : World) (r : Option Nat) (it : Nat) (T : Nat × Nat → Option Int) (left : Nat × Nat → Bool) (cnt : Nat) : Prop :=
  (r = none ∧ (∀ e, left e = false) ∧ w.heap[it]? = some (.mapIter none 0 #[] 0)) ∨ ∃ c, r = some c ∧ Ranging edV DE intV w c it T left cnt

theorem next_nil (w : World) (ty : TypeId) (it : Nat) (h : w.heap[it]? = some (.mapIter none 0 #[] 0)) : (Instr.next (.pointer (some ⟨it, 0, none⟩)) false ty).run Try.prog w = .ok (.tuple #[.bool false]) w := by
  simp only [Instr.next, getObj, Sem.run_bind, Sem.run, h, Result.andThen]
  rfl

section
variable {w w' : World} {r : Option Nat} {it : Nat} {T : Nat × Nat → Option Int} {left : Nat × Nat → Bool} {cnt : Nat}
theorem OptMap.range (h : OptMap w r T) : ∃ cnt w', (Instr.range 79 (.map r)).run Try.prog w = .ok (.pointer (some ⟨w.heap.size, 0, none⟩)) w' ∧ ORg w' r w.heap.size T (fun a => (T a).isSome) cnt ∧ w.grownBy w' none ∧ w'.heap.size = w.heap.size + 1 := by
  rcases h with ⟨rfl, hT⟩ | ⟨c, rfl, hc⟩
  · exact ⟨0, _, run_range_nilMap w 79 65 2 Try.underlying79, Or.inl ⟨rfl, fun e => by simp [hT e], heap_alloc_new w _⟩, World.grownBy_alloc w _ none, by simp⟩
  · obtain ⟨cnt, w', h1, h2, h3, h4⟩ := hc.range keyE Try.underlying79
    exact ⟨cnt, w', h1, Or.inr ⟨c, rfl, h2⟩, h3, h4⟩
theorem ORg.kept (h : ORg w r it T left cnt) (h1 : ∀ c, r = some c → w'.heap[c]? = w.heap[c]?) (h2 : w'.heap[it]? = w.heap[it]?) : ORg w' r it T left cnt := by
  rcases h with ⟨e1, e2, e3⟩ | ⟨c, e1, e2⟩
  · exact Or.inl ⟨e1, e2, h2.trans e3⟩
  · exact Or.inr ⟨c, e1, e2.kept (h1 c e1) h2⟩
theorem ORg.lt (h : ORg w r it T left cnt) : it < w.heap.size := by
  rcases h with ⟨e1, e2, e3⟩ | ⟨c, e1, e2⟩
  · exact (Array.getElem?_eq_some_iff.1 e3).1
  · exact e2.lt
theorem ORg.ltc (h : ORg w r it T left cnt) : ∀ c, r = some c → c < w.heap.size := fun c hc => by
  rcases h with ⟨e1, e2, e3⟩ | ⟨c', e1, e2⟩
  · rw [e1] at hc; cases hc
  · rw [e1] at hc; cases hc; exact e2.isMap.lt
theorem ORg.ne {α β : Type} {mk : α → Value} {D : α → Prop} {mv : β → Value} {m : α → Option β} {b : Nat} (h : ORg w r it T left cnt) (k : IsMap mk D mv w b m) : it ≠ b := by
  rcases h with ⟨e1, e2, e3⟩ | ⟨c', e1, e2⟩
  · obtain ⟨_, _, hb, _⟩ := k
    intro e
    rw [e, hb] at e3
    cases e3
  · exact iter_ne_map e2 k
theorem ORg.ne_cell (h : ORg w r it T left cnt) {t o : Nat} {x : Value} (hc : w.cell? ⟨t, o, none⟩ = some x) : it ≠ t := by
  intro e
  subst e
  rcases h with ⟨e1, e2, e3⟩ | ⟨c', e1, e2⟩
  · simp [World.cell?, e3] at hc
  · obtain ⟨_, _, _, _, _, _, _, _, hr, _⟩ := e2
    simp [World.cell?, hr] at hc
theorem ORg.next (h : ORg w r it T left cnt) (ty : TypeId) :
    ((∀ a, left a = false) ∧ (Instr.next (.pointer (some ⟨it, 0, none⟩)) false ty).run Try.prog w = .ok (.tuple #[.bool false]) w) ∨
    ∃ u x z w' cnt', u < 10 ∧ x < 10 ∧ left (u, x) = true ∧ T (u, x) = some z ∧ (Instr.next (.pointer (some ⟨it, 0, none⟩)) false ty).run Try.prog w = .ok (.tuple #[.bool true, .agg #[.string (nd u), .string (nd x)], .int .i64 z]) w' ∧
      ORg w' r it T (fun y => left y && !decide (y = (u, x))) cnt' ∧ cnt' < cnt ∧ w.grownBy w' (some it) ∧ w'.heap.size = w.heap.size ∧ (Instr.entry (.pointer (some ⟨it, 0, none⟩))).run Try.prog w' = .ok (.tuple #[.agg #[.string (nd u), .string (nd x)], .int .i64 z]) w' := by
  rcases h with ⟨e1, e2, e3⟩ | ⟨c, e1, e2⟩
  · exact Or.inl ⟨e2, next_nil w ty it e3⟩
  · rcases e2.next keyE ty with ⟨hl, hr⟩ | ⟨a, z, w', cnt', hD, hla, hm, hr, hrg, hlt, hg, hsz, hen⟩
    · exact Or.inl ⟨hl, hr⟩
    · obtain ⟨u, x⟩ := a
      exact Or.inr ⟨u, x, z, w', cnt', hD.1, hD.2, hla, hm, hr, Or.inr ⟨c, e1, hrg⟩, hlt, hg, hsz, hen⟩
end

/-- The counts, where those of T1 that are not in T2 and not left have been counted by k. -/
def cmod (C : Nat → Nat → Int) (T1 T2 : Nat × Nat → Option Int) (k : Int) (left : Nat × Nat → Bool) : Nat → Nat → Int := fun u v => C u v + (if ((T1 (u, v)).isSome && !left (u, v) && (T2 (u, v)).isNone) = true then k else 0)

theorem cmod_start (C : Nat → Nat → Int) (T1 T2 : Nat × Nat → Option Int) (k : Int) : cmod C T1 T2 k (fun a => (T1 a).isSome) = C := by
  funext u v
  unfold cmod
  cases h : T1 (u, v) <;> simp [h]
theorem cmod_in {C : Nat → Nat → Int} {T1 T2 : Nat × Nat → Option Int} {k : Int} {left : Nat × Nat → Bool} {u x : Nat} (h2 : (T2 (u, x)).isSome = true) : cmod C T1 T2 k (fun y => left y && !decide (y = (u, x))) = cmod C T1 T2 k left := by
  funext a b
  unfold cmod
  by_cases e : (a, b) = (u, x)
  · rw [e]
    cases hT : T2 (u, x) with
    | none => rw [hT] at h2; cases h2
    | some z => simp
  · simp [e]
theorem cmod_out {C : Nat → Nat → Int} {T1 T2 : Nat × Nat → Option Int} {k : Int} {left : Nat × Nat → Bool} {u x : Nat} {z : Int} (h1 : T1 (u, x) = some z) (hl : left (u, x) = true) (h2 : (T2 (u, x)).isSome = false) : cmod C T1 T2 k (fun y => left y && !decide (y = (u, x))) = addC (cmod C T1 T2 k left) u x k := by
  funext a b
  unfold cmod addC
  by_cases e : (a, b) = (u, x)
  · obtain ⟨rfl, rfl⟩ := Prod.mk.inj e
    have hn : (T2 (a, b)).isNone = true := by cases hT : T2 (a, b) with
      | none => rfl
      | some _ => rw [hT] at h2; cases h2
    simp [h1, hl, hn]
  · have e' : ¬ (a = u ∧ b = x) := fun h => e (by rw [h.1, h.2])
    simp [e, e']
theorem cmod_bnd {C : Nat → Nat → Int} {T1 T2 : Nat × Nat → Option Int} {k : Int} {left : Nat × Nat → Bool} (hC : ∀ u v, -10000 ≤ C u v ∧ C u v ≤ 10000) (hk : -1 ≤ k ∧ k ≤ 1) (u v : Nat) : -10001 ≤ cmod C T1 T2 k left u v ∧ cmod C T1 T2 k left u v ≤ 10001 := by
  have := hC u v
  unfold cmod
  split <;> omega

/-- What such a loop keeps. -/
structure R3 (w5 wr : World) (bo tb : Nat) (r1 r2 : Option Nat) (it : Nat) (T1 T2 : Nat × Nat → Option Int) (k : Int) (C : Nat → Nat → Int) (M5 M : Nat → Option Nat) (left : Nat × Nat → Bool) (n : Nat) : Prop where
  stand : Stand wr bo M (cmod C T1 T2 k left)
  stp : Stp w5 wr bo M5 M
  rg : ORg wr r1 it T1 left n
  m2 : OptMap wr r2 T2
  tb_ : wr.cell? ⟨tb, 1, none⟩ = some (.map (some bo))
  ne1 : ∀ c, r1 = some c → c ≠ bo ∧ ∀ u, M u ≠ some c
  ne2 : ∀ c, r2 = some c → c ≠ bo ∧ ∀ u, M u ≠ some c
  itge : w5.heap.size ≤ it

section
variable {w5 wr w' : World} {bo tb it n : Nat} {r1 r2 : Option Nat} {T1 T2 : Nat × Nat → Option Int} {k : Int} {C : Nat → Nat → Int} {M5 M M' : Nat → Option Nat} {left : Nat × Nat → Bool}

theorem OptMap.lt {w : World} {r : Option Nat} {T : Nat × Nat → Option Int} (h : OptMap w r T) : ∀ c, r = some c → c < w.heap.size := fun c hc => by
  rcases h with ⟨e, _⟩ | ⟨c', e, hm⟩
  · rw [e] at hc; cases hc
  · rw [e] at hc; cases hc; exact hm.lt

theorem R3.start (hS : Stand w5 bo M5 C) (h1 : OptMap w5 r1 T1) (h2 : OptMap w5 r2 T2) (htb : w5.cell? ⟨tb, 1, none⟩ = some (.map (some bo))) (hn1 : ∀ c, r1 = some c → c ≠ bo ∧ ∀ u, M5 u ≠ some c) (hn2 : ∀ c, r2 = some c → c ≠ bo ∧ ∀ u, M5 u ≠ some c) (k : Int) :
    ∃ n w', (Instr.range 79 (.map r1)).run Try.prog w5 = .ok (.pointer (some ⟨w5.heap.size, 0, none⟩)) w' ∧ R3 w5 w' bo tb r1 r2 w5.heap.size T1 T2 k C M5 M5 (fun a => (T1 a).isSome) n := by
  obtain ⟨n, w', hr, hrg, hg, hsz⟩ := h1.range
  have hb : Below w5.heap.size w5 w' := (Below.refl _ _).grown hg (Nat.le_refl _) (fun k h => by cases h)
  refine ⟨n, w', hr, ⟨by rw [cmod_start]; exact hS.below hb, Stp.of_below hb bo M5, hrg, h2.kept (fun c hc => hb.block c (h2.lt c hc)), (hb.cell (World.block_lt_of_cell? _ _ htb)).trans htb, hn1, hn2, Nat.le_refl _⟩⟩

/-- Onwards, the world grown. -/
theorem R3.step (h : R3 w5 wr bo tb r1 r2 it T1 T2 k C M5 M left n) {left' : Nat × Nat → Bool} {n' : Nat} (hS : Stand w' bo M' (cmod C T1 T2 k left')) (hs : Stp wr w' bo M M') (hrg : ORg wr r1 it T1 left' n') : R3 w5 w' bo tb r1 r2 it T1 T2 k C M5 M' left' n' := by
  have ht : tb < wr.heap.size := World.block_lt_of_cell? _ _ h.tb_
  have hne : ∀ {r : Option Nat}, (∀ c, r = some c → c < wr.heap.size) → (∀ c, r = some c → c ≠ bo ∧ ∀ u, M u ≠ some c) → ∀ c, r = some c → c ≠ bo ∧ ∀ u, M' u ≠ some c := fun hlt hn c hc => ⟨(hn c hc).1, fun u hu => by
    rcases hs.new u c hu with h1 | h1
    · exact (hn c hc).2 u h1
    · have := hlt c hc; omega⟩
  refine ⟨hS, h.stp.trans hs, hrg.kept (fun c hc => hs.block c (h.rg.ltc c hc) (h.ne1 c hc).1 (h.ne1 c hc).2) (hs.block it h.rg.lt (h.rg.ne h.stand.graph.1) (fun u hu => h.rg.ne (h.stand.graph.2 u it hu) rfl)), h.m2.kept (fun c hc => hs.block c (h.m2.lt c hc) (h.ne2 c hc).1 (h.ne2 c hc).2), ?_, hne h.rg.ltc h.ne1, hne h.m2.lt h.ne2, h.itge⟩
  exact (World.cell?_of_block (w := wr) (a := ⟨tb, 1, none⟩) (hs.block tb ht (cell_ne_map h.tb_ h.stand.graph.1) (fun u hu => cell_ne_map h.tb_ (h.stand.graph.2 u tb hu) rfl))).trans h.tb_

theorem R3.next (h : R3 w5 wr bo tb r1 r2 it T1 T2 k C M5 M left n) (ty : TypeId) :
    ((∀ a, left a = false) ∧ (Instr.next (.pointer (some ⟨it, 0, none⟩)) false ty).run Try.prog wr = .ok (.tuple #[.bool false]) wr) ∨
    ∃ u x z w4 n', u < 10 ∧ x < 10 ∧ n' < n ∧ (Instr.next (.pointer (some ⟨it, 0, none⟩)) false ty).run Try.prog wr = .ok (.tuple #[.bool true, .agg #[.string (nd u), .string (nd x)], .int .i64 z]) w4 ∧
      (Instr.entry (.pointer (some ⟨it, 0, none⟩))).run Try.prog w4 = .ok (.tuple #[.agg #[.string (nd u), .string (nd x)], .int .i64 z]) w4 ∧
      (Instr.lookup 79 (.map r2) (.agg #[.string (nd u), .string (nd x)]) true).run Try.prog (w4.alloc (.cells #[.string (nd u), .string (nd x)] 65)) = .ok (.tuple #[.int .i64 ((T2 (u, x)).getD 0), .bool (T2 (u, x)).isSome]) (w4.alloc (.cells #[.string (nd u), .string (nd x)] 65)) ∧
      ((T2 (u, x)).isSome = true → R3 w5 (w4.alloc (.cells #[.string (nd u), .string (nd x)] 65)) bo tb r1 r2 it T1 T2 k C M5 M (fun y => left y && !decide (y = (u, x))) n') ∧
      ((T2 (u, x)).isSome = false → Stand (w4.alloc (.cells #[.string (nd u), .string (nd x)] 65)) bo M (cmod C T1 T2 k left) ∧ (w4.alloc (.cells #[.string (nd u), .string (nd x)] 65)).cell? ⟨tb, 1, none⟩ = some (.map (some bo)) ∧
        ∀ w' M', Stand w' bo M' (addC (cmod C T1 T2 k left) u x k) → Stp (w4.alloc (.cells #[.string (nd u), .string (nd x)] 65)) w' bo M M' → R3 w5 w' bo tb r1 r2 it T1 T2 k C M5 M' (fun y => left y && !decide (y = (u, x))) n') := by
  rcases h.rg.next ty with ⟨hl, hr⟩ | ⟨u, x, z, w4, n', hu, hx, hl, hT, hr, hrg, hlt, hg, hsz, hen⟩
  · exact Or.inl ⟨hl, hr⟩
  · right
    have hbl : ∀ i, i < wr.heap.size → i ≠ it → w4.heap[i]? = wr.heap[i]? := fun i hi hne => hg.block i hi (by simpa using fun e => hne e)
    have hit : w5.heap.size ≤ it := h.itge
    have hs4 : Stand w4 bo M (cmod C T1 T2 k left) := ⟨⟨h.stand.graph.1.kept (hbl _ h.stand.graph.1.lt (fun e => h.rg.ne h.stand.graph.1 e.symm)), fun u c hc => (h.stand.graph.2 u c hc).kept (hbl _ (h.stand.graph.2 u c hc).lt (fun e => h.rg.ne (h.stand.graph.2 u c hc) e.symm))⟩, h.stand.sep, h.stand.live, h.stand.dead⟩
    have hstp : Stp w5 w4 bo M5 M := ⟨hg.os.trans h.stp.os, hg.tape.trans h.stp.tape, hg.output.trans h.stp.output, Nat.le_trans h.stp.size hg.size, fun i hi h1 h2 => (hbl i (Nat.lt_of_lt_of_le hi h.stp.size) (by omega)).trans (h.stp.block i hi h1 h2), h.stp.new⟩
    have hm2 : OptMap w4 r2 T2 := h.m2.kept (fun c hc => hbl c (h.m2.lt c hc) (fun e => by
      rcases h.m2 with ⟨e1, _⟩ | ⟨c', e1, hm⟩
      · rw [e1] at hc; cases hc
      · rw [e1] at hc; cases hc; exact h.rg.ne hm e.symm))
    have htl : tb < wr.heap.size := World.block_lt_of_cell? _ _ h.tb_
    have htb : w4.cell? ⟨tb, 1, none⟩ = some (.map (some bo)) := (World.cell?_of_block (w := wr) (a := ⟨tb, 1, none⟩) (hbl tb htl (fun e => h.rg.ne_cell h.tb_ e.symm))).trans h.tb_
    have hb : Below w4.heap.size w4 (w4.alloc (.cells #[.string (nd u), .string (nd x)] 65)) := (Below.refl _ _).alloc (Nat.le_refl _) _
    have hm3 : OptMap (w4.alloc (.cells #[.string (nd u), .string (nd x)] 65)) r2 T2 := hm2.kept (fun c hc => hb.block c (hm2.lt c hc))
    have htb3 : (w4.alloc (.cells #[.string (nd u), .string (nd x)] 65)).cell? ⟨tb, 1, none⟩ = some (.map (some bo)) := (hb.cell (World.block_lt_of_cell? _ _ htb)).trans htb
    have hs3 := hs4.below hb
    have hrg3 : ORg (w4.alloc (.cells #[.string (nd u), .string (nd x)] 65)) r1 it T1 (fun y => left y && !decide (y = (u, x))) n' := hrg.kept (fun c hc => hb.block c (hrg.ltc c hc)) (hb.block it hrg.lt)
    have hstp3 := hstp.trans (Stp.of_below hb bo M)
    refine ⟨u, x, z, w4, n', hu, hx, hlt, hr, hen, look79 hm3 hu hx, fun h2 => ?_, fun h2 => ⟨hs3, htb3, fun w' M' hS hst => ?_⟩⟩
    · exact ⟨by rw [cmod_in h2]; exact hs3, hstp3, hrg3, hm3, htb3, h.ne1, h.ne2, h.itge⟩
    · have hne : ∀ {r : Option Nat}, (∀ c, r = some c → c < (w4.alloc (.cells #[.string (nd u), .string (nd x)] 65)).heap.size) → (∀ c, r = some c → c ≠ bo ∧ ∀ u, M u ≠ some c) → ∀ c, r = some c → c ≠ bo ∧ ∀ u, M' u ≠ some c := fun hlt hn c hc => ⟨(hn c hc).1, fun u hu => by
        rcases hst.new u c hu with h1 | h1
        · exact (hn c hc).2 u h1
        · have := hlt c hc; omega⟩
      have ht3 : tb < (w4.alloc (.cells #[.string (nd u), .string (nd x)] 65)).heap.size := World.block_lt_of_cell? _ _ htb3
      refine ⟨by rw [cmod_out hT hl h2]; exact hS, hstp3.trans hst, hrg3.kept (fun c hc => hst.block c (hrg3.ltc c hc) (h.ne1 c hc).1 (h.ne1 c hc).2) (hst.block it hrg3.lt (hrg3.ne hs3.graph.1) (fun u hu => hrg3.ne (hs3.graph.2 u it hu) rfl)), hm3.kept (fun c hc => hst.block c (hm3.lt c hc) (h.ne2 c hc).1 (h.ne2 c hc).2), ?_, hne hrg3.ltc h.ne1, hne hm3.lt h.ne2, h.itge⟩
      exact (World.cell?_of_block (w := w4.alloc (.cells #[.string (nd u), .string (nd x)] 65)) (a := ⟨tb, 1, none⟩) (hst.block tb ht3 (cell_ne_map htb3 hs3.graph.1) (fun u hu => cell_ne_map htb3 (hs3.graph.2 u tb hu) rfl))).trans htb3
end

/-- Both loops through. -/
theorem cmod_both {C : Nat → Nat → Int} {T : Nat × Nat → Option Int} {now : Int} {X : List (Nat × Nat)} {l1 l2 : Nat × Nat → Bool} (h1 : ∀ a, l1 a = false) (h2 : ∀ a, l2 a = false) : cmod (cmod C T (tsf T now X) (-1) l1) (tsf T now X) T 1 l2 = newC C T X := by
  funext u v
  have hs := tsf_isSome T now X (u, v)
  have hn : (tsf T now X (u, v)).isNone = !decide ((u, v) ∈ X) := by
    rw [← hs]
    cases tsf T now X (u, v) <;> rfl
  unfold cmod newC b2i
  rw [hs, hn, h1, h2]
  cases hT : T (u, v) <;> by_cases hX : (u, v) ∈ X <;> simp [hX] <;> omega

end Go.Proofs.Qxb6003670a.st
