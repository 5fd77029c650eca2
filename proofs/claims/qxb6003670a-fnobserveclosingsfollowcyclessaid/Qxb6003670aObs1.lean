/-
  'observe', its first two loops: what they keep.
-/
import Derived.Test.Qxb6003670aKeys
import Derived.Test.Qxb6003670aClosings
import Derived.Test.Qxb6003670aObsPlain
namespace Go.Proofs.Qxb6003670a.st
open Go.RowKit
open Go.Proofs.Qxb6003670a.sm Go.Proofs.Qxb6003670a.mp Go.Proofs.Qxb6003670a.pl Go.Proofs.Qxb6003670a.rc
open Go.ChangeMaps (setBlock)

/-- The truth: counts C, the sites' waits TT (their maps at W), cl closings. -/
structure TI (w : World) (tb bw bo bk bs : Nat) (M : Nat → Option Nat) (C : Nat → Nat → Int) (W : Nat → Option Nat) (TT : Nat → Nat × Nat → Option Int) (cl : Int) : Prop where
  stand : Stand w bo M C
  tb_ : TB w tb bw bo bk bs cl
  waits : IsMap snV D4 mapV w bw W
  inner : ∀ s c, W s = some c → IsMap edV DE intV w c (TT s)
  none_ : ∀ s, W s = none → ∀ e, TT s e = none
  seen : ∃ Sn : Nat × Nat → Option Bool, IsMap edV DE Value.bool w bs Sn
  bwo : bw ≠ bo
  bso : bs ≠ bo
  bws : bw ≠ bs
  Mbw : ∀ u, M u ≠ some bw
  Mbs : ∀ u, M u ≠ some bs
  Wne : ∀ s c, W s = some c → c ≠ bo ∧ c ≠ bw ∧ c ≠ bs ∧ ∀ u, M u ≠ some c

/-- The truth's blocks. -/
def OT (tb bw bo bs : Nat) (M W : Nat → Option Nat) (i : Nat) : Prop := (i = tb ∨ i = bw ∨ i = bs ∨ ∃ s, W s = some i) ∨ i = bo ∨ ∃ u, M u = some i

theorem TI.same {w w' : World} {tb bw bo bk bs : Nat} {M W : Nat → Option Nat} {C : Nat → Nat → Int} {TT : Nat → Nat × Nat → Option Int} {cl : Int} (h : TI w tb bw bo bk bs M C W TT cl) (hb : ∀ i, i < w.heap.size → w'.heap[i]? = w.heap[i]?) : TI w' tb bw bo bk bs M C W TT cl := by
  obtain ⟨Sn, hS⟩ := h.seen
  exact ⟨⟨⟨h.stand.graph.1.kept (hb _ h.stand.graph.1.lt), fun u c hc => (h.stand.graph.2 u c hc).kept (hb _ (h.stand.graph.2 u c hc).lt)⟩, h.stand.sep, h.stand.live, h.stand.dead⟩, h.tb_.kept (hb _ h.tb_.lt), h.waits.kept (hb _ h.waits.lt), fun s c hc => (h.inner s c hc).kept (hb _ (h.inner s c hc).lt), h.none_, ⟨Sn, hS.kept (hb _ hS.lt)⟩, h.bwo, h.bso, h.bws, h.Mbw, h.Mbs, h.Wne⟩
theorem TI.below {w w' : World} {tb bw bo bk bs : Nat} {M W : Nat → Option Nat} {C : Nat → Nat → Int} {TT : Nat → Nat × Nat → Option Int} {cl : Int} (h : TI w tb bw bo bk bs M C W TT cl) (hb : Below w.heap.size w w') : TI w' tb bw bo bk bs M C W TT cl := h.same hb.block
theorem TI.opt {w : World} {tb bw bo bk bs s : Nat} {M W : Nat → Option Nat} {C : Nat → Nat → Int} {TT : Nat → Nat × Nat → Option Int} {cl : Int} (h : TI w tb bw bo bk bs M C W TT cl) : OptMap w (W s) (TT s) := by
  cases hW : W s with
  | none => exact Or.inl ⟨rfl, h.none_ s hW⟩
  | some c => exact Or.inr ⟨c, rfl, h.inner s c hW⟩

/-- The snapshot as it lies. -/
def SnapIs (w : World) (A : Option Addr) (cap : Nat) (PS : List (Nat × List Nat)) : Prop :=
  ∃ gp, (∀ (wx : World) (i : Nat), i < PS.length → (Instr.indexAt 53 (.slice A PS.length cap) (.int .i64 (i : Int))).run Try.prog wx = .ok (.pointer (some ⟨gp, i * 6, none⟩)) wx) ∧
    ∀ i (h : i < PS.length), ∃ (Ai : Option Addr) (ci gi : Nat), w.cell? ⟨gp, i * 6, none⟩ = some (.string (nd PS[i].1)) ∧ w.cell? ⟨gp, i * 6 + 1, none⟩ = some (.string ⟨#[]⟩) ∧ w.cell? ⟨gp, i * 6 + 2, none⟩ = some (.slice Ai PS[i].2.length ci) ∧
      w.cell? ⟨gp, i * 6 + 3, none⟩ = some (.pointer none) ∧ w.cell? ⟨gp, i * 6 + 4, none⟩ = some (.int .i64 0) ∧ w.cell? ⟨gp, i * 6 + 5, none⟩ = some (.int .i64 0) ∧
      (∀ (wx : World) (j : Nat), j < PS[i].2.length → (Instr.indexAt 69 (.slice Ai PS[i].2.length ci) (.int .i64 (j : Int))).run Try.prog wx = .ok (.pointer (some ⟨gi, j, none⟩)) wx) ∧
      ∀ j (h' : j < PS[i].2.length), w.cell? ⟨gi, j, none⟩ = some (.string (nd PS[i].2[j]))

/-- The cells of a row of edges. -/
def ecs (L : List (Nat × Nat)) : List Value := L.flatMap (fun e => [.string (nd e.1), .string (nd e.2)])
theorem ecs_length (L : List (Nat × Nat)) : (ecs L).length = L.length * 2 := by
  induction L with
  | nil => rfl
  | cons e r ih => simp only [ecs, List.flatMap_cons, List.length_append, List.length_cons, List.length_nil] at ih ⊢; omega
theorem ecs_at (L : List (Nat × Nat)) (i : Nat) (h : i < L.length) : (ecs L)[i * 2]? = some (.string (nd L[i].1)) ∧ (ecs L)[i * 2 + 1]? = some (.string (nd L[i].2)) := by
  induction L generalizing i with
  | nil => simp at h
  | cons e r ih =>
    cases i with
    | zero => simp [ecs]
    | succ k =>
      have := ih k (by simpa using h)
      have e1 : (k + 1) * 2 = k * 2 + 2 := by omega
      rw [e1]
      simp only [ecs, List.flatMap_cons, List.cons_append, List.nil_append, List.getElem?_cons_succ, List.getElem_cons_succ] at this ⊢
      exact this

theorem info65 : (Try.prog.info? 65).map (fun i => (i.zero, i.size, i.bytes)) = some (some (.agg #[.string ⟨#[]⟩, .string ⟨#[]⟩]), 2, 32) := by kernel_rfl

theorem two_new (w : World) (x y : Value) (t : TypeId) : ∀ j u, [x, y][j]? = some u → (w.alloc (.cells #[x, y] t)).cell? ((⟨w.heap.size, 0, none⟩ : Addr).add j) = some u := by
  intro j u hj
  match j, hj with
  | 0, hj => simp at hj; subst hj; simp [Addr.add]
  | 1, hj => simp at hj; subst hj; simp [Addr.add]

/-- 'started = append(started, e)'. -/
theorem push_edge (w : World) (N : Nat) (v : Value) (L : List (Nat × Nat)) (x y : Nat) (hown : w.ownsRow N 65 2 v L.length (ecs L)) (hk : L.length ≤ 100000) (hN : N ≤ w.heap.size) :
    ∃ g' cap' w', (Builtin.append_ #[80, 80] 80 #[v, .slice (some ⟨w.heap.size, 0, none⟩) 1 1]).run Try.prog (w.alloc (.cells #[.string (nd x), .string (nd y)] 65)) = .ok (.slice (some ⟨g', 0, none⟩) (L.length + 1) cap') w' ∧
      w'.ownsRow N 65 2 (.slice (some ⟨g', 0, none⟩) (L.length + 1) cap') (L ++ [(x, y)]).length (ecs (L ++ [(x, y)])) ∧ w.grownBy w' v.ownBlock ∧ (v.ownBlock = some g' ∨ w.heap.size < g') := by
  obtain ⟨i, hi, hzz⟩ := Option.map_eq_some_iff.1 info65
  simp only [Prod.mk.injEq] at hzz
  obtain ⟨hz, hs, hb⟩ := hzz
  obtain ⟨g', cap', w', h1, h2, h3, h4, _⟩ := run_append_lies (P := Try.prog) (w.alloc (.cells #[.string (nd x), .string (nd y)] 65)) 80 80 N 65 i _ 2 32 Try.underlying80 hi hz hs hb rfl (by omega) v L.length (ecs L) (hown.alloc _)
    ⟨w.heap.size, 0, none⟩ 1 1 [.string (nd x), .string (nd y)] rfl (two_new w _ _ _) (by simp [Value.oneCell']) (by omega) (by unfold maxLen; omega) (by omega) (by simp; omega) _ rfl
  refine ⟨g', cap', w', h1, ?_, (World.grownBy_alloc w _ v.ownBlock).trans h3, ?_⟩
  · have e1 : ecs (L ++ [(x, y)]) = ecs L ++ [.string (nd x), .string (nd y)] := by simp [ecs]
    rw [e1, List.length_append]
    exact h2
  · rcases h4 with h4 | h4
    · exact Or.inl h4
    · right; simp at h4; omega

/-- WHAT THE FIRST TWO LOOPS KEEP, behind the waits X. -/
structure O1 (w2 wr : World) (N : Nat) (T : Nat × Nat → Option Int) (now : Int) (C : Nat → Nat → Int) (X : List (Nat × Nat)) (v : Value) : Prop where
  own : wr.ownsRow (N + 2) 65 2 v (stf T C X).length (ecs (stf T C X))
  st : IsMap edV DE intV wr (N + 1) (tsf T now X)
  below : Below (N + 1) w2 wr
  size : N + 2 ≤ wr.heap.size

section
variable {w2 wr w' : World} {N : Nat} {T : Nat × Nat → Option Int} {now : Int} {C : Nat → Nat → Int} {X : List (Nat × Nat)} {v : Value}
theorem O1.alloc (h : O1 w2 wr N T now C X v) (o : Obj) : O1 w2 (wr.alloc o) N T now C X v :=
  ⟨h.own.alloc o, h.st.kept (heap_alloc_old wr o h.st.lt), h.below.alloc (by have := h.size; omega) o, by have := h.size; simp; omega⟩
theorem O1.drew (h : O1 w2 wr N T now C X v) : O1 w2 wr.drew N T now C X v := ⟨h.own, h.st, h.below.drew, h.size⟩
theorem O1.put (h : O1 w2 wr N T now C X v) {e : Nat × Nat} (he : DE e) (hs : ((T e).isNone && C e.1 e.2 == 0) = false) :
    ∃ w3, (Instr.mapUpdate 79 (.map (some (N + 1))) (.agg #[.string (nd e.1), .string (nd e.2)]) (.int .i64 ((T e).getD now))).run Try.prog wr = .ok () w3 ∧ O1 w2 w3 N T now C (X ++ [e]) v ∧ wr.grownBy w3 (some (N + 1)) ∧ w3.heap.size = wr.heap.size := by
  obtain ⟨o, hr, hm⟩ := h.st.store keyE Try.underlying79 (a := e) he ((T e).getD now)
  have hg := h.st.grown o
  rw [tsf_snoc] at hm
  refine ⟨_, hr, ⟨?_, hm, h.below.grown hg (by have := h.size; omega) (fun k hk => by cases hk; exact Nat.le_refl _), by have := h.size; simpa [setBlock] using this⟩, hg, by simp [setBlock]⟩
  rw [stf_snoc, hs]
  simp only [Bool.false_eq_true, if_false, List.append_nil]
  refine h.own.kept hg ?_
  cases hv : v.ownBlock with
  | none => exact Or.inl rfl
  | some k =>
    right
    have := (h.own.lt k hv).1
    simp
    omega
/-- .. behind an append. -/
theorem O1.putNew {v' : Value} (h : O1 w2 wr N T now C X v) {e : Nat × Nat} (he : DE e) (hs : ((T e).isNone && C e.1 e.2 == 0) = true) (hg0 : wr.grownBy w' v.ownBlock) (hown : w'.ownsRow (N + 2) 65 2 v' (stf T C X ++ [e]).length (ecs (stf T C X ++ [e]))) :
    ∃ w3, (Instr.mapUpdate 79 (.map (some (N + 1))) (.agg #[.string (nd e.1), .string (nd e.2)]) (.int .i64 ((T e).getD now))).run Try.prog w' = .ok () w3 ∧ O1 w2 w3 N T now C (X ++ [e]) v' ∧ w'.grownBy w3 (some (N + 1)) ∧ w3.heap.size = w'.heap.size := by
  have hvb : ∀ k, v.ownBlock = some k → N + 2 ≤ k := fun k hk => (h.own.lt k hk).1
  have hst : IsMap edV DE intV w' (N + 1) (tsf T now X) := h.st.kept (hg0.block _ h.st.lt (fun e1 => by have := hvb _ e1.symm; omega))
  have hsz := hg0.size
  have hbel := h.below.grown hg0 (by have := h.size; omega) (fun k hk => by have := hvb k hk; omega)
  obtain ⟨o, hr, hm⟩ := hst.store keyE Try.underlying79 (a := e) he ((T e).getD now)
  have hg := hst.grown o
  rw [tsf_snoc] at hm
  refine ⟨_, hr, ⟨?_, hm, hbel.grown hg (by have := h.size; omega) (fun k hk => by cases hk; exact Nat.le_refl _), by have := h.size; simp [setBlock]; omega⟩, hg, by simp [setBlock]⟩
  rw [stf_snoc, hs]
  simp only [if_true]
  refine hown.kept hg ?_
  cases hv : v'.ownBlock with
  | none => exact Or.inl rfl
  | some k =>
    right
    have := (hown.lt k hv).1
    simp
    omega
end

end Go.Proofs.Qxb6003670a.st
