/-
  MAPS BY THEIR CONTENT: a map's block told by a plain function from keys to elements ('m : α → Option β'), whatever its entries, stamps and clock are. No program in sight.
-/
import Derived.Maps.Range
namespace Go.Proofs.Qxb6003670a.mp
open Go.Maps (Keyed)
open Go.ChangeMaps (setBlock modify_eq_set heap_setBlock_same heap_setBlock_other)
open Go.MapKept

/-- THE KEYS: 'mk a' for each a in D: each reads as a key of type k, no two the same. -/
structure KeyOK {α : Type} (P : Program) (k : TypeId) (mk : α → Value) (D : α → Prop) : Prop where
  keyed : Keyed P k
  reads : ∀ a, D a → ∃ l, keyOf P k (mk a) = some l
  inj : ∀ a a', D a → D a' → mk a = mk a' → a = a'

/-- The entries 'es' hold just what m says. -/
structure Holds {α β : Type} (mk : α → Value) (D : α → Prop) (mv : β → Value) (es : List MapEntry) (m : α → Option β) : Prop where
  into : ∀ e ∈ es, ∃ a v, D a ∧ e.key = mk a ∧ e.val = mv v ∧ m a = some v
  out : ∀ a v, m a = some v → D a ∧ ∃ e ∈ es, e.key = mk a ∧ e.val = mv v

/-- BLOCK b OF w IS A MAP THAT HOLDS JUST WHAT m SAYS. -/
def IsMap {α β : Type} (mk : α → Value) (D : α → Prop) (mv : β → Value) (w : World) (b : Nat) (m : α → Option β) : Prop :=
  ∃ es clock, w.heap[b]? = some (.map es clock) ∧ Stamped es clock ∧ Holds mk D mv es.toList m

/-- m with a at v. -/
def put {α β : Type} [DecidableEq α] (m : α → Option β) (a : α) (v : β) : α → Option β := fun x => if x = a then some v else m x
/-- m without a. -/
def cut {α β : Type} [DecidableEq α] (m : α → Option β) (a : α) : α → Option β := fun x => if x = a then none else m x

/-- 'for k, v := range m' UNDER WAY: block b the map, block r its iterator; 'left a': a is still to come; cnt: how many are. -/
def Ranging {α β : Type} (mk : α → Value) (D : α → Prop) (mv : β → Value) (w : World) (b r : Nat) (m : α → Option β) (left : α → Bool) (cnt : Nat) : Prop :=
  ∃ es clock since seen c0, w.heap[b]? = some (.map es clock) ∧ Stamped es clock ∧ Holds mk D mv es.toList m ∧ w.heap[r]? = some (.mapIter (some b) since seen c0) ∧ (∀ x ∈ es.toList, x.born < since) ∧ (leftOf es seen).size = cnt ∧ since ≤ c0 ∧ since ≤ clock ∧
    (∀ e ∈ es.toList, ∀ a, D a → e.key = mk a → left a = !seen.contains e.born) ∧ ∀ a, left a = true → ∃ v, m a = some v

section
variable {α β : Type} {P : Program} {k t e : TypeId} {mk : α → Value} {D : α → Prop} {mv : β → Value} {w w' : World} {b r : Nat} {m : α → Option β} {left : α → Bool} {cnt : Nat}

theorem IsMap.made (mk : α → Value) (D : α → Prop) (mv : β → Value) (w : World) : IsMap mk D mv (w.alloc (.map #[] 0)) w.heap.size (fun _ => none) :=
  ⟨#[], 0, (heap_alloc w _).1, stamped_empty 0, ⟨by simp, by simp⟩⟩

theorem IsMap.lt (h : IsMap mk D mv w b m) : b < w.heap.size := by
  obtain ⟨_, _, hb, _⟩ := h
  exact (Array.getElem?_eq_some_iff.1 hb).1

theorem IsMap.kept (h : IsMap mk D mv w b m) (hs : w'.heap[b]? = w.heap[b]?) : IsMap mk D mv w' b m := by
  obtain ⟨es, c, hb, r⟩ := h
  exact ⟨es, c, hs.trans hb, r⟩

theorem Holds.reads (K : KeyOK P k mk D) {es : List MapEntry} (h : Holds mk D mv es m) : ∀ x ∈ es, ∃ l, keyOf P k x.key = some l := fun x hx => by
  obtain ⟨a, v, hD, hk, _⟩ := h.into x hx
  rw [hk]
  exact K.reads a hD

theorem Holds.some (K : KeyOK P k mk D) {es : List MapEntry} (h : Holds mk D mv es m) {x : MapEntry} (hx : x ∈ es) {a : α} (hD : D a) (hk : x.key = mk a) : ∃ v, m a = some v ∧ x.val = mv v := by
  obtain ⟨a', v, hD', hk', hv, hm⟩ := h.into x hx
  have := K.inj a a' hD hD' (hk.symm.trans hk')
  subst this
  exact ⟨v, hm, hv⟩

theorem Holds.none {es : List MapEntry} (h : Holds mk D mv es m) {a : α} (hn : ∀ x ∈ es, x.key ≠ mk a) : m a = none := by
  cases hm : m a with
  | none => rfl
  | some v =>
    obtain ⟨_, x, hx, hk, _⟩ := h.out a v hm
    exact absurd hk (hn x hx)

theorem grown_set {es : Array MapEntry} {c : Nat} {o' : Obj} (hb : w.heap[b]? = some (.map es c)) : w.grownBy (setBlock w b o') (some b) :=
  ⟨rfl, rfl, rfl, by simp [setBlock], fun i _ hi => heap_setBlock_other hb _ (fun e => hi (by rw [e]))⟩

theorem IsMap.grown (h : IsMap mk D mv w b m) (o : Obj) : w.grownBy (setBlock w b o) (some b) := by
  obtain ⟨_, _, hb, _⟩ := h
  exact grown_set hb

/-- 'm[k]' and 'v, ok := m[k]'. -/
theorem IsMap.look (K : KeyOK P k mk D) (ht : P.underlying t = some (.map k e)) (h : IsMap mk D mv w b m) {z : Value} (hz : (zeroValue e).run P w = .ok z w) {a : α} (hD : D a) (c : Bool) :
    (Instr.lookup t (.map (some b)) (mk a) c).run P w = .ok (if c then .tuple #[((m a).map mv).getD z, .bool (m a).isSome] else ((m a).map mv).getD z) w := by
  obtain ⟨es, clock, hb, hst, hh⟩ := h
  obtain ⟨l, hl⟩ := K.reads a hD
  rcases K.keyed.find w hl es.toList (hh.reads K) with ⟨h1, h2⟩ | ⟨j, e0, h1, h2, h3⟩
  · rw [hh.none h2]
    simp [Instr.lookup, run_underlying ht, MapKept.run_getObj_map hb, K.keyed.check w _ hl, h1, hz, Result.andThen]
  · obtain ⟨v, hm, hv⟩ := hh.some K (List.mem_of_getElem? h2) hD h3
    rw [hm]
    simp [Instr.lookup, run_underlying ht, MapKept.run_getObj_map hb, K.keyed.check w _ hl, h1, hv, Result.andThen]

/-- 'm[k]' at nil. -/
theorem look_nil (K : KeyOK P k mk D) (ht : P.underlying t = some (.map k e)) {z : Value} (hz : (zeroValue e).run P w = .ok z w) {a : α} (hD : D a) (c : Bool) :
    (Instr.lookup t (.map none) (mk a) c).run P w = .ok (if c then .tuple #[z, .bool false] else z) w := by
  obtain ⟨l, hl⟩ := K.reads a hD
  rcases K.keyed.find w hl [] (by simp) with ⟨h1, h2⟩ | ⟨j, e0, h1, h2, h3⟩
  · simp [Instr.lookup, run_underlying ht, K.keyed.check w _ hl, h1, hz, Result.andThen]
  · simp at h2

theorem other_key' {es : Array MapEntry} {clock : Nat} (hst : Stamped es clock) {i j : Nat} {x y : MapEntry} (hx : es.toList[i]? = some x) (hy : es.toList[j]? = some y) (hne : i ≠ j) : x.key ≠ y.key := by
  have hp := ((stamped_iff es clock).1 hst).2.2
  rw [List.pairwise_iff_getElem] at hp
  obtain ⟨hi, rfl⟩ := List.getElem?_eq_some_iff.1 hx
  obtain ⟨hj, rfl⟩ := List.getElem?_eq_some_iff.1 hy
  rcases Nat.lt_or_gt_of_ne hne with h | h
  · exact hp i j hi hj h
  · exact fun e => hp j i hj hi h e.symm

/-- 'm[k] = v'. -/
theorem IsMap.store [DecidableEq α] (K : KeyOK P k mk D) (ht : P.underlying t = some (.map k e)) (h : IsMap mk D mv w b m) {a : α} (hD : D a) (v : β) :
    ∃ o, (Instr.mapUpdate t (.map (some b)) (mk a) (mv v)).run P w = .ok () (setBlock w b o) ∧ IsMap mk D mv (setBlock w b o) b (put m a v) := by
  obtain ⟨es, clock, hb, hst, hh⟩ := h
  obtain ⟨l, hl⟩ := K.reads a hD
  rcases K.keyed.find w hl es.toList (hh.reads K) with ⟨h1, h2⟩ | ⟨j, e0, h1, h2, h3⟩
  · refine ⟨.map (es.push ⟨mk a, mv v, clock⟩) (clock + 1), ?_, _, _, heap_setBlock_same hb _, stamped_push hst h2, ?_, ?_⟩
    · simp [Instr.mapUpdate, run_underlying ht, MapKept.run_getObj_map hb, K.keyed.check w false hl, h1, MapKept.run_setObj_map _ hb, Result.andThen, setBlock]
    · intro x hx
      simp only [Array.toList_push, List.mem_append, List.mem_singleton] at hx
      rcases hx with hx | rfl
      · obtain ⟨a', v', hD', hk', hv', hm'⟩ := hh.into x hx
        have hne : a' ≠ a := fun e => h2 x hx (by rw [hk', e])
        exact ⟨a', v', hD', hk', hv', by simp [put, hne, hm']⟩
      · exact ⟨a, v, hD, rfl, rfl, by simp [put]⟩
    · intro a' v' hm'
      unfold put at hm'
      split at hm'
      · rename_i ea
        subst ea
        cases hm'
        exact ⟨hD, ⟨mk a', mv v, clock⟩, by simp, rfl, rfl⟩
      · obtain ⟨hD', x, hx, hk, hv⟩ := hh.out a' v' hm'
        exact ⟨hD', x, by simp; exact Or.inl (by simpa using hx), hk, hv⟩
  · have hj : es[j]? = some e0 := by simpa using h2
    have hjl : j < es.toList.length := (List.getElem?_eq_some_iff.1 h2).1
    have hkeyf : ∀ e', es[j]? = some e' → ({ e' with key := mk a, val := mv v } : MapEntry).key = e'.key := fun e' he' => by rw [hj] at he'; cases he'; exact h3.symm
    have hlist : (es.modify j (fun e' => { e' with key := mk a, val := mv v })).toList = es.toList.set j { e0 with key := mk a, val := mv v } := by rw [Array.toList_modify, modify_eq_set _ _ _ _ h2]
    refine ⟨.map (es.modify j (fun e' => { e' with key := mk a, val := mv v })) clock, ?_, _, _, heap_setBlock_same hb _, stamped_modify hst _ _ (fun _ _ => rfl) (fun e' _ he' => hkeyf e' he'), ?_, ?_⟩
    · simp [Instr.mapUpdate, run_underlying ht, MapKept.run_getObj_map hb, K.keyed.check w false hl, h1, hj, h3, K.keyed.stays w hl, MapKept.run_setObj_map _ hb, Result.andThen, setBlock]
    · intro x hx
      rw [hlist] at hx
      obtain ⟨i, hi, ex⟩ := List.getElem_of_mem hx
      rw [List.getElem_set] at ex
      split at ex
      · subst ex
        exact ⟨a, v, hD, rfl, rfl, by simp [put]⟩
      · rename_i hne
        have hi' : i < es.toList.length := by simpa using hi
        have hxm : x ∈ es.toList := ex ▸ List.getElem_mem hi'
        obtain ⟨a', v', hD', hk', hv', hm'⟩ := hh.into x hxm
        have hkne : x.key ≠ e0.key := other_key' hst (by rw [List.getElem?_eq_getElem hi', ex]) h2 (fun e1 => hne e1.symm)
        have hane : a' ≠ a := fun e => hkne (by rw [hk', e, h3])
        exact ⟨a', v', hD', hk', hv', by simp [put, hane, hm']⟩
    · intro a' v' hm'
      rw [hlist]
      unfold put at hm'
      split at hm'
      · rename_i ea
        subst ea
        cases hm'
        exact ⟨hD, { e0 with key := mk a', val := mv v }, List.mem_iff_getElem.2 ⟨j, by simpa using hjl, by simp⟩, rfl, rfl⟩
      · rename_i hane
        obtain ⟨hD', x, hx, hk, hv⟩ := hh.out a' v' hm'
        obtain ⟨i, hi, ex⟩ := List.getElem_of_mem hx
        refine ⟨hD', x, List.mem_iff_getElem.2 ⟨i, by simpa using hi, ?_⟩, hk, hv⟩
        have hij : ¬ j = i := by
          intro e1
          subst e1
          have : x = e0 := by
            rw [List.getElem?_eq_getElem hi, ex] at h2
            exact Option.some.inj h2
          subst this
          exact hane (K.inj a' a hD' hD (hk.symm.trans h3))
        rw [List.getElem_set_ne hij]
        exact ex

/-- 'delete(m, k)'. -/
theorem IsMap.drop [DecidableEq α] (K : KeyOK P k mk D) (ht : P.underlying t = some (.map k e)) (h : IsMap mk D mv w b m) {a : α} (hD : D a) (ty : TypeId) :
    ∃ o, (Builtin.delete_ #[t, k] ty #[.map (some b), mk a]).run P w = .ok (.tuple #[]) (setBlock w b o) ∧ IsMap mk D mv (setBlock w b o) b (cut m a) := by
  obtain ⟨es, clock, hb, hst, hh⟩ := h
  obtain ⟨l, hl⟩ := K.reads a hD
  rcases K.keyed.find w hl es.toList (hh.reads K) with ⟨h1, h2⟩ | ⟨j, e0, h1, h2, h3⟩
  · refine ⟨.map es clock, ?_, _, _, heap_setBlock_same hb _, hst, ?_, ?_⟩
    · simp [Builtin.delete_, run_underlying ht, MapKept.run_getObj_map hb, K.keyed.check w _ hl, h1, MapKept.run_setObj_map _ hb, Result.andThen, setBlock]
    · intro x hx
      obtain ⟨a', v', hD', hk', hv', hm'⟩ := hh.into x hx
      have hne : a' ≠ a := fun e => h2 x hx (by rw [hk', e])
      exact ⟨a', v', hD', hk', hv', by simp [cut, hne, hm']⟩
    · intro a' v' hm'
      unfold cut at hm'
      split at hm'
      · cases hm'
      · exact hh.out a' v' hm'
  · have hjl : j < es.toList.length := (List.getElem?_eq_some_iff.1 h2).1
    have hjs : j < es.size := by simpa using hjl
    have hsub : (es.eraseIdxIfInBounds j).toList = es.toList.eraseIdx j := by
      unfold Array.eraseIdxIfInBounds
      rw [dif_pos hjs]
      simp
    have hwho : ∀ x, x ∈ (es.eraseIdxIfInBounds j).toList ↔ (x ∈ es.toList ∧ x.key ≠ mk a) := by
      intro x
      rw [hsub, List.mem_eraseIdx_iff_getElem?]
      constructor
      · rintro ⟨i, hne, hi⟩
        exact ⟨List.mem_of_getElem? hi, by rw [← h3]; exact other_key' hst hi h2 hne⟩
      · rintro ⟨hx, hne⟩
        obtain ⟨i, hi⟩ := List.getElem?_of_mem hx
        refine ⟨i, fun e1 => hne ?_, hi⟩
        rw [e1, h2] at hi
        cases hi
        exact h3
    refine ⟨.map (es.eraseIdxIfInBounds j) clock, ?_, _, _, heap_setBlock_same hb _, stamped_erase hst j, ?_, ?_⟩
    · simp [Builtin.delete_, run_underlying ht, MapKept.run_getObj_map hb, K.keyed.check w _ hl, h1, MapKept.run_setObj_map _ hb, Result.andThen, setBlock]
    · intro x hx
      obtain ⟨hx1, hx2⟩ := (hwho x).1 hx
      obtain ⟨a', v', hD', hk', hv', hm'⟩ := hh.into x hx1
      have hne : a' ≠ a := fun e => hx2 (by rw [hk', e])
      exact ⟨a', v', hD', hk', hv', by simp [cut, hne, hm']⟩
    · intro a' v' hm'
      unfold cut at hm'
      split at hm'
      · cases hm'
      · rename_i hane
        obtain ⟨hD', x, hx, hk, hv⟩ := hh.out a' v' hm'
        exact ⟨hD', x, (hwho x).2 ⟨hx, fun e1 => hane (K.inj a' a hD' hD (hk.symm.trans e1))⟩, hk, hv⟩

/-- 'len(m)'. -/
theorem IsMap.len (ht : P.underlying t = some (.map k e)) (h : IsMap mk D mv w b m) (ty : TypeId) :
    ∃ n : Nat, (Builtin.len_ #[t] ty #[.map (some b)]).run P w = .ok (goInt n) w ∧ (n = 0 ↔ ∀ a, m a = none) := by
  obtain ⟨es, clock, hb, hst, hh⟩ := h
  refine ⟨es.size, by simp [Builtin.len_, run_underlying ht, MapKept.run_getObj_map hb, Result.andThen], ?_⟩
  constructor
  · intro h0 a
    exact hh.none (fun x hx => by
      have : es = #[] := Array.eq_empty_of_size_eq_zero h0
      subst this
      simp at hx)
  · intro hn
    rcases Nat.eq_zero_or_pos es.size with h0 | h0
    · exact h0
    · obtain ⟨a, v, _, _, _, hm⟩ := hh.into es[0] (by simp)
      rw [hn a] at hm
      cases hm

/-- 'range m'. -/
theorem IsMap.range (K : KeyOK P k mk D) (ht : P.underlying t = some (.map k e)) (h : IsMap mk D mv w b m) :
    ∃ cnt w', (Instr.range t (.map (some b))).run P w = .ok (.pointer (some ⟨w.heap.size, 0, none⟩)) w' ∧ Ranging mk D mv w' b w.heap.size m (fun a => (m a).isSome) cnt ∧ w.grownBy w' none ∧ w'.heap.size = w.heap.size + 1 := by
  have hlt := h.lt
  obtain ⟨es, clock, hb, hst, hh⟩ := h
  refine ⟨_, _, run_range_map w t k e b es clock ht hb, ⟨es, clock, clock, #[], clock, ((heap_alloc w _).2 b hlt).trans hb, hst, hh, (heap_alloc w _).1, hst.1, rfl, Nat.le_refl _, Nat.le_refl _, ?_, ?_⟩, World.grownBy_alloc w _ none, by simp⟩
  · intro x hx a hD hk
    obtain ⟨v, hm, _⟩ := hh.some K hx hD hk
    simp [hm]
  · intro a ha
    exact Option.isSome_iff_exists.1 ha

theorem Ranging.isMap (h : Ranging mk D mv w b r m left cnt) : IsMap mk D mv w b m := by
  obtain ⟨es, clock, _, _, _, hb, hst, hh, _⟩ := h
  exact ⟨es, clock, hb, hst, hh⟩

theorem Ranging.ne (h : Ranging mk D mv w b r m left cnt) : r ≠ b := by
  obtain ⟨es, clock, since, seen, c0, hb, _, _, hr, _⟩ := h
  intro e
  rw [e, hb] at hr
  cases hr

theorem Ranging.lt (h : Ranging mk D mv w b r m left cnt) : r < w.heap.size := by
  obtain ⟨es, clock, since, seen, c0, _, _, _, hr, _⟩ := h
  exact (Array.getElem?_eq_some_iff.1 hr).1

theorem Ranging.kept (h : Ranging mk D mv w b r m left cnt) (hb' : w'.heap[b]? = w.heap[b]?) (hr' : w'.heap[r]? = w.heap[r]?) : Ranging mk D mv w' b r m left cnt := by
  obtain ⟨es, clock, since, seen, c0, hb, hst, hh, hr, rest⟩ := h
  exact ⟨es, clock, since, seen, c0, hb'.trans hb, hst, hh, hr'.trans hr, rest⟩

/-- THE STEP. -/
theorem Ranging.next [DecidableEq α] (K : KeyOK P k mk D) (h : Ranging mk D mv w b r m left cnt) (ty : TypeId) :
    ((∀ a, left a = false) ∧ (Instr.next (.pointer (some ⟨r, 0, none⟩)) false ty).run P w = .ok (.tuple #[.bool false]) w) ∨
    ∃ a v w' cnt', D a ∧ left a = true ∧ m a = some v ∧ (Instr.next (.pointer (some ⟨r, 0, none⟩)) false ty).run P w = .ok (.tuple #[.bool true, mk a, mv v]) w' ∧
      Ranging mk D mv w' b r m (fun x => left x && !decide (x = a)) cnt' ∧ cnt' < cnt ∧ w.grownBy w' (some r) ∧ w'.heap.size = w.heap.size ∧ (Instr.entry (.pointer (some ⟨r, 0, none⟩))).run P w' = .ok (.tuple #[mk a, mv v]) w' := by
  have hne := h.ne
  obtain ⟨es, clock, since, seen, c0, hb, hst, hh, hr, hold, rfl, hsc, hsk, hl1, hl2⟩ := h
  rcases run_next_at (P := P) w ty r b since c0 seen es clock hr hb hold hsc with ⟨h0, hrun⟩ | ⟨x, hx, w1, hal, hrun⟩
  · refine Or.inl ⟨fun a => ?_, hrun⟩
    cases hk : left a
    · rfl
    · obtain ⟨v, hv⟩ := hl2 a hk
      obtain ⟨hD, x, hx, hxk, _⟩ := hh.out a v hv
      rw [hl1 x hx a hD hxk, all_seen es seen h0 x hx] at hk
      cases hk
  · obtain ⟨hxm, hxs⟩ := mem_left hx
    obtain ⟨a, v, hD, hk, hv, hm⟩ := hh.into x hxm
    have hr1 : w1.heap[r]? = some (.mapIter (some b) since seen c0) := by rcases hal with rfl | rfl <;> exact hr
    have hb1 : w1.heap[b]? = some (.map es clock) := by rcases hal with rfl | rfl <;> exact hb
    have hset := heap_set (o' := .mapIter (some b) since (seen.push x.born) clock) hr1
    have hb' : (setBlock w1 r (.mapIter (some b) since (seen.push x.born) clock)).heap[b]? = some (.map es clock) := (hset.2 b (fun e1 => hne e1.symm)).trans hb1
    have hs3 := (stamped_iff es clock).1 hst
    rw [hk, hv] at hrun
    have hen := run_entry_at (P := P) _ r b since seen es clock x hset.1 hb' hxm hs3.2.1
    rw [hk, hv] at hen
    refine Or.inr ⟨a, v, _, _, hD, by rw [hl1 x hxm a hD hk, hxs]; rfl, hm, hrun,
      ⟨es, clock, since, seen.push x.born, clock, hb', hst, hh, hset.1, hold, rfl, hsk, hsk, fun y hy a' hD' hk' => ?_, fun a' ha' => hl2 a' (by simp at ha'; exact ha'.1)⟩, left_shrinks es seen x hx, ?_, ?_, hen⟩
    · show (left a' && !decide (a' = a)) = _
      rw [hl1 y hy a' hD' hk', contains_push]
      by_cases hby : y.born = x.born
      · obtain rfl := born_inj hs3.2.1 hy hxm hby
        have : a' = a := K.inj a' a hD' hD (hk'.symm.trans hk)
        simp [this]
      · have : a' ≠ a := fun e1 => hby (by rw [entry_eq_of_key hs3.2.2 hy hxm (by rw [hk', hk, e1])])
        simp [this, hby]
    · rcases hal with rfl | rfl <;> exact ⟨rfl, rfl, rfl, by simp [setBlock], fun i _ hi => hset.2 i (fun e1 => hi (by rw [e1]))⟩
    · rcases hal with rfl | rfl <;> simp [setBlock]
end

end Go.Proofs.Qxb6003670a.mp
