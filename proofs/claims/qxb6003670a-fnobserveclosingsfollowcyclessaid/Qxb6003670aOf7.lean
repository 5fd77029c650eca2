/-
  THE LAWS' LOOP: what a round keeps.
-/
import Derived.Test.Qxb6003670aOf6
namespace Go.Proofs.Qxb6003670a.st
open Go.RowKit
open Go.Proofs.Qxb6003670a.sm Go.Proofs.Qxb6003670a.mp Go.Proofs.Qxb6003670a.pl Go.Proofs.Qxb6003670a.rc
attribute [local go_sem ↓] Go.wp_at_zero Go.wp_at_succ

theorem setCells_os (b : Nat) : ∀ (vs : List Value) (o : Nat) (w : World), (w.setCells b o vs).os = w.os ∧ (w.setCells b o vs).tape = w.tape ∧ (w.setCells b o vs).output = w.output ∧ (w.setCells b o vs).heap.size = w.heap.size ∧ ∀ i, i ≠ b → (w.setCells b o vs).heap[i]? = w.heap[i]?
  | [], _, _ => ⟨rfl, rfl, rfl, rfl, fun _ _ => rfl⟩
  | v :: r, o, w => by
    rw [World.setCells]
    obtain ⟨h1, h2, h3, h4, h5⟩ := setCells_os b r (o + 1) (w.setCell ⟨b, o, none⟩ v)
    exact ⟨h1, h2, h3, h4.trans (by simp [World.setCell]), fun i hi => (h5 i hi).trans (Below.heap_setCell w ⟨b, o, none⟩ v i hi)⟩

/-- What is outside the truth's blocks may turn. -/
theorem TI.frame {w w' : World} {tb bw bo bk bs : Nat} {M W : Nat → Option Nat} {C : Nat → Nat → Int} {TT : Nat → Nat × Nat → Option Int} {cl : Int} (h : TI w tb bw bo bk bs M C W TT cl) (hb : ∀ i, OT tb bw bo bs M W i → w'.heap[i]? = w.heap[i]?) : TI w' tb bw bo bk bs M C W TT cl := by
  obtain ⟨Sn, hS⟩ := h.seen
  exact ⟨⟨⟨h.stand.graph.1.kept (hb _ (Or.inr (Or.inl rfl))), fun u c hc => (h.stand.graph.2 u c hc).kept (hb _ (Or.inr (Or.inr ⟨u, hc⟩)))⟩, h.stand.sep, h.stand.live, h.stand.dead⟩, h.tb_.kept (hb _ (Or.inl (Or.inl rfl))), h.waits.kept (hb _ (Or.inl (Or.inr (Or.inl rfl)))), fun s c hc => (h.inner s c hc).kept (hb _ (Or.inl (Or.inr (Or.inr (Or.inr ⟨s, hc⟩))))), h.none_, ⟨Sn, hS.kept (hb _ (Or.inl (Or.inr (Or.inr (Or.inl rfl)))))⟩, h.bwo, h.bso, h.bws, h.Mbw, h.Mbs, h.Wne⟩
theorem TI.lt {w : World} {tb bw bo bk bs : Nat} {M W : Nat → Option Nat} {C : Nat → Nat → Int} {TT : Nat → Nat × Nat → Option Int} {cl : Int} (h : TI w tb bw bo bk bs M C W TT cl) : ∀ i, OT tb bw bo bs M W i → i < w.heap.size := by
  obtain ⟨Sn, hS⟩ := h.seen
  rintro i ((rfl | rfl | rfl | ⟨s, hs⟩) | rfl | ⟨u, hu⟩)
  · exact h.tb_.lt
  · exact h.waits.lt
  · exact hS.lt
  · exact (h.inner s i hs).lt
  · exact h.stand.graph.1.lt
  · exact (h.stand.graph.2 u i hu).lt

/-- Site s of the table set to t. -/
def setSite (c : Nat → Nat → Nat → Bool) (s : Nat) (t : Nat → Nat → Bool) : Nat → Nat → Nat → Bool := fun k x y => if k = s then t x y else c k x y
theorem B4.there {w : World} {b : Nat} {c : Nat → Nat → Nat → Bool} (h : B4 w b c) {s : Nat} (hs : s < 4) : w.there b (s * 64) 64 := fun j hj => by
  have hc := World.rowIs.cell h (i := s * 64 + j) (by omega)
  exact ⟨by rw [hc]; rfl, World.rowIs.frozen h (s * 64 + j)⟩
theorem setCells_row (b : Nat) (t : TypeId) (n : Nat) : ∀ (vs : List Value) (o : Nat) (w : World) (f : Nat → Value), w.rowIs b t n f → (w.setCells b o vs).rowIs b t n (fun i => if o ≤ i ∧ i < o + vs.length then vs.getD (i - o) (f i) else f i)
  | [], o, w, f, h => h.congr (fun i _ => by simp)
  | v :: r, o, w, f, h => by
    rw [World.setCells]
    refine (setCells_row b t n r (o + 1) _ _ (World.rowIs.set h o v)).congr (fun i hi => ?_)
    simp only [List.length_cons]
    by_cases e : i = o
    · subst e
      rw [if_neg (by omega), if_pos rfl, if_pos (by omega)]
      simp
    · by_cases h1 : o + 1 ≤ i ∧ i < o + 1 + r.length
      · rw [if_pos h1, if_neg e, if_pos (show o ≤ i ∧ i < o + (r.length + 1) by omega)]
        obtain ⟨k, rfl⟩ : ∃ k, i = o + (k + 1) := ⟨i - o - 1, by omega⟩
        rw [show o + (k + 1) - (o + 1) = k by omega, show o + (k + 1) - o = k + 1 by omega]
        rfl
      · rw [if_neg h1, if_neg e, if_neg (by omega)]
theorem B4.store {w : World} {b : Nat} {c : Nat → Nat → Nat → Bool} (h : B4 w b c) (s : Nat) (t : Nat → Nat → Bool) : B4 (w.setCells b (s * 64) (Bl8 t).toList) b (setSite c s t) := by
  refine (setCells_row b 50 256 (Bl8 t).toList (s * 64) w _ h).congr (fun i hi => ?_)
  have hlen : (Bl8 t).toList.length = 64 := by rw [Array.length_toList, Bl8_size]
  unfold setSite
  by_cases e : i / 64 = s
  · rw [if_pos (by omega), if_pos e]
    have h1 : i - s * 64 < 64 := by omega
    rw [List.getD_eq_getElem?_getD, Array.getElem?_toList]
    simp only [Bl8, Array.getElem?_ofFn, h1, dif_pos, Option.getD_some]
    rw [show (i - s * 64) / 8 = i / 8 % 8 by omega, show (i - s * 64) % 8 = i % 8 by omega]
  · rw [if_neg (by omega), if_neg e]

/-- What the laws' loop keeps. -/
structure LI (w9 wr : World) (tb bw bo bk bs cb : Nat) (T0 : Nat → Prop) (M W : Nat → Option Nat) (C : Nat → Nat → Int) (TT : Nat → Nat × Nat → Option Int) (cl : Int) (cur : Nat → Nat → Nat → Bool) : Prop where
  ti : TI wr tb bw bo bk bs M C W TT cl
  tab : B4 wr cb cur
  fr : Fr w9 wr T0 (fun i => OT tb bw bo bs M W i ∨ i = cb)
  cbne : ¬ OT tb bw bo bs M W cb

section
variable {w9 wr w' : World} {tb bw bo bk bs cb : Nat} {T0 : Nat → Prop} {M W M' W' : Nat → Option Nat} {C C' : Nat → Nat → Int} {TT TT' : Nat → Nat × Nat → Option Int} {cl cl' : Int} {cur : Nat → Nat → Nat → Bool}
theorem LI.below (h : LI w9 wr tb bw bo bk bs cb T0 M W C TT cl cur) (hb : Below wr.heap.size wr w') : LI w9 w' tb bw bo bk bs cb T0 M W C TT cl cur :=
  ⟨h.ti.below hb, h.tab.kept (hb.block cb (World.rowIs.lt h.tab)), h.fr.trans (Fr.of_below hb _), h.cbne⟩
theorem LI.table (h : LI w9 wr tb bw bo bk bs cb T0 M W C TT cl cur) (s : Nat) (t : Nat → Nat → Bool) : LI w9 (wr.setCells cb (s * 64) (Bl8 t).toList) tb bw bo bk bs cb T0 M W C TT cl (setSite cur s t) := by
  obtain ⟨h1, h2, h3, h4, h5⟩ := setCells_os cb (Bl8 t).toList (s * 64) wr
  refine ⟨h.ti.frame (fun i hi => h5 i (fun e => h.cbne (e ▸ hi))), h.tab.store s t, ⟨h1.trans h.fr.os, h2.trans h.fr.tape, h3.trans h.fr.output, by rw [h4]; exact h.fr.size, fun i hi hn => ?_, h.fr.new⟩, h.cbne⟩
  by_cases e : i = cb
  · subst e
    rcases h.fr.new i (Or.inr rfl) with hh | hh
    · exact absurd hh hn
    · omega
  · exact (h5 i e).trans (h.fr.block i hi hn)
theorem LI.observe (h : LI w9 wr tb bw bo bk bs cb T0 M W C TT cl cur) (ht : TI w' tb bw bo bk bs M' C' W' TT' cl') (hf : Fr wr w' (OT tb bw bo bs M W) (OT tb bw bo bs M' W')) : LI w9 w' tb bw bo bk bs cb T0 M' W' C' TT' cl' cur := by
  have hl := World.rowIs.lt h.tab
  refine ⟨ht, h.tab.kept (hf.block cb hl h.cbne), h.fr.trans (hf.mono (fun i hi => Or.inl hi) (fun i hi => ?_)), fun hh => ?_⟩
  · rcases hi with hi | hi
    · exact Or.inr hi
    · exact Or.inl (Or.inr hi)
  · rcases hf.new cb hh with h1 | h1
    · exact h.cbne h1
    · omega
end

/-- What the counts and the table say, plain. -/
structure PLn (C : Nat → Nat → Int) (TT : Nat → Nat × Nat → Option Int) (cur : Nat → Nat → Nat → Bool) : Prop where
  cnt : ∀ u v, C u v = psum (fun s u v => (TT s (u, v)).isSome) 4 0 0 u v
  tab : ∀ s u v, s < 4 → u < 8 → v < 8 → cur s u v = (TT s (u, v)).isSome
  dom : ∀ s u v, (TT s (u, v)).isSome = true → u < 8 ∧ v < 8

theorem psum4 (c : Nat → Nat → Nat → Bool) (u v : Nat) : psum c 4 0 0 u v = b2i (c 0 u v) + b2i (c 1 u v) + b2i (c 2 u v) + b2i (c 3 u v) := by
  unfold psum
  rw [lex_zero]
  simp [List.range_succ, b2i]
  omega
theorem puni4 (c : Nat → Nat → Nat → Bool) (u v : Nat) : puni c 4 0 0 u v = (c 0 u v || c 1 u v || c 2 u v || c 3 u v) := by
  unfold puni
  rw [lex_zero]
  simp [List.range_succ, Bool.or_assoc]

section
variable {C : Nat → Nat → Int} {TT TT' : Nat → Nat × Nat → Option Int} {cur : Nat → Nat → Nat → Bool}
theorem PLn.nz (h : PLn C TT cur) (u v : Nat) : C u v ≠ 0 ↔ ∃ s, s < 4 ∧ (TT s (u, v)).isSome = true := by
  rw [h.cnt, psum4]
  unfold b2i
  constructor
  · intro hh
    by_cases h0 : (TT 0 (u, v)).isSome = true
    · exact ⟨0, by omega, h0⟩
    by_cases h1 : (TT 1 (u, v)).isSome = true
    · exact ⟨1, by omega, h1⟩
    by_cases h2 : (TT 2 (u, v)).isSome = true
    · exact ⟨2, by omega, h2⟩
    by_cases h3 : (TT 3 (u, v)).isSome = true
    · exact ⟨3, by omega, h3⟩
    simp [h0, h1, h2, h3] at hh
  · rintro ⟨s, hs, ht⟩
    have : s = 0 ∨ s = 1 ∨ s = 2 ∨ s = 3 := by omega
    rcases this with rfl | rfl | rfl | rfl <;> rw [if_pos ht] <;> split <;> split <;> split <;> omega
theorem PLn.dom' (h : PLn C TT cur) (u v : Nat) (hc : C u v ≠ 0) : u < 8 ∧ v < 8 := by
  obtain ⟨s, _, hs⟩ := (h.nz u v).1 hc
  exact h.dom s u v hs
theorem PLn.bnd (h : PLn C TT cur) (u v : Nat) : 0 ≤ C u v ∧ C u v ≤ 5 := by
  rw [h.cnt]
  have := psum_bnd (fun s u v => (TT s (u, v)).isSome) 4 0 0 u v
  omega
theorem PLn.step (h : PLn C TT cur) {s : Nat} (hs : s < 4) {X E : List (Nat × Nat)} (hX : ∀ e, e ∈ X ↔ e ∈ E) (hE : ∀ e ∈ E, e.1 < 8 ∧ e.2 < 8) (h1 : ∀ e, (TT' s e).isSome = decide (e ∈ X)) (h2 : ∀ s', s' ≠ s → TT' s' = TT s') {t : Nat → Nat → Bool} (ht : ∀ x y, t x y = decide ((x, y) ∈ E)) : PLn (newC C (TT s) X) TT' (setSite cur s t) := by
  refine ⟨fun u v => ?_, fun k u v hk hu hv => ?_, fun k u v hh => ?_⟩
  · unfold newC
    rw [h.cnt, psum4, psum4]
    have : s = 0 ∨ s = 1 ∨ s = 2 ∨ s = 3 := by omega
    rcases this with rfl | rfl | rfl | rfl
    · rw [h1, h2 1 (by omega), h2 2 (by omega), h2 3 (by omega)]; omega
    · rw [h1, h2 0 (by omega), h2 2 (by omega), h2 3 (by omega)]; omega
    · rw [h1, h2 0 (by omega), h2 1 (by omega), h2 3 (by omega)]; omega
    · rw [h1, h2 0 (by omega), h2 1 (by omega), h2 2 (by omega)]; omega
  · unfold setSite
    by_cases e : k = s
    · subst e
      rw [if_pos rfl, ht, h1]
      simp [hX]
    · rw [if_neg e, h2 k e]
      exact h.tab k u v hk hu hv
  · by_cases e : k = s
    · subst e
      rw [h1] at hh
      exact hE (u, v) ((hX (u, v)).1 (of_decide_eq_true hh))
    · rw [h2 k e] at hh
      exact h.dom k u v hh
end

end Go.Proofs.Qxb6003670a.st
