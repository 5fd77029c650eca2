/-
  'observe', its end: the site's waits are stored, the started ones marked, the closings counted.
-/
import Derived.Test.Qxb6003670aObs3
namespace Go.Proofs.Qxb6003670a.st
open Go.RowKit
open Go.Proofs.Qxb6003670a.sm Go.Proofs.Qxb6003670a.mp Go.Proofs.Qxb6003670a.pl Go.Proofs.Qxb6003670a.rc
open Go.ChangeMaps (setBlock)
attribute [local go_sem ↓] Go.wp_at_zero Go.wp_at_succ

theorem own_form {w : World} {base : Nat} {e : TypeId} {size : Nat} {v : Value} {n : Nat} {xs : List Value} (h : w.ownsRow base e size v n xs) : ∃ (a : Option Addr) (cap : Nat), v = .slice a n cap ∧ n ≤ cap ∧ cap ≤ maxLen ∧ ∀ k, v.ownBlock = some k → a = some ⟨k, 0, none⟩ := by
  rcases h.2 with ⟨hv, h0⟩ | ⟨g, cap, cur, hv, hb, hg, h1, h2, _⟩
  · subst h0
    refine ⟨none, 0, hv, Nat.le_refl _, Nat.zero_le _, fun k hk => ?_⟩
    rw [hv] at hk
    cases hk
  · refine ⟨_, cap, hv, h1, h2, fun k hk => ?_⟩
    rw [hv] at hk
    simp [Value.ownBlock] at hk
    rw [hk]
theorem own_row {w : World} {N g cap : Nat} {L : List (Nat × Nat)} (h : w.ownsRow N 65 2 (.slice (some ⟨g, 0, none⟩) L.length cap) L.length (ecs L)) : ERow w g L := fun i hi => by
  have hc := h.cells (g := g) rfl
  obtain ⟨h1, h2⟩ := ecs_at L i hi
  have e1 := hc _ _ h1
  have e2 := hc _ _ h2
  have ha : ∀ k, (⟨g, 0, none⟩ : Addr).add k = ⟨g, k, none⟩ := fun k => by
    unfold Addr.add
    split <;> simp_all
  rw [ha] at e1 e2
  exact ⟨e1, e2⟩
theorem own_same {w w' : World} {base : Nat} {e : TypeId} {size : Nat} {v : Value} {n : Nat} {xs : List Value} (h : w.ownsRow base e size v n xs) (hk : ∀ k, v.ownBlock = some k → w'.heap[k]? = w.heap[k]?) : w'.ownsRow base e size v n xs := by
  rcases h with ⟨h1, ⟨hv, h0⟩ | ⟨g, cap, cur, hv, hb, hg, r⟩⟩
  · exact ⟨h1, Or.inl ⟨hv, h0⟩⟩
  · exact ⟨h1, Or.inr ⟨g, cap, cur, hv, hb, (hk g (by rw [hv]; rfl)).trans hg, r⟩⟩

/-- What stands from the store on. -/
structure K5 (w wr : World) (tb bw bo bk bs N : Nat) (M0 W0 M W : Nat → Option Nat) (C : Nat → Nat → Int) (TT : Nat → Nat × Nat → Option Int) (cl : Int) (v : Value) (L : List (Nat × Nat)) : Prop where
  ti : TI wr tb bw bo bk bs M C W TT cl
  own : wr.ownsRow (N + 2) 65 2 v L.length (ecs L)
  fr : Fr w wr (OT tb bw bo bs M0 W0) (OT tb bw bo bs M W)
  apart : ∀ k, v.ownBlock = some k → ¬ OT tb bw bo bs M W k

section
variable {w wr w' : World} {tb bw bo bk bs N : Nat} {M0 W0 M W : Nat → Option Nat} {C : Nat → Nat → Int} {TT : Nat → Nat × Nat → Option Int} {cl : Int} {v : Value} {L : List (Nat × Nat)}
theorem K5.alloc (h : K5 w wr tb bw bo bk bs N M0 W0 M W C TT cl v L) (o : Obj) : K5 w (wr.alloc o) tb bw bo bk bs N M0 W0 M W C TT cl v L := by
  have hb : Below wr.heap.size wr (wr.alloc o) := (Below.refl _ _).alloc (Nat.le_refl _) _
  exact ⟨h.ti.below hb, h.own.alloc o, h.fr.trans (Fr.of_below hb _), h.apart⟩
theorem K5.drew (h : K5 w wr tb bw bo bk bs N M0 W0 M W C TT cl v L) : K5 w wr.drew tb bw bo bk bs N M0 W0 M W C TT cl v L :=
  ⟨h.ti.same (w' := wr.drew) (fun _ _ => rfl), h.own, h.fr.drew, h.apart⟩
/-- 'g.seen[e] = true'. -/
theorem K5.mark (h : K5 w wr tb bw bo bk bs N M0 W0 M W C TT cl v L) {u x : Nat} (hu : u < 10) (hx : x < 10) :
    ∃ w3, (Instr.mapUpdate 74 (.map (some bs)) (.agg #[.string (nd u), .string (nd x)]) (.bool true)).run Try.prog wr = .ok () w3 ∧ K5 w w3 tb bw bo bk bs N M0 W0 M W C TT cl v L ∧ ∀ a y, wr.cell? a = some y → w3.cell? a = some y := by
  obtain ⟨Sn, hS⟩ := h.ti.seen
  obtain ⟨o, hr, hm⟩ := hS.store keyE Try.underlying74 (a := (u, x)) ⟨hu, hx⟩ true
  have hg := hS.grown o
  have hbl : ∀ i, i < wr.heap.size → i ≠ bs → (setBlock wr bs o).heap[i]? = wr.heap[i]? := fun i hi hne => hg.block i hi (by simpa using hne)
  have t := h.ti
  refine ⟨_, hr, ⟨⟨⟨⟨t.stand.graph.1.kept (hbl _ t.stand.graph.1.lt (fun e => t.bso e.symm)), fun u c hc => (t.stand.graph.2 u c hc).kept (hbl _ (t.stand.graph.2 u c hc).lt (fun e => t.Mbs u (by rw [← e]; exact hc)))⟩, t.stand.sep, t.stand.live, t.stand.dead⟩, t.tb_.kept (hbl _ t.tb_.lt (t.tb_.ne_map hS)), t.waits.kept (hbl _ t.waits.lt t.bws), fun s c hc => (t.inner s c hc).kept (hbl _ (t.inner s c hc).lt (t.Wne s c hc).2.2.1), t.none_, ⟨_, hm⟩, t.bwo, t.bso, t.bws, t.Mbw, t.Mbs, t.Wne⟩, h.own.kept hg ?_, h.fr.trans (Fr.grown hg (Or.inl (Or.inr (Or.inr (Or.inl rfl)))) (fun _ k => Or.inl k)), h.apart⟩, fun a y ha => ?_⟩
  · cases hv : v.ownBlock with
    | none => exact Or.inl rfl
    | some k =>
      right
      intro e
      cases e
      exact h.apart _ hv (Or.inl (Or.inr (Or.inr (Or.inl rfl))))
  · refine hg.cell ha (fun e => ?_)
    cases e
    obtain ⟨_, _, hb, _⟩ := hS
    unfold World.cell? at ha
    rw [hb] at ha
    cases ha

/-- 'g.waits[site] = stand'. -/
theorem store_waits {w2 w5 w7 : World} {s : Nat} {now : Int} {M7 : Nat → Option Nat} {X : List (Nat × Nat)} (hT : TI w tb bw bo bk bs M C W TT cl) (hN : N = w.heap.size) (hb2 : Below N w w2) (hs : s < 4) (hO : O1 w2 w5 N (TT s) now C X v) (hst : Stp w5 w7 bo M M7) (hS : Stand w7 bo M7 (newC C (TT s) X)) :
    w7.cell? ⟨tb, 0, none⟩ = some (.map (some bw)) ∧ ∃ w8, (Instr.mapUpdate 73 (.map (some bw)) (.string (sn s)) (.map (some (N + 1)))).run Try.prog w7 = .ok () w8 ∧
      K5 w w8 tb bw bo bk bs N M W M7 (put W s (N + 1)) (newC C (TT s) X) (fun s' => if s' = s then tsf (TT s) now X else TT s') cl v (stf (TT s) C X) := by
  have t := hO.ti hT hb2 hN
  have hbo := t.stand.graph.1.lt
  have hlt : ∀ {i}, i < w.heap.size → i < w5.heap.size := fun h => by have := hO.size; omega
  have hM0 : ∀ u c, M u = some c → c < w.heap.size := fun u c hc => (hT.stand.graph.2 u c hc).lt
  have hW0 : ∀ s c, W s = some c → c < w.heap.size := fun s c hc => (hT.inner s c hc).lt
  have hM7 : ∀ u c, M7 u = some c → M u = some c ∨ w5.heap.size ≤ c := hst.new
  have hkeep : ∀ i, i < w5.heap.size → i ≠ bo → (∀ u, M u ≠ some i) → w7.heap[i]? = w5.heap[i]? := hst.block
  have hM7ne : ∀ {i}, i < w5.heap.size → (∀ u, M u ≠ some i) → ∀ u, M7 u ≠ some i := fun hi hn u hu => by
    rcases hM7 u _ hu with h1 | h1
    · exact hn u h1
    · omega
  obtain ⟨Sn, hSn⟩ := t.seen
  have htbl := t.tb_.lt
  have htb7 : TB w7 tb bw bo bk bs cl := t.tb_.kept (hkeep tb t.tb_.lt (t.tb_.ne_map t.stand.graph.1) (fun u hu => t.tb_.ne_map (t.stand.graph.2 u tb hu) rfl))
  have hwt7 : IsMap snV D4 mapV w7 bw W := t.waits.kept (hkeep bw t.waits.lt t.bwo t.Mbw)
  have hsn7 : IsMap edV DE Value.bool w7 bs Sn := hSn.kept (hkeep bs hSn.lt t.bso t.Mbs)
  have hN1lt : N + 1 < w5.heap.size := by have := hO.size; omega
  have hN1 : ∀ u, M u ≠ some (N + 1) := fun u hu => by have := hM0 u _ hu; omega
  have hbo0 : bo < w.heap.size := hT.stand.graph.1.lt
  have hbw0 : bw < w.heap.size := hT.waits.lt
  have hbs0 : bs < w.heap.size := by obtain ⟨S', h'⟩ := hT.seen; exact h'.lt
  have htb0 : tb < w.heap.size := hT.tb_.lt
  have hst7 : IsMap edV DE intV w7 (N + 1) (tsf (TT s) now X) := hO.st.kept (hkeep (N + 1) hN1lt (by omega) hN1)
  have hin7 : ∀ s c, W s = some c → IsMap edV DE intV w7 c (TT s) := fun s c hc => (t.inner s c hc).kept (hkeep c (t.inner s c hc).lt (t.Wne s c hc).1 (t.Wne s c hc).2.2.2)
  have hown7 : w7.ownsRow (N + 2) 65 2 v (stf (TT s) C X).length (ecs (stf (TT s) C X)) := own_same hO.own (fun k hk => by
    have := hO.own.lt k hk
    exact hkeep k this.2 (by omega) (fun u hu => by have := hM0 u k hu; omega))
  refine ⟨htb7.c0, ?_⟩
  obtain ⟨o, hr, hm⟩ := hwt7.store keyS Try.underlying73 (a := s) hs (N + 1)
  have hg := hwt7.grown o
  have hbl : ∀ i, i < w7.heap.size → i ≠ bw → (setBlock w7 bw o).heap[i]? = w7.heap[i]? := fun i hi hne => hg.block i hi (by simpa using hne)
  have hpW : ∀ s' c, put W s (N + 1) s' = some c → (s' = s ∧ c = N + 1) ∨ (s' ≠ s ∧ W s' = some c) := fun s' c hc => by
    unfold put at hc
    split at hc
    · rename_i e
      cases hc
      exact Or.inl ⟨e, rfl⟩
    · rename_i e
      exact Or.inr ⟨e, hc⟩
  refine ⟨_, hr, ⟨⟨⟨⟨hS.graph.1.kept (hbl _ hS.graph.1.lt (fun e => t.bwo e.symm)), fun u c hc => (hS.graph.2 u c hc).kept (hbl _ (hS.graph.2 u c hc).lt (fun e => hM7ne (hlt hbw0) t.Mbw u (by rw [← e]; exact hc)))⟩, hS.sep, hS.live, hS.dead⟩, htb7.kept (hbl _ htb7.lt (htb7.ne_map hwt7)), hm, ?_, ?_, ⟨Sn, hsn7.kept (hbl _ hsn7.lt (fun e => t.bws e.symm))⟩, t.bwo, t.bso, t.bws, hM7ne (hlt hbw0) t.Mbw, hM7ne (hlt hbs0) t.Mbs, ?_⟩, ?_, ?_, ?_⟩⟩
  · intro s' c hc
    rcases hpW s' c hc with ⟨rfl, rfl⟩ | ⟨h1, h2⟩
    · rw [if_pos rfl]; exact hst7.kept (hbl _ hst7.lt (by omega))
    · rw [if_neg h1]; exact (hin7 s' c h2).kept (hbl _ (hin7 s' c h2).lt (t.Wne s' c h2).2.1)
  · intro s' hs' e
    unfold put at hs'
    split at hs'
    · cases hs'
    · rename_i h1
      rw [if_neg h1]; exact t.none_ s' hs' e
  · intro s' c hc
    rcases hpW s' c hc with ⟨rfl, rfl⟩ | ⟨h1, h2⟩
    · exact ⟨by omega, by omega, by omega, hM7ne hN1lt hN1⟩
    · have := t.Wne s' c h2
      exact ⟨this.1, this.2.1, this.2.2.1, hM7ne (hlt (hW0 s' c h2)) this.2.2.2⟩
  · exact own_same hown7 (fun k hk => by
      have := hown7.lt k hk
      exact hbl k this.2 (by omega))
  · have f5 : Fr w w5 (OT tb bw bo bs M W) (OT tb bw bo bs M W) := by
      have hb5 : Below w.heap.size w w5 := hN ▸ hb2.trans (hO.below.mono (by omega))
      exact Fr.of_below hb5 _
    have f7 : Fr w5 w7 (OT tb bw bo bs M W) (OT tb bw bo bs M7 W) := hst.fr (fun i => i = tb ∨ i = bw ∨ i = bs ∨ ∃ s, W s = some i)
    have f8 : Fr w7 (setBlock w7 bw o) (fun i => OT tb bw bo bs M7 W i ∨ i = N + 1) (fun i => OT tb bw bo bs M7 (put W s (N + 1)) i) := Fr.grown hg (Or.inl (Or.inl (Or.inr (Or.inl rfl)))) (fun i hi => by
      left
      rcases hi with (h1 | h1 | h1 | ⟨s', h1⟩) | h1
      · exact Or.inl (Or.inl (Or.inl h1))
      · exact Or.inl (Or.inl (Or.inr (Or.inl h1)))
      · exact Or.inl (Or.inl (Or.inr (Or.inr (Or.inl h1))))
      · rcases hpW s' i h1 with ⟨_, h2⟩ | ⟨_, h2⟩
        · exact Or.inr h2
        · exact Or.inl (Or.inl (Or.inr (Or.inr (Or.inr ⟨s', h2⟩))))
      · exact Or.inl (Or.inr h1))
    have f57 := f5.trans f7
    have f57' : Fr w w7 (OT tb bw bo bs M W) (fun i => OT tb bw bo bs M7 W i ∨ i = N + 1) := ⟨f57.os, f57.tape, f57.output, f57.size, f57.block, fun i hi => by
      rcases hi with h1 | h1
      · exact f57.new i h1
      · right; omega⟩
    exact f57'.trans f8
  · intro k hk
    have hkk := hO.own.lt k hk
    rintro ((h1 | h1 | h1 | ⟨s', h1⟩) | h1 | ⟨u, h1⟩)
    · omega
    · omega
    · omega
    · rcases hpW s' k h1 with ⟨_, h2⟩ | ⟨_, h2⟩
      · omega
      · have := hW0 s' k h2; omega
    · omega
    · rcases hM7 u k h1 with h2 | h2
      · have := hM0 u k h2; omega
      · omega

/-- Behind 'countClosings'. -/
theorem K5.done {g : Nat} {M9 : Nat → Option Nat} {w9 : World} {cl' : Int} {L' : List (Nat × Nat)} (h : K5 w wr tb bw bo bk bs N M0 W0 M W C TT cl v L) (k : KC wr w9 tb bw bo bk bs g M M9 C cl' L') : TI w9 tb bw bo bk bs M9 C W TT cl' ∧ Fr w w9 (OT tb bw bo bs M0 W0) (OT tb bw bo bs M9 W) := by
  have t := h.ti
  obtain ⟨Sn, hSn⟩ := t.seen
  have hkeep : ∀ i, i < wr.heap.size → i ≠ tb → i ≠ bo → (∀ u, M u ≠ some i) → w9.heap[i]? = wr.heap[i]? := fun i hi h1 h2 h3 => k.fr.block i hi (fun hh => by
    rcases hh with hh | hh | ⟨u, hh⟩
    · exact h1 hh
    · exact h2 hh
    · exact h3 u hh)
  have hnew : ∀ {i}, i < wr.heap.size → i ≠ tb → i ≠ bo → (∀ u, M u ≠ some i) → ∀ u, M9 u ≠ some i := fun {i} hi h1 h2 h3 u hu => by
    rcases k.fr.new i (Or.inr (Or.inr ⟨u, hu⟩)) with (hh | hh | ⟨u', hh⟩) | hh
    · exact h1 hh
    · exact h2 hh
    · exact h3 u' hh
    · omega
  have htw := t.tb_.ne_map t.waits
  have hts := t.tb_.ne_map hSn
  refine ⟨⟨k.stand, k.tb_, t.waits.kept (hkeep bw t.waits.lt (fun e => htw e.symm) t.bwo t.Mbw), fun s c hc => (t.inner s c hc).kept (hkeep c (t.inner s c hc).lt (fun e => t.tb_.ne_map (t.inner s c hc) e.symm) (t.Wne s c hc).1 (t.Wne s c hc).2.2.2), t.none_, ⟨Sn, hSn.kept (hkeep bs hSn.lt (fun e => hts e.symm) t.bso t.Mbs)⟩, t.bwo, t.bso, t.bws, hnew t.waits.lt (fun e => htw e.symm) t.bwo t.Mbw, hnew hSn.lt (fun e => hts e.symm) t.bso t.Mbs, fun s c hc => ⟨(t.Wne s c hc).1, (t.Wne s c hc).2.1, (t.Wne s c hc).2.2.1, hnew (t.inner s c hc).lt (fun e => t.tb_.ne_map (t.inner s c hc) e.symm) (t.Wne s c hc).1 (t.Wne s c hc).2.2.2⟩⟩, ?_⟩
  refine h.fr.trans (k.fr.mono (S := OT tb bw bo bs M W) (S' := OT tb bw bo bs M9 W) (fun i hi => ?_) (fun i hi => ?_))
  · rcases hi with hh | hh | hh
    · exact Or.inl (Or.inl hh)
    · exact Or.inr (Or.inl hh)
    · exact Or.inr (Or.inr hh)
  · rcases hi with hh | hh | hh
    · exact Or.inl (Or.inl hh)
    · exact Or.inr (Or.inr (Or.inl hh))
    · exact Or.inr (Or.inr (Or.inr hh))
theorem K5.kc {g cap : Nat} (h : K5 w wr tb bw bo bk bs N M0 W0 M W C TT cl (.slice (some ⟨g, 0, none⟩) L.length cap) L) : KC wr wr tb bw bo bk bs g M M C cl L :=
  ⟨h.ti.stand, h.ti.tb_, own_row h.own, Fr.refl _ _, fun hh => h.apart g rfl (by
    rcases hh with hh | hh | hh
    · exact Or.inl (Or.inl hh)
    · exact Or.inr (Or.inl hh)
    · exact Or.inr (Or.inr hh)), (h.own.lt g rfl).2⟩
end

set_option maxRecDepth 20000 in
set_option maxHeartbeats 2000000 in
/-- 'countClosings' of none. -/
theorem closings_nil (p : Value) (Av : Option Addr) (cap : Nat) (w : World) : Calls Try.prog 37 #[p, .slice Av 0 cap] w fun e w' => e = .returned (.tuple #[]) ∧ w' = w := by
  go_enter Try.func37, Try.ntmps37
  go_wp2_with fail
  go_loopg [13] 0 (fun m s wr => m = 0 ∧ s = .int .i64 0 ∧ wr = w)
  case atStart => exact ⟨rfl, rfl, rfl⟩
  case round =>
    obtain ⟨hm, rfl, rfl⟩ := hrel
    go_wp2_with fail
    go_loopg [6] 0 (fun m s wr' => m = 0 ∧ s = .int .i64 0 ∧ wr' = wr)
    case atStart => exact ⟨rfl, rfl, rfl⟩
    case round =>
      obtain ⟨hm, rfl, rfl⟩ := hrel
      go_wp2_with fail
      go_end0
      exact ⟨rfl, rfl⟩

end Go.Proofs.Qxb6003670a.st
