/-
  THE STANDING COUNTS: a map of maps that holds just the counts that are not 0, and no empty inner map.
-/
import Derived.Test.Qxb6003670aGraph
namespace Go.Proofs.Qxb6003670a.st
open Go.RowKit
open Go.Proofs.Qxb6003670a.sm Go.Proofs.Qxb6003670a.mp Go.Proofs.Qxb6003670a.pl Go.Proofs.Qxb6003670a.rc
open Go.ChangeMaps (setBlock)

/-- What the maps hold at the counts C. -/
def toS (C : Nat → Nat → Int) (u v : Nat) : Option Int := if C u v = 0 then none else some (C u v)
/-- C with k more at (u, v). -/
def addC (C : Nat → Nat → Int) (u v : Nat) (k : Int) : Nat → Nat → Int := fun x y => if x = u ∧ y = v then C x y + k else C x y

/-- Block bo holds the counts C, its inner maps at M. -/
structure Stand (w : World) (bo : Nat) (M : Nat → Option Nat) (C : Nat → Nat → Int) : Prop where
  graph : Graph w bo M (toS C)
  sep : Sep bo M
  live : ∀ u c, M u = some c → ∃ v, C u v ≠ 0
  dead : ∀ u, M u = none → ∀ v, C u v = 0

/-- From w to w' nothing has turned but the blocks of the counts; those that are theirs now were theirs, or are new. -/
structure Stp (w w' : World) (bo : Nat) (M M' : Nat → Option Nat) : Prop where
  os : w'.os = w.os
  tape : w'.tape = w.tape
  output : w'.output = w.output
  size : w.heap.size ≤ w'.heap.size
  block : ∀ i, i < w.heap.size → i ≠ bo → (∀ u, M u ≠ some i) → w'.heap[i]? = w.heap[i]?
  new : ∀ u c, M' u = some c → M u = some c ∨ w.heap.size ≤ c

theorem Stp.trans {a b c : World} {bo : Nat} {M M' M'' : Nat → Option Nat} (h : Stp a b bo M M') (k : Stp b c bo M' M'') : Stp a c bo M M'' := by
  refine ⟨k.os.trans h.os, k.tape.trans h.tape, k.output.trans h.output, Nat.le_trans h.size k.size, fun i hi h1 h2 => ?_, fun u d hd => ?_⟩
  · refine (k.block i (Nat.lt_of_lt_of_le hi h.size) h1 (fun u hu => ?_)).trans (h.block i hi h1 h2)
    rcases h.new u i hu with h3 | h3
    · exact h2 u h3
    · omega
  · rcases k.new u d hd with h3 | h3
    · exact h.new u d h3
    · exact Or.inr (Nat.le_trans h.size h3)

theorem Stp.of_below {w w' : World} (h : Below w.heap.size w w') (bo : Nat) (M : Nat → Option Nat) : Stp w w' bo M M :=
  ⟨h.os, h.tape, h.output, h.size, fun i hi _ _ => h.block i hi, fun _ _ h => Or.inl h⟩

theorem Stp.grown {w w' : World} {bo b : Nat} {M M' : Nat → Option Nat} (h : w.grownBy w' (some b)) (hb : b = bo ∨ ∃ u, M u = some b) (hn : ∀ u c, M' u = some c → M u = some c ∨ w.heap.size ≤ c) : Stp w w' bo M M' := by
  refine ⟨h.os, h.tape, h.output, h.size, fun i hi h1 h2 => h.block i hi (fun e => ?_), hn⟩
  cases e
  rcases hb with h3 | ⟨u, h3⟩
  · exact h1 h3
  · exact h2 u h3

theorem Stand.below {w w' : World} {bo : Nat} {M : Nat → Option Nat} {C : Nat → Nat → Int} (h : Stand w bo M C) (hb : Below w.heap.size w w') : Stand w' bo M C := ⟨h.graph.below hb, h.sep, h.live, h.dead⟩

theorem Graph.congr {w : World} {bo : Nat} {M : Nat → Option Nat} {S S' : Nat → Nat → Option Int} (h : Graph w bo M S) (e : ∀ u c, M u = some c → ∀ v, S u v = S' u v) : Graph w bo M S' :=
  ⟨h.1, fun u c hc => by
    have e1 : S u = S' u := funext (e u c hc)
    rw [← e1]
    exact h.2 u c hc⟩

/-- S without (u, v). -/
def cutS (S : Nat → Nat → Option Int) (u v : Nat) : Nat → Nat → Option Int := fun x => if x = u then cut (S u) v else S x

/-- 'delete(inner, v)'. -/
theorem Graph.delInner {w : World} {bo u v c : Nat} {M : Nat → Option Nat} {S : Nat → Nat → Option Int} (h : Graph w bo M S) (hs : Sep bo M) (hM : M u = some c) (hv : v < 10) (ty : TypeId) :
    ∃ w2, (Builtin.delete_ #[30, 9] ty #[.map (some c), .string (nd v)]).run Try.prog w = .ok (.tuple #[]) w2 ∧ Graph w2 bo M (cutS S u v) ∧ w.grownBy w2 (some c) ∧ w2.heap.size = w.heap.size := by
  obtain ⟨o, hr, hm⟩ := (h.2 u c hM).drop keyN Try.underlying30 (a := v) hv ty
  have hg := (h.2 u c hM).grown o
  refine ⟨_, hr, ⟨h.1.kept (hg.block _ h.1.lt (by have := hs.out u c hM; simp; omega)), fun x c' hc => ?_⟩, hg, by simp [setBlock]⟩
  unfold cutS
  by_cases e : x = u
  · subst e
    rw [hM] at hc
    cases hc
    rw [if_pos rfl]
    exact hm
  · rw [if_neg e]
    refine (h.2 x c' hc).kept (hg.block _ (h.2 x c' hc).lt ?_)
    simp
    intro e1
    subst e1
    exact e (hs.inj x u c' hc hM)

/-- 'delete(outer, u)'. -/
theorem Graph.delOuter {w : World} {bo u : Nat} {M : Nat → Option Nat} {S : Nat → Nat → Option Int} (h : Graph w bo M S) (hs : Sep bo M) (hu : u < 10) (ty : TypeId) :
    ∃ w2, (Builtin.delete_ #[27, 9] ty #[.map (some bo), .string (nd u)]).run Try.prog w = .ok (.tuple #[]) w2 ∧ Graph w2 bo (cut M u) S ∧ Sep bo (cut M u) ∧ w.grownBy w2 (some bo) ∧ w2.heap.size = w.heap.size := by
  obtain ⟨o, hr, hm⟩ := h.1.drop keyN Try.underlying27 (a := u) hu ty
  have hg := h.1.grown o
  have hc : ∀ x c, cut M u x = some c → M x = some c := fun x c h => by
    unfold cut at h
    split at h
    · cases h
    · exact h
  exact ⟨_, hr, ⟨hm, fun x c hx => (h.2 x c (hc x c hx)).kept (hg.block _ (h.2 x c (hc x c hx)).lt (by have := hs.out x c (hc x c hx); simp; omega))⟩, ⟨fun x x' c h1 h2 => hs.inj x x' c (hc x c h1) (hc x' c h2), fun x c h1 => hs.out x c (hc x c h1)⟩, hg, by simp [setBlock]⟩

/-- 'len(inner)'. -/
theorem Graph.lenInner {w : World} {bo u c : Nat} {M : Nat → Option Nat} {S : Nat → Nat → Option Int} (h : Graph w bo M S) (hM : M u = some c) (ty : TypeId) :
    ∃ n : Nat, (Builtin.len_ #[30] ty #[.map (some c)]).run Try.prog w = .ok (.int .i64 (n : Int)) w ∧ (n = 0 ↔ ∀ v, S u v = none) :=
  (h.2 u c hM).len Try.underlying30 ty

variable {w w' : World} {bo u v c : Nat} {M : Nat → Option Nat} {C : Nat → Nat → Int} {k : Int}

/-- The new count is not 0; the row was there. -/
theorem Stand.fill (h : Stand w bo M C) (hM : M u = some c) (hk : C u v + k ≠ 0) (hG : Graph w' bo M (setS (toS C) u v (C u v + k))) : Stand w' bo M (addC C u v k) := by
  refine ⟨Graph.congr hG (fun x d hd y => ?_), h.sep, fun x d hd => ?_, fun x hx y => ?_⟩
  · unfold setS put toS addC
    by_cases e : x = u
    · subst e
      by_cases e2 : y = v
      · subst e2; simp [hk]
      · simp [e2]
    · simp [e]
  · by_cases e : x = u
    · subst e; exact ⟨v, by simp [addC, hk]⟩
    · obtain ⟨y, hy⟩ := h.live x d hd
      exact ⟨y, by simp [addC, e, hy]⟩
  · have e : x ≠ u := fun e => by rw [e, hM] at hx; cases hx
    simp [addC, e, h.dead x hx y]

/-- .. it was not. -/
theorem Stand.fillNew (h : Stand w bo M C) (hM : M u = none) (hk : C u v + k ≠ 0) (hs : Sep bo (put M u c)) (hG : Graph w' bo (put M u c) (setS (newS (toS C) u) u v (C u v + k))) : Stand w' bo (put M u c) (addC C u v k) := by
  refine ⟨Graph.congr hG (fun x d hd y => ?_), hs, fun x d hd => ?_, fun x hx y => ?_⟩
  · unfold setS newS put toS addC
    by_cases e : x = u
    · subst e
      by_cases e2 : y = v
      · subst e2; simp [hk]
      · simp [e2, h.dead x hM y]
    · simp [e]
  · by_cases e : x = u
    · subst e; exact ⟨v, by simp [addC, hk]⟩
    · have : M x = some d := by simpa [put, e] using hd
      obtain ⟨y, hy⟩ := h.live x d this
      exact ⟨y, by simp [addC, e, hy]⟩
  · have e : x ≠ u := fun e => by simp [put, e] at hx
    have hx' : M x = none := by simpa [put, e] using hx
    simp [addC, e, h.dead x hx' y]

/-- The new count is 0; the row holds others. -/
theorem Stand.less (h : Stand w bo M C) (hM : M u = some c) (hk : C u v + k = 0) (ho : ∃ y, y ≠ v ∧ C u y ≠ 0) (hG : Graph w' bo M (cutS (setS (toS C) u v (C u v + k)) u v)) : Stand w' bo M (addC C u v k) := by
  refine ⟨Graph.congr hG (fun x d hd y => ?_), h.sep, fun x d hd => ?_, fun x hx y => ?_⟩
  · unfold cutS cut setS put toS addC
    by_cases e : x = u
    · subst e
      by_cases e2 : y = v
      · subst e2; simp [hk]
      · simp [e2]
    · simp [e]
  · by_cases e : x = u
    · subst e
      obtain ⟨y, h1, h2⟩ := ho
      exact ⟨y, by simp [addC, h1, h2]⟩
    · obtain ⟨y, hy⟩ := h.live x d hd
      exact ⟨y, by simp [addC, e, hy]⟩
  · have e : x ≠ u := fun e => by rw [e, hM] at hx; cases hx
    simp [addC, e, h.dead x hx y]

/-- .. it holds none: the row goes. -/
theorem Stand.gone (h : Stand w bo M C) {M' : Nat → Option Nat} {S : Nat → Nat → Option Int} (hM' : ∀ x, x ≠ u → M' x = M x) (hk : C u v + k = 0) (ho : ∀ y, y ≠ v → C u y = 0) (hs : Sep bo (cut M' u)) (hS : ∀ x, x ≠ u → S x = toS C x) (hG : Graph w' bo (cut M' u) S) : Stand w' bo (cut M' u) (addC C u v k) := by
  refine ⟨Graph.congr hG (fun x d hd y => ?_), hs, fun x d hd => ?_, fun x hx y => ?_⟩
  · by_cases e : x = u
    · simp [cut, e] at hd
    · rw [hS x e]
      unfold toS addC
      simp [e]
  · by_cases e : x = u
    · simp [cut, e] at hd
    · have : M x = some d := by rw [← hM' x e]; simpa [cut, e] using hd
      obtain ⟨y, hy⟩ := h.live x d this
      exact ⟨y, by simp [addC, e, hy]⟩
  · by_cases e : x = u
    · subst e
      by_cases e2 : y = v
      · subst e2; simp [addC, hk]
      · simp [addC, e2, ho y e2]
    · have hx' : M x = none := by rw [← hM' x e]; simpa [cut, e] using hx
      simp [addC, e, h.dead x hx' y]

end Go.Proofs.Qxb6003670a.st
