/-
  TABLES OF BITS: [8][8]bool, [4][8][8]bool; zzUnion, zzSums.
-/
import Derived.Test.Qxb6003670aOf1
import Derived.Deep.WholeRow
import Derived.Deep.MidRow
namespace Go.Proofs.Qxb6003670a.st
open Go.RowKit
open Go.Proofs.Qxb6003670a.sm Go.Proofs.Qxb6003670a.mp Go.Proofs.Qxb6003670a.pl Go.Proofs.Qxb6003670a.rc
attribute [local go_sem ↓] Go.wp_at_zero Go.wp_at_succ

def Bl8 (s : Nat → Nat → Bool) : Array Value := Array.ofFn (n := 64) (fun i => .bool (s (i.1 / 8) (i.1 % 8)))
def B8 (w : World) (b : Nat) (s : Nat → Nat → Bool) : Prop := w.rowIs b 49 64 (fun i => .bool (s (i / 8) (i % 8)))
/-- [4][8][8]bool. -/
def B4 (w : World) (b : Nat) (c : Nat → Nat → Nat → Bool) : Prop := w.rowIs b 50 256 (fun i => .bool (c (i / 64) (i / 8 % 8) (i % 8)))
theorem Bl8_size (s : Nat → Nat → Bool) : (Bl8 s).size = 64 := by simp [Bl8]
theorem info49 : (Try.prog.info? 49).map (·.size) = some 64 := by kernel_rfl
theorem info40 : (Try.prog.info? 40).map (·.size) = some 64 := by kernel_rfl
theorem Bl8_one (s : Nat → Nat → Bool) : (Bl8 s).all (·.oneCell') = true := by
  rw [Array.all_eq_true_iff_forall_mem]
  intro v hv
  unfold Bl8 at hv
  obtain ⟨i, hi, rfl⟩ := Array.getElem_of_mem hv
  simp [Value.oneCell']
theorem rowIs_whole {w : World} {b : Nat} {t : TypeId} {n : Nat} {f : Nat → Value} (h : w.rowIs b t n f) : w.heap[b]? = some (.cells (Array.ofFn (n := n) (fun i => f i.1)) t (0, 0)) := by
  obtain ⟨c, hc, hn, hf⟩ := h
  rw [hc]
  congr 2
  apply Array.ext_getElem?
  intro i
  by_cases hi : i < n
  · rw [hf i hi]; simp [hi]
  · rw [Array.getElem?_eq_none (by omega), Array.getElem?_eq_none (by simp; omega)]
theorem B8.whole {w : World} {b : Nat} {s : Nat → Nat → Bool} (h : B8 w b s) : w.heap[b]? = some (.cells (Bl8 s) 49 (0, 0)) := by
  have := rowIs_whole (f := fun i => .bool (s (i / 8) (i % 8))) h
  unfold Bl8
  exact this
theorem B8.of_block {w : World} {b : Nat} {s : Nat → Nat → Bool} (h : w.heap[b]? = some (.cells (Bl8 s) 49 (0, 0))) : B8 w b s :=
  ⟨Bl8 s, h, Bl8_size s, fun i hi => by simp [Bl8, hi]⟩
theorem B8.cell {w : World} {b : Nat} {s : Nat → Nat → Bool} (h : B8 w b s) {p q : Nat} (hp : p < 8) (hq : q < 8) : w.cell? ⟨b, p * 8 + q, none⟩ = some (.bool (s p q)) := by
  have := World.rowIs.cell h (i := p * 8 + q) (by omega)
  rw [this]
  have e1 : (p * 8 + q) / 8 = p := by omega
  have e2 : (p * 8 + q) % 8 = q := by omega
  simp only [e1, e2]
theorem B8.congr {w : World} {b : Nat} {s s' : Nat → Nat → Bool} (h : B8 w b s) (e : ∀ x y, x < 8 → y < 8 → s x y = s' x y) : B8 w b s' := World.rowIs.congr h (fun i hi => by rw [e (i / 8) (i % 8) (by omega) (by omega)])
theorem B8.kept {w w' : World} {b : Nat} {s : Nat → Nat → Bool} (h : B8 w b s) (e : w'.heap[b]? = w.heap[b]?) : B8 w' b s := World.rowIs.of_block h e
/-- s with (p, q) set. -/
def mark8 (s : Nat → Nat → Bool) (p q : Nat) : Nat → Nat → Bool := fun x y => s x y || (decide (x = p) && decide (y = q))
theorem B8.set {w : World} {b : Nat} {s : Nat → Nat → Bool} (h : B8 w b s) {p q : Nat} (hq : q < 8) : B8 (w.setCell ⟨b, p * 8 + q, none⟩ (.bool true)) b (mark8 s p q) := by
  refine (World.rowIs.set h (p * 8 + q) (.bool true)).congr (fun i hi => ?_)
  unfold mark8
  by_cases e : i = p * 8 + q
  · have e1 : i / 8 = p := by omega
    have e2 : i % 8 = q := by omega
    rw [if_pos e, e1, e2]
    simp
  · rw [if_neg e]
    have : ¬ (i / 8 = p ∧ i % 8 = q) := by omega
    by_cases h1 : i / 8 = p
    · have h2 : i % 8 ≠ q := fun h2 => this ⟨h1, h2⟩
      simp [h2]
    · simp [h1]
theorem B4.cell {w : World} {b : Nat} {c : Nat → Nat → Nat → Bool} (h : B4 w b c) {s p q : Nat} (hs : s < 4) (hp : p < 8) (hq : q < 8) : w.cell? ⟨b, s * 64 + p * 8 + q, none⟩ = some (.bool (c s p q)) := by
  have := World.rowIs.cell h (i := s * 64 + p * 8 + q) (by omega)
  rw [this]
  have e1 : (s * 64 + p * 8 + q) / 64 = s := by omega
  have e2 : (s * 64 + p * 8 + q) / 8 % 8 = p := by omega
  have e3 : (s * 64 + p * 8 + q) % 8 = q := by omega
  simp only [e1, e2, e3]
theorem B4.kept {w w' : World} {b : Nat} {s : Nat → Nat → Nat → Bool} (h : B4 w b s) (e : w'.heap[b]? = w.heap[b]?) : B4 w' b s := World.rowIs.of_block h e

def ZB64 : Array Value := Array.replicate 64 (.bool false)
theorem zero49 (w : World) : (zeroValue 49).run Try.prog w = .ok (.agg ZB64) w := by kernel_rfl
theorem zb64 (w : World) : B8 (w.alloc (.cells ZB64 49)) w.heap.size (fun _ _ => false) :=
  World.rowIs_alloc w ZB64 49 (fun _ => .bool false) (fun i hi => by
    unfold ZB64 at hi ⊢
    simp at hi
    simp [hi])

/-- Is (x, y) ahead of (u, v)? -/
def lex (u v x y : Nat) : Bool := decide (x < u ∨ (x = u ∧ y < v))
/-- Of the first s sites, and of site s ahead of (u, v). -/
def puni (c : Nat → Nat → Nat → Bool) (s u v x y : Nat) : Bool := (List.range s).any (fun k => c k x y) || (lex u v x y && c s x y)

theorem lex_zero (x y : Nat) : lex 0 0 x y = false := by simp [lex]
theorem lex_next {u x y : Nat} (hy : y < 8) : lex u 8 x y = lex (u + 1) 0 x y := by
  unfold lex
  rw [decide_eq_decide]
  omega
theorem lex_all {x y : Nat} (hx : x < 8) : lex 8 0 x y = true := by
  unfold lex
  rw [decide_eq_true_iff]
  omega
theorem lex_step (u v x y : Nat) : lex u (v + 1) x y = (lex u v x y || (decide (x = u) && decide (y = v))) := by
  unfold lex
  rw [Bool.eq_iff_iff]
  simp only [decide_eq_true_iff, Bool.or_eq_true, Bool.and_eq_true]
  omega
theorem puni_row (c : Nat → Nat → Nat → Bool) (s u x y : Nat) (hy : y < 8) : puni c s u 8 x y = puni c s (u + 1) 0 x y := by unfold puni; rw [lex_next hy]
theorem puni_site (c : Nat → Nat → Nat → Bool) (s x y : Nat) (hx : x < 8) : puni c s 8 0 x y = puni c (s + 1) 0 0 x y := by
  unfold puni
  rw [lex_all hx, lex_zero, List.range_succ, List.any_append]
  simp
theorem puni_hit (c : Nat → Nat → Nat → Bool) (s u v x y : Nat) (h : c s u v = true) : mark8 (puni c s u v) u v x y = puni c s u (v + 1) x y := by
  unfold mark8 puni
  rw [lex_step]
  by_cases e : x = u ∧ y = v
  · obtain ⟨rfl, rfl⟩ := e
    simp [h]
  · have : (decide (x = u) && decide (y = v)) = false := by
      rw [← Bool.not_eq_true, Bool.and_eq_true, decide_eq_true_iff, decide_eq_true_iff]
      exact e
    rw [this]
    simp
theorem puni_miss (c : Nat → Nat → Nat → Bool) (s u v x y : Nat) (h : c s u v = false) : puni c s u v x y = puni c s u (v + 1) x y := by
  unfold puni
  rw [lex_step]
  by_cases e : x = u ∧ y = v
  · obtain ⟨rfl, rfl⟩ := e
    simp [h]
  · have : (decide (x = u) && decide (y = v)) = false := by
      rw [← Bool.not_eq_true, Bool.and_eq_true, decide_eq_true_iff, decide_eq_true_iff]
      exact e
    rw [this]
    simp

theorem below_setRow {w w' : World} {N B g : Nat} (h : Below N w w') (hB : B ≤ N) (hg : B ≤ g) (T : Array Value) : Below B w (w'.setRow g T) :=
  ⟨h.os, h.tape, h.output, by have := h.size; simpa using this, fun b hb => (setRow_other w' g b T (by omega)).trans (h.block b (by omega))⟩
/-- What zzUnion keeps. -/
structure US (w wr : World) (N : Nat) (t : Nat → Nat → Bool) : Prop where
  tab : B8 wr (N + 1) t
  res : wr.heap[N]? = some (.cells ZB64 49 (0, 0))
  below : Below N w wr
theorem US.set {w wr : World} {N : Nat} {t : Nat → Nat → Bool} (h : US w wr N t) {p q : Nat} (hq : q < 8) : US w (wr.setCell ⟨N + 1, p * 8 + q, none⟩ (.bool true)) N (mark8 t p q) :=
  ⟨h.tab.set hq, (Below.heap_setCell wr ⟨N + 1, p * 8 + q, none⟩ _ N (by show N ≠ N + 1; omega)).trans h.res, h.below.setCell (by show N ≤ N + 1; omega) _⟩
theorem US.congr {w wr : World} {N : Nat} {t t' : Nat → Nat → Bool} (h : US w wr N t) (e : ∀ x y, x < 8 → y < 8 → t x y = t' x y) : US w wr N t' := ⟨h.tab.congr e, h.res, h.below⟩

set_option maxRecDepth 20000 in
set_option maxHeartbeats 4000000 in
theorem union_any (cb : Nat) (c : Nat → Nat → Nat → Bool) (w : World) (hc : B4 w cb c) :
    Calls Try.prog 28 #[.pointer (some ⟨cb, 0, none⟩)] w fun e w' => e = .returned (.agg (Bl8 (puni c 4 0 0))) ∧ Below w.heap.size w w' := by
  have hz49 := zero49
  have hU : US w ((w.alloc (.cells ZB64 49)).alloc (.cells ZB64 49)) w.heap.size (puni c 0 0 0) := by
    refine ⟨?_, ?_, ((Below.refl _ _).alloc (Nat.le_refl _) _).alloc (by simp) _⟩
    · have := zb64 (w.alloc (.cells ZB64 49))
      rw [show (w.alloc (.cells ZB64 49)).heap.size = w.heap.size + 1 by simp] at this
      exact this.congr (fun x y _ _ => by simp [puni, lex])
    · rw [heap_alloc_old _ _ (by simp)]
      exact heap_alloc_last w _
  have HC := hide (And.intro hc hU)
  clear hc hU
  go_enter Try.func28, Try.ntmps28
  go_wp2_with fail
  obtain ⟨w2, hw2⟩ : ∃ w2, w2 = (w.alloc (.cells ZB64 49)).alloc (.cells ZB64 49) := ⟨_, rfl⟩
  obtain ⟨N, hN⟩ : ∃ N, N = w.heap.size := ⟨_, rfl⟩
  have A0 : Hid (B4 w cb c ∧ US w w2 N (puni c 0 0 0) ∧ N = w.heap.size) := by rw [hw2, hN]; exact ⟨HC.out.1, HC.out.2, rfl⟩
  rw [← hw2, ← hN]
  clear hw2 hN HC hz49
  go_loopg [4] 4 (fun m s4 wr => ∃ s : Nat, s ≤ 4 ∧ m = 4 - s ∧ s4 = .int .i64 (s : Int) ∧ US w wr N (puni c s 0 0))
  case atStart => exact ⟨0, by omega, rfl, rfl, A0.out.2.1⟩
  case round =>
    obtain ⟨s, hs, hm, rfl, hU⟩ := hrel
    by_cases hlt : s < 4
    · have hlt' : (s : Int) < 4 := by omega
      have A1 := hide hU
      clear hU
      go_wp2_with fail
      go_loopg [5] 8 (fun m s5 wr => ∃ u : Nat, u ≤ 8 ∧ m = 8 - u ∧ s5 = .int .i64 (u : Int) ∧ US w wr N (puni c s u 0))
      case atStart => exact ⟨0, by omega, rfl, rfl, A1.out⟩
      case round =>
        obtain ⟨u, hu, hmu, rfl, hU⟩ := hrel
        by_cases hltu : u < 8
        · have hltu' : (u : Int) < 8 := by omega
          have A2 := hide hU
          clear hU
          go_wp2_with fail
          go_loopg [6] 8 (fun m s6 wr => ∃ v : Nat, v ≤ 8 ∧ m = 8 - v ∧ s6 = .int .i64 (v : Int) ∧ US w wr N (puni c s u v))
          case atStart => exact ⟨0, by omega, rfl, rfl, A2.out⟩
          case round =>
            obtain ⟨v, hv, hmv, rfl, hU⟩ := hrel
            by_cases hltv : v < 8
            · have hltv' : (v : Int) < 8 := by omega
              have hB4 : B4 wr cb c := A0.out.1.kept (hU.below.block cb (by rw [A0.out.2.2]; exact World.rowIs.lt A0.out.1))
              have hc := hB4.cell hlt hltu hltv
              have hce := hU.tab.cell hltu hltv
              have hfz := World.rowIs.frozen hU.tab (u * 8 + v)
              cases hcc : c s u v with
              | true =>
                rw [hcc] at hc
                have A3 := hide (And.intro hU hcc)
                clear hU hB4 hcc
                go_wp2_with fail
                go_roundg (8 - (v + 1))
                case measure => omega
                case rel => exact ⟨v + 1, by omega, rfl, by go_num, (A3.out.1.set hltv).congr (fun x y _ _ => puni_hit c s u v x y A3.out.2)⟩
              | false =>
                rw [hcc] at hc
                have A3 := hide (And.intro hU hcc)
                clear hU hB4 hcc hce
                go_wp2_with fail
                go_roundg (8 - (v + 1))
                case measure => omega
                case rel => exact ⟨v + 1, by omega, rfl, by go_num, A3.out.1.congr (fun x y _ _ => puni_miss c s u v x y A3.out.2)⟩
            · have hv8 : v = 8 := by omega
              subst hv8
              have A3 := hide hU
              clear hU
              go_wp2_with fail
              go_roundg (8 - (u + 1))
              case measure => omega
              case rel => exact ⟨u + 1, by omega, rfl, by go_num, A3.out.congr (fun x y _ hy => puni_row c s u x y hy)⟩
        · have hu8 : u = 8 := by omega
          subst hu8
          have A2 := hide hU
          clear hU
          go_wp2_with fail
          go_roundg (4 - (s + 1))
          case measure => omega
          case rel => exact ⟨s + 1, by omega, rfl, by go_num, A2.out.congr (fun x y hx _ => puni_site c s x y hx)⟩
    · have hs4 : s = 4 := by omega
      have hnlt : ¬ (s : Int) < 4 := by omega
      rw [hs4] at hU
      have A1 := hide hU
      clear hU hs4 hs hm
      obtain ⟨T, hT⟩ : ∃ T, T = Bl8 (puni c 4 0 0) := ⟨_, rfl⟩
      have hg : wr.heap[N + 1]? = some (.cells T 49 (0, 0)) := by rw [hT]; exact A1.out.tab.whole
      have hg0 := A1.out.res
      have hi : (Try.prog.info? 49).map (·.size) = some T.size := by rw [hT, Bl8_size]; exact info49
      have hTs : ZB64.size = T.size := by rw [hT, Bl8_size]; rfl
      have hT1 : T.all (·.oneCell') = true := by rw [hT]; exact Bl8_one _
      have HT := hide (And.intro hT (And.intro hg (And.intro hg0 (And.intro hi (And.intro hTs hT1)))))
      clear hT hg hg0 hi hTs hT1
      go_wp2_with (first | refine wpList_load_row rfl 49 _ rfl (N + 1) rfl 49 T (0, 0) _ HT.out.2.1 Try.underlying49 rfl HT.out.2.2.2.1 ?_ | refine wpList_store_row rfl 49 _ _ rfl N T rfl rfl 49 ZB64 HT.out.2.2.1 HT.out.2.2.2.1 HT.out.2.2.2.2.1 HT.out.2.2.2.2.2 ?_)
      refine bodyPost_ret (v := .agg T) (results_cell_row rfl _ _ N 49 T (0, 0) _ rfl (setRow_heap wr N ZB64 T 49 (0, 0) HT.out.2.2.1) Try.underlying49 rfl HT.out.2.2.2.1) rfl ⟨by rw [HT.out.1], ?_⟩
      exact below_setRow A1.out.below (by rw [A0.out.2.2]; exact Nat.le_refl _) (by rw [A0.out.2.2]; exact Nat.le_refl _) T

def Nl8 (C : Nat → Nat → Int) : Array Value := Array.ofFn (n := 64) (fun i => .int .i64 (C (i.1 / 8) (i.1 % 8)))
theorem Nl8_size (s : Nat → Nat → Int) : (Nl8 s).size = 64 := by simp [Nl8]
theorem Nl8_one (s : Nat → Nat → Int) : (Nl8 s).all (·.oneCell') = true := by
  rw [Array.all_eq_true_iff_forall_mem]
  intro v hv
  unfold Nl8 at hv
  obtain ⟨i, hi, rfl⟩ := Array.getElem_of_mem hv
  simp [Value.oneCell']
theorem Num8.whole {w : World} {b : Nat} {s : Nat → Nat → Int} (h : Num8 w b s) : w.heap[b]? = some (.cells (Nl8 s) 40 (0, 0)) := by
  have := rowIs_whole (f := fun i => .int .i64 (s (i / 8) (i % 8))) h
  unfold Nl8
  exact this
theorem Num8.of_block {w : World} {b : Nat} {s : Nat → Nat → Int} (h : w.heap[b]? = some (.cells (Nl8 s) 40 (0, 0))) : Num8 w b s :=
  ⟨Nl8 s, h, Nl8_size s, fun i hi => by simp [Nl8, hi]⟩
theorem Num8.congr {w : World} {b : Nat} {s s' : Nat → Nat → Int} (h : Num8 w b s) (e : ∀ x y, x < 8 → y < 8 → s x y = s' x y) : Num8 w b s' := World.rowIs.congr h (fun i hi => by rw [e (i / 8) (i % 8) (by omega) (by omega)])

def psum (c : Nat → Nat → Nat → Bool) (s u v x y : Nat) : Int := ((List.range s).map (fun k => b2i (c k x y))).sum + b2i (lex u v x y && c s x y)
theorem psum_row (c : Nat → Nat → Nat → Bool) (s u x y : Nat) (hy : y < 8) : psum c s u 8 x y = psum c s (u + 1) 0 x y := by unfold psum; rw [lex_next hy]
theorem psum_site (c : Nat → Nat → Nat → Bool) (s x y : Nat) (hx : x < 8) : psum c s 8 0 x y = psum c (s + 1) 0 0 x y := by
  unfold psum
  rw [lex_all hx, lex_zero, List.range_succ, List.map_append, List.sum_append]
  simp [b2i]
theorem psum_hit (c : Nat → Nat → Nat → Bool) (s u v x y : Nat) (h : c s u v = true) : addC (psum c s u v) u v 1 x y = psum c s u (v + 1) x y := by
  unfold addC psum
  rw [lex_step]
  by_cases e : x = u ∧ y = v
  · obtain ⟨rfl, rfl⟩ := e
    rw [if_pos ⟨rfl, rfl⟩]
    simp [h, b2i, lex]
  · rw [if_neg e]
    have : (decide (x = u) && decide (y = v)) = false := by
      rw [← Bool.not_eq_true, Bool.and_eq_true, decide_eq_true_iff, decide_eq_true_iff]
      exact e
    rw [this]
    simp
theorem psum_miss (c : Nat → Nat → Nat → Bool) (s u v x y : Nat) (h : c s u v = false) : psum c s u v x y = psum c s u (v + 1) x y := by
  unfold psum
  rw [lex_step]
  by_cases e : x = u ∧ y = v
  · obtain ⟨rfl, rfl⟩ := e
    simp [h]
  · have : (decide (x = u) && decide (y = v)) = false := by
      rw [← Bool.not_eq_true, Bool.and_eq_true, decide_eq_true_iff, decide_eq_true_iff]
      exact e
    rw [this]
    simp
theorem psum_bnd (c : Nat → Nat → Nat → Bool) (s u v x y : Nat) : 0 ≤ psum c s u v x y ∧ psum c s u v x y ≤ s + 1 := by
  have h1 : ∀ b, 0 ≤ b2i b ∧ b2i b ≤ 1 := fun b => by unfold b2i; split <;> omega
  have h2 : 0 ≤ ((List.range s).map (fun k => b2i (c k x y))).sum ∧ ((List.range s).map (fun k => b2i (c k x y))).sum ≤ s := by
    induction s with
    | zero => simp
    | succ n ih =>
      rw [List.range_succ, List.map_append, List.sum_append]
      have := h1 (c n x y)
      simp
      omega
  have := h1 (lex u v x y && c s x y)
  unfold psum
  omega

/-- What zzSums keeps. -/
structure SS (w wr : World) (N : Nat) (t : Nat → Nat → Int) : Prop where
  tab : Num8 wr (N + 1) t
  res : wr.heap[N]? = some (.cells Z64 40 (0, 0))
  below : Below N w wr
theorem SS.set {w wr : World} {N : Nat} {t : Nat → Nat → Int} (h : SS w wr N t) {p q : Nat} (hq : q < 8) : SS w (wr.setCell ⟨N + 1, p * 8 + q, none⟩ (.int .i64 (t p q + 1))).drew N (addC t p q 1) :=
  ⟨h.tab.set hq 1, (Below.heap_setCell wr ⟨N + 1, p * 8 + q, none⟩ _ N (by show N ≠ N + 1; omega)).trans h.res, (h.below.setCell (by show N ≤ N + 1; omega) _).drew⟩
theorem SS.congr {w wr : World} {N : Nat} {t t' : Nat → Nat → Int} (h : SS w wr N t) (e : ∀ x y, x < 8 → y < 8 → t x y = t' x y) : SS w wr N t' := ⟨h.tab.congr e, h.res, h.below⟩

set_option maxRecDepth 20000 in
set_option maxHeartbeats 4000000 in
theorem sums_any (cb : Nat) (c : Nat → Nat → Nat → Bool) (w : World) (hc : B4 w cb c) :
    Calls Try.prog 26 #[.pointer (some ⟨cb, 0, none⟩)] w fun e w' => e = .returned (.agg (Nl8 (psum c 4 0 0))) ∧ Below w.heap.size w w' := by
  have hz40 := zero40
  have hU : SS w ((w.alloc (.cells Z64 40)).alloc (.cells Z64 40)) w.heap.size (psum c 0 0 0) := by
    refine ⟨?_, ?_, ((Below.refl _ _).alloc (Nat.le_refl _) _).alloc (by simp) _⟩
    · have := num64 (w.alloc (.cells Z64 40))
      rw [show (w.alloc (.cells Z64 40)).heap.size = w.heap.size + 1 by simp] at this
      exact this.congr (fun x y _ _ => by simp [psum, lex, b2i])
    · rw [heap_alloc_old _ _ (by simp)]
      exact heap_alloc_last w _
  have HC := hide (And.intro hc hU)
  clear hc hU
  go_enter Try.func26, Try.ntmps26
  go_wp2_with fail
  obtain ⟨w2, hw2⟩ : ∃ w2, w2 = (w.alloc (.cells Z64 40)).alloc (.cells Z64 40) := ⟨_, rfl⟩
  obtain ⟨N, hN⟩ : ∃ N, N = w.heap.size := ⟨_, rfl⟩
  have A0 : Hid (B4 w cb c ∧ SS w w2 N (psum c 0 0 0) ∧ N = w.heap.size) := by rw [hw2, hN]; exact ⟨HC.out.1, HC.out.2, rfl⟩
  rw [← hw2, ← hN]
  clear hw2 hN HC hz40
  go_loopg [4] 4 (fun m s4 wr => ∃ s : Nat, s ≤ 4 ∧ m = 4 - s ∧ s4 = .int .i64 (s : Int) ∧ SS w wr N (psum c s 0 0))
  case atStart => exact ⟨0, by omega, rfl, rfl, A0.out.2.1⟩
  case round =>
    obtain ⟨s, hs, hm, rfl, hU⟩ := hrel
    by_cases hlt : s < 4
    · have hlt' : (s : Int) < 4 := by omega
      have A1 := hide hU
      clear hU
      go_wp2_with fail
      go_loopg [5] 8 (fun m s5 wr => ∃ u : Nat, u ≤ 8 ∧ m = 8 - u ∧ s5 = .int .i64 (u : Int) ∧ SS w wr N (psum c s u 0))
      case atStart => exact ⟨0, by omega, rfl, rfl, A1.out⟩
      case round =>
        obtain ⟨u, hu, hmu, rfl, hU⟩ := hrel
        by_cases hltu : u < 8
        · have hltu' : (u : Int) < 8 := by omega
          have A2 := hide hU
          clear hU
          go_wp2_with fail
          go_loopg [6] 8 (fun m s6 wr => ∃ v : Nat, v ≤ 8 ∧ m = 8 - v ∧ s6 = .int .i64 (v : Int) ∧ SS w wr N (psum c s u v))
          case atStart => exact ⟨0, by omega, rfl, rfl, A2.out⟩
          case round =>
            obtain ⟨v, hv, hmv, rfl, hU⟩ := hrel
            by_cases hltv : v < 8
            · have hltv' : (v : Int) < 8 := by omega
              have hB4 : B4 wr cb c := A0.out.1.kept (hU.below.block cb (by rw [A0.out.2.2]; exact World.rowIs.lt A0.out.1))
              have hc := hB4.cell hlt hltu hltv
              have hce := hU.tab.cell hltu hltv
              have hfz := World.rowIs.frozen hU.tab (u * 8 + v)
              cases hcc : c s u v with
              | true =>
                rw [hcc] at hc
                have A3 := hide (And.intro hU hcc)
                have hbd := psum_bnd c s u v u v
                clear hU hB4 hcc
                go_wp2_with fail
                go_region
                go_wp2_with fail
                go_roundg (8 - (v + 1))
                case measure => omega
                case rel => exact ⟨v + 1, by omega, rfl, by go_num, (A3.out.1.set hltv).congr (fun x y _ _ => psum_hit c s u v x y A3.out.2)⟩
              | false =>
                rw [hcc] at hc
                have A3 := hide (And.intro hU hcc)
                clear hU hB4 hcc hce
                go_wp2_with fail
                go_roundg (8 - (v + 1))
                case measure => omega
                case rel => exact ⟨v + 1, by omega, rfl, by go_num, A3.out.1.congr (fun x y _ _ => psum_miss c s u v x y A3.out.2)⟩
            · have hv8 : v = 8 := by omega
              subst hv8
              have A3 := hide hU
              clear hU
              go_wp2_with fail
              go_roundg (8 - (u + 1))
              case measure => omega
              case rel => exact ⟨u + 1, by omega, rfl, by go_num, A3.out.congr (fun x y _ hy => psum_row c s u x y hy)⟩
        · have hu8 : u = 8 := by omega
          subst hu8
          have A2 := hide hU
          clear hU
          go_wp2_with fail
          go_roundg (4 - (s + 1))
          case measure => omega
          case rel => exact ⟨s + 1, by omega, rfl, by go_num, A2.out.congr (fun x y hx _ => psum_site c s x y hx)⟩
    · have hs4 : s = 4 := by omega
      have hnlt : ¬ (s : Int) < 4 := by omega
      rw [hs4] at hU
      have A1 := hide hU
      clear hU hs4 hs hm
      obtain ⟨T, hT⟩ : ∃ T, T = Nl8 (psum c 4 0 0) := ⟨_, rfl⟩
      have hg : wr.heap[N + 1]? = some (.cells T 40 (0, 0)) := by rw [hT]; exact A1.out.tab.whole
      have hg0 := A1.out.res
      have hi : (Try.prog.info? 40).map (·.size) = some T.size := by rw [hT, Nl8_size]; exact info40
      have hTs : Z64.size = T.size := by rw [hT, Nl8_size]; rfl
      have hT1 : T.all (·.oneCell') = true := by rw [hT]; exact Nl8_one _
      have HT := hide (And.intro hT (And.intro hg (And.intro hg0 (And.intro hi (And.intro hTs hT1)))))
      clear hT hg hg0 hi hTs hT1
      go_wp2_with (first | refine wpList_load_row rfl 40 _ rfl (N + 1) rfl 40 T (0, 0) _ HT.out.2.1 Try.underlying40 rfl HT.out.2.2.2.1 ?_ | refine wpList_store_row rfl 40 _ _ rfl N T rfl rfl 40 Z64 HT.out.2.2.1 HT.out.2.2.2.1 HT.out.2.2.2.2.1 HT.out.2.2.2.2.2 ?_)
      refine bodyPost_ret (v := .agg T) (results_cell_row rfl _ _ N 40 T (0, 0) _ rfl (setRow_heap wr N Z64 T 40 (0, 0) HT.out.2.2.1) Try.underlying40 rfl HT.out.2.2.2.1) rfl ⟨by rw [HT.out.1], ?_⟩
      exact below_setRow A1.out.below (by rw [A0.out.2.2]; exact Nat.le_refl _) (by rw [A0.out.2.2]; exact Nat.le_refl _) T

end Go.Proofs.Qxb6003670a.st
