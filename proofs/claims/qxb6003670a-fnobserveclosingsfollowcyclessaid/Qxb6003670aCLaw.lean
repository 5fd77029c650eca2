import Derived.Test.Qxb6003670aTruth
import Derived.RegionTactic
import Derived.BigRegion
namespace Go.Proofs.Qxb6003670a.st
open Go.RowKit
open Go.Proofs.Qxb6003670a.sm Go.Proofs.Qxb6003670a.mp Go.Proofs.Qxb6003670a.pl Go.Proofs.Qxb6003670a.rc

theorem bytesC_any (a0 : Option Addr) (l0 c0 : Nat) (a1 : Option Addr) (l1 c1 : Nat) (w : World) :
    Calls Try.prog 14 #[.slice a0 l0 c0, .slice a1 l1 c1] w fun e w' => ∃ b, e = .returned (.bool b) ∧ w' = w := by
  go_enter Try.func14, Try.ntmps14
  go_wp2
  all_goals (go_ret; exact ⟨_, rfl, rfl⟩)

def Z64 : Array Value := Array.replicate 64 (.int .i64 0)
theorem zero40 (w : World) : (zeroValue 40).run Try.prog w = .ok (.agg Z64) w := by kernel_rfl
theorem num64 (w : World) : Num8 (w.alloc (.cells Z64 40)) w.heap.size (fun _ _ => 0) :=
  World.rowIs_alloc w Z64 40 (fun _ => .int .i64 0) (fun i hi => by
    unfold Z64 at hi ⊢
    simp at hi
    simp [hi])
theorem Num8.set {w : World} {sb : Nat} {C : Nat → Nat → Int} (h : Num8 w sb C) {p q : Nat} (hq : q < 8) (k : Int) : Num8 (w.setCell ⟨sb, p * 8 + q, none⟩ (.int .i64 (C p q + k))) sb (addC C p q k) := by
  refine (World.rowIs.set h (p * 8 + q) _).congr (fun i hi => ?_)
  unfold addC
  by_cases e : i = p * 8 + q
  · have e1 : i / 8 = p := by omega
    have e2 : i % 8 = q := by omega
    rw [if_pos e, e1, e2]
    simp
  · rw [if_neg e]
    have : ¬ (i / 8 = p ∧ i % 8 = q) := by omega
    rw [if_neg this]

theorem Stp.cell {w w' : World} {bo t o : Nat} {M M' : Nat → Option Nat} {x : Value} (k : Stp w w' bo M M') (h : w.cell? ⟨t, o, none⟩ = some x) (h1 : t ≠ bo) (h2 : ∀ u, M u ≠ some t) : w'.cell? ⟨t, o, none⟩ = some x :=
  (World.cell?_of_block (w := w) (a := ⟨t, o, none⟩) (k.block t (World.block_lt_of_cell? _ _ h) h1 h2)).trans h

/-- From w9 to wr: nothing below sb has turned but bo; the inner maps lie above sb. -/
structure Lp (w9 wr : World) (bo sb : Nat) (M : Nat → Option Nat) : Prop where
  os : wr.os = w9.os
  tape : wr.tape = w9.tape
  output : wr.output = w9.output
  size : w9.heap.size ≤ wr.heap.size
  block : ∀ b, b < sb → b ≠ bo → wr.heap[b]? = w9.heap[b]?
  new : ∀ u c, M u = some c → sb < c
  lt : sb < w9.heap.size
  bs : bo < sb

theorem Lp.step {w9 wr w' : World} {bo sb : Nat} {M M' : Nat → Option Nat} (h : Lp w9 wr bo sb M) (k : Stp wr w' bo M M') : Lp w9 w' bo sb M' := by
  have hs := h.size
  have hl := h.lt
  refine ⟨k.os.trans h.os, k.tape.trans h.tape, k.output.trans h.output, Nat.le_trans h.size k.size, fun b h1 h2 => ?_, fun u c hc => ?_, h.lt, h.bs⟩
  · refine (k.block b (by omega) h2 (fun u hu => ?_)).trans (h.block b h1 h2)
    have := h.new u b hu
    omega
  · rcases k.new u c hc with h1 | h1
    · exact h.new u c h1
    · omega
theorem Lp.same {w9 wr w' : World} {bo sb : Nat} {M M' : Nat → Option Nat} (h : Lp w9 wr bo sb M) (k : Stp wr w' bo M M') : w'.heap[sb]? = wr.heap[sb]? := by
  have hs := h.size
  have hl := h.lt
  have hb := h.bs
  refine k.block sb (by omega) (by omega) (fun u hu => ?_)
  have := h.new u sb hu
  omega
theorem Lp.below {w9 wr w' : World} {bo sb : Nat} {M : Nat → Option Nat} (h : Lp w9 wr bo sb M) (k : Below wr.heap.size wr w') : Lp w9 w' bo sb M := h.step (Stp.of_below k bo M)
theorem Lp.drew {w9 wr : World} {bo sb : Nat} {M : Nat → Option Nat} (h : Lp w9 wr bo sb M) : Lp w9 wr.drew bo sb M := ⟨h.os, h.tape, h.output, h.size, h.block, h.new, h.lt, h.bs⟩
theorem Lp.set {w9 wr : World} {bo sb : Nat} {M : Nat → Option Nat} (h : Lp w9 wr bo sb M) (i : Nat) (v : Value) : Lp w9 (wr.setCell ⟨sb, i, none⟩ v) bo sb M :=
  ⟨h.os, h.tape, h.output, by have := h.size; simpa [World.setCell] using this, fun b h1 h2 => (Below.heap_setCell wr ⟨sb, i, none⟩ v b (by show b ≠ sb; omega)).trans (h.block b h1 h2), h.new, h.lt, h.bs⟩
theorem Stand.setCell {w : World} {bo : Nat} {M : Nat → Option Nat} {C : Nat → Nat → Int} (h : Stand w bo M C) {a : Addr} (v : Value) (hb : a.block ≠ bo) (hM : ∀ u, M u ≠ some a.block) : Stand (w.setCell a v) bo M C :=
  ⟨⟨h.graph.1.kept (Below.heap_setCell w a v bo (fun e => hb e.symm)), fun u c hc => (h.graph.2 u c hc).kept (Below.heap_setCell w a v c (fun e => hM u (by rw [hc, e])))⟩, h.sep, h.live, h.dead⟩

/-- What the loop keeps. -/
structure CInv (w9 wr : World) (tb bo sb : Nat) (M : Nat → Option Nat) (C : Nat → Nat → Int) (n : Nat) : Prop where
  stand : Stand wr bo M C
  cell : wr.cell? ⟨tb, 1, none⟩ = some (.map (some bo))
  num : Num8 wr sb C
  lp : Lp w9 wr bo sb M
  dom : ∀ u v, C u v ≠ 0 → v < 8
  bnd : ∀ u v, -(128 * (n : Int)) ≤ C u v ∧ C u v ≤ 128 * (n : Int)

set_option maxRecDepth 20000 in
set_option maxHeartbeats 4000000 in
theorem claw (a0 : Option Addr) (len0 cap0 : Nat) (f : Nat → Int) (a1 : Option Addr) (len1 cap1 : Nat) (h : Nat → Int) (w : World)
    (hl0 : len0 ≤ 4096) (hl1 : len1 ≤ 4096)
    (hn0 : a0 = none → len0 = 0 ∧ cap0 = 0) (hs0 : Src 22 .u8 w a0 len0 cap0 f) (hf : ∀ i, 0 ≤ f i ∧ f i < 256)
    (hn1 : a1 = none → len1 = 0 ∧ cap1 = 0) (hs1 : Src 34 .i8 w a1 len1 cap1 h) (hh : ∀ i, -128 ≤ h i ∧ h i ≤ 127) :
    Calls Try.prog 4 #[.slice a0 len0 cap0, .slice a1 len1 cap1] w fun e w' => e = .returned (.bool true) ∧ Below w.heap.size w w' := by
  have H0 := hide (And.intro hn0 (And.intro hs0 hf))
  have H1 := hide (And.intro hn1 (And.intro hs1 hh))
  clear hn0 hs0 hn1 hs1 hf hh
  have hz40 := zero40
  go_enter Try.func4, Try.ntmps4
  go_wp2_with fail
  refine (bytesC_any _ _ _ _ _ _ _).mono ?_
  rintro e w' ⟨b, rfl, rfl⟩
  cases b
  · go_wp2
    go_ret
    exact ⟨rfl, Below.refl _ _⟩
  go_wp2_with fail
  refine (clone8_any _ _ _ f _ (by omega) H0.out.1 H0.out.2.1).mono ?_
  rintro e w1 ⟨A0, c0, rfl, hb1, hA0⟩
  go_wp2_with fail
  refine (clone15_any _ _ _ h _ (by omega) H1.out.1 (H1.out.2.1.below hb1)).mono ?_
  rintro e w2 ⟨A1, c1, rfl, hb2, hA1⟩
  obtain ⟨g0, hix0, hg0, hc0⟩ := hA0.below hb2
  obtain ⟨g1, hix1, hg1, hc1⟩ := hA1
  have hb : Below w'.heap.size w' w2 := hb1.trans (hb2.mono hb1.size)
  have hf := H0.out.2.2
  have hh := H1.out.2.2
  clear H0 H1 hb1 hb2 hA0
  have HB := hide hb
  have HC := hide (And.intro hc0 (And.intro hc1 (And.intro hg0 hg1)))
  clear hb hc0 hc1 hg0 hg1
  go_wp2_with fail
  refine (zztruth_any _).mono ?_
  rintro e w3 ⟨rfl, hw3⟩
  have hz3 := truth_size w2
  have hb3 := truth_below w2
  have hS3 := truth_stand w2
  have hc3 := truth_cell1 w2
  rw [← hw3] at hz3 hb3 hS3 hc3
  clear hw3
  have HT := hide (And.intro hb3 (And.intro hS3 hc3))
  clear hb3 hS3 hc3
  go_wp2_with fail
  have hb9 : Below w2.heap.size w2 (w3.alloc (.cells Z64 40)) := HT.out.1.alloc (by omega) _
  have hB3 : Below w3.heap.size w3 (w3.alloc (.cells Z64 40)) := (Below.refl _ _).alloc (Nat.le_refl _) _
  have hz9 : (w3.alloc (.cells Z64 40)).heap.size = w2.heap.size + 6 := by simp; omega
  have hN9 : Num8 (w3.alloc (.cells Z64 40)) (w2.heap.size + 5) (fun _ _ => 0) := by rw [← hz3]; exact num64 w3
  have hI9 : CInv (w3.alloc (.cells Z64 40)) (w3.alloc (.cells Z64 40)) (w2.heap.size + 4) (w2.heap.size + 1) (w2.heap.size + 5) (fun _ => none) (fun _ _ => 0) 0 :=
    ⟨HT.out.2.1.below hB3, (hB3.cell (World.block_lt_of_cell? _ _ HT.out.2.2)).trans HT.out.2.2, hN9, ⟨rfl, rfl, rfl, Nat.le_refl _, fun _ _ _ => rfl, fun _ _ h => (by cases h), by omega, by omega⟩, fun _ _ h => absurd rfl h, fun _ _ => by omega⟩
  obtain ⟨w9, hw9⟩ : ∃ w9, w9 = w3.alloc (.cells Z64 40) := ⟨_, rfl⟩
  rw [← hw9] at hb9 hI9 hz9
  rw [← hw9]
  clear hw9 hN9 hB3 HT hz3 hz40
  have H9 := hide (And.intro hb9 hI9)
  clear hb9 hI9
  go_loopg [7] len0 (fun n s wr => ∃ (i : Nat) (M : Nat → Option Nat) (C : Nat → Nat → Int), i ≤ len0 ∧ n = len0 - i ∧ s = .int .i64 (i : Int) ∧ CInv w9 wr (w2.heap.size + 4) (w2.heap.size + 1) (w2.heap.size + 5) M C i)
  case atStart => exact ⟨0, _, _, by omega, rfl, rfl, H9.out.2⟩
  case round =>
    obtain ⟨i, M, C, hi, hn, rfl, hI⟩ := hrel
    by_cases hlt : i < len0
    · have hlt' : (i : Int) < (len0 : Int) := by omega
      have hg0 := (HC.out.2.2.1 (by omega)).2
      have hix := hix0 wr i hlt
      have hcell : wr.cell? ⟨g0, i, none⟩ = some (.int .u8 (f i)) := (World.cell?_of_block (w := w2) (a := ⟨g0, i, none⟩) ((hI.lp.block g0 (by omega) (by omega)).trans (H9.out.1.block g0 hg0))).trans (HC.out.1 i hlt)
      obtain ⟨hf0, hf1⟩ := hf i
      obtain ⟨u, hu⟩ : ∃ u : Nat, f i % 8 = (u : Int) := ⟨(f i % 8).toNat, by omega⟩
      obtain ⟨v, hv⟩ : ∃ v : Nat, f i / 8 % 8 = (v : Int) := ⟨(f i / 8 % 8).toNat, by omega⟩
      have hu8 : u < 8 := by omega
      have hv8 : v < 8 := by omega
      have HU := hide hu
      have HV := hide hv
      clear hu hv
      have hbnd := hI.bnd u v
      by_cases hj1 : i < len1
      · obtain ⟨k, hk, hk1, hk2⟩ : ∃ k, k = h i ∧ -128 ≤ k ∧ k ≤ 127 := ⟨_, rfl, (hh i).1, (hh i).2⟩
        have hj1' : (i : Int) < (len1 : Int) := by omega
        have hg1 := (HC.out.2.2.2 (by omega)).2
        have hixb := hix1 wr i hj1
        have hcb : wr.cell? ⟨g1, i, none⟩ = some (.int .i8 k) := by
          rw [hk]
          exact (World.cell?_of_block (w := w2) (a := ⟨g1, i, none⟩) ((hI.lp.block g1 (by omega) (by omega)).trans (H9.out.1.block g1 hg1))).trans (HC.out.2.1 i hj1)
        clear hk
        have AI := hide hI
        clear hI
        go_wp2_with fail
        refine (from_n _ u hf0 hf1 HU.out _).mono ?_
        rintro e wx ⟨rfl, hwx⟩
        subst hwx
        go_wp2_with fail
        refine (to_n _ v hf0 hf1 HV.out _).mono ?_
        rintro e wx ⟨rfl, hwx⟩
        subst hwx
        go_wp2_with fail
        refine (node_any _ (by omega) _).mono ?_
        rintro e w4 ⟨rfl, hb4⟩
        go_wp2_with fail
        refine (node_any _ (by omega) _).mono ?_
        rintro e w5 ⟨rfl, hb5⟩
        have hb45 := hb4.trans (hb5.mono hb4.size)
        have hS5 := AI.out.stand.below hb45
        have hc5 := (hb45.cell (World.block_lt_of_cell? _ _ AI.out.cell)).trans AI.out.cell
        have hN5 : Num8 w5 (w2.heap.size + 5) C := World.rowIs.of_block AI.out.num (hb45.block _ (World.rowIs.lt AI.out.num))
        have hL5 := AI.out.lp.below hb45
        clear hb4 hb5 hb45
        go_wp2_with fail
        refine (zzcount_any _ (w2.heap.size + 1) u v k M C _ (by omega) (by omega) hS5 hc5 (by omega) (by omega) (by omega) (by omega)).mono ?_
        rintro e w6 ⟨rfl, M6, hS6, hst6⟩
        have hL6 := hL5.step hst6
        have hN6 : Num8 w6 (w2.heap.size + 5) C := World.rowIs.of_block hN5 (hL5.same hst6)
        have hc6 : w6.cell? ⟨w2.heap.size + 4, 1, none⟩ = some (.map (some (w2.heap.size + 1))) := hst6.cell hc5 (by omega) (fun x hx => by have := hL5.new x _ hx; omega)
        have hce := hN6.cell hu8 hv8
        have hfz := World.rowIs.frozen hN6 (u * 8 + v)
        have A6 := hide (And.intro hS6 (And.intro hL6 (And.intro hN6 hc6)))
        have hu8' : (u : Int) < 8 := by omega
        have hv8' : (v : Int) < 8 := by omega
        clear hS5 hc5 hN5 hL5 hS6 hst6 hL6 hN6 hc6 hix hcell
        go_wp2_with fail
        go_region
        go_wp2_with fail
        obtain ⟨hS6, hL6, hN6, hc6⟩ := A6.out
        have hN7 := hN6.set (p := u) hv8 k
        have hL7 := (hL6.set (u * 8 + v) (.int .i64 (C u v + k))).drew
        have hS7 := hS6.setCell (a := ⟨w2.heap.size + 5, u * 8 + v, none⟩) (.int .i64 (C u v + k)) (by show w2.heap.size + 5 ≠ _; omega) (fun x hx => by have := hL6.new x _ hx; simp at this)
        have hc7 : (w6.setCell ⟨w2.heap.size + 5, u * 8 + v, none⟩ (.int .i64 (C u v + k))).cell? ⟨w2.heap.size + 4, 1, none⟩ = some (.map (some (w2.heap.size + 1))) := (World.cell?_of_block (w := w6) (a := ⟨w2.heap.size + 4, 1, none⟩) (Below.heap_setCell w6 _ _ _ (by show w2.heap.size + 4 ≠ w2.heap.size + 5; omega))).trans hc6
        have hI7 : CInv w9 (w6.setCell ⟨w2.heap.size + 5, u * 8 + v, none⟩ (.int .i64 (C u v + k))).drew (w2.heap.size + 4) (w2.heap.size + 1) (w2.heap.size + 5) M6 (addC C u v k) (i + 1) := by
          refine ⟨⟨hS7.graph, hS7.sep, hS7.live, hS7.dead⟩, hc7, hN7, hL7, fun x y hxy => ?_, fun x y => ?_⟩
          · unfold addC at hxy
            split at hxy
            · omega
            · exact AI.out.dom x y hxy
          · have := AI.out.bnd x y
            unfold addC
            split
            · omega
            · omega
        refine (agrees_any _ (w2.heap.size + 1) _ M6 (addC C u v k) _ hI7.stand hI7.cell hI7.num hI7.dom).mono ?_
        rintro e w8 ⟨rfl, hb8⟩
        have hI8 : CInv w9 w8 (w2.heap.size + 4) (w2.heap.size + 1) (w2.heap.size + 5) M6 (addC C u v k) (i + 1) := ⟨hI7.stand.below hb8, (hb8.cell (World.block_lt_of_cell? _ _ hI7.cell)).trans hI7.cell, World.rowIs.of_block hI7.num (hb8.block _ (World.rowIs.lt hI7.num)), hI7.lp.below hb8, hI7.dom, hI7.bnd⟩
        have A8 := hide hI8
        clear hN7 hL7 hS7 hc7 hI7 hb8 hI8 hS6 hL6 hN6 hc6 A6 AI hce hfz
        go_wp2_with fail
        go_roundg (len0 - (i + 1))
        case measure => omega
        case rel => exact ⟨i + 1, _, _, by omega, rfl, by go_num, A8.out⟩
      · have hj1' : ¬ (i : Int) < (len1 : Int) := by omega
        have AI := hide hI
        clear hI
        go_wp2_with fail
        refine (from_n _ u hf0 hf1 HU.out _).mono ?_
        rintro e wx ⟨rfl, hwx⟩
        subst hwx
        go_wp2_with fail
        refine (to_n _ v hf0 hf1 HV.out _).mono ?_
        rintro e wx ⟨rfl, hwx⟩
        subst hwx
        go_wp2_with fail
        refine (node_any _ (by omega) _).mono ?_
        rintro e w4 ⟨rfl, hb4⟩
        go_wp2_with fail
        refine (node_any _ (by omega) _).mono ?_
        rintro e w5 ⟨rfl, hb5⟩
        have hb45 := hb4.trans (hb5.mono hb4.size)
        have hS5 := AI.out.stand.below hb45
        have hc5 := (hb45.cell (World.block_lt_of_cell? _ _ AI.out.cell)).trans AI.out.cell
        have hN5 : Num8 w5 (w2.heap.size + 5) C := World.rowIs.of_block AI.out.num (hb45.block _ (World.rowIs.lt AI.out.num))
        have hL5 := AI.out.lp.below hb45
        clear hb4 hb5 hb45
        go_wp2_with fail
        refine (zzcount_any _ (w2.heap.size + 1) u v 1 M C _ (by omega) (by omega) hS5 hc5 (by omega) (by omega) (by omega) (by omega)).mono ?_
        rintro e w6 ⟨rfl, M6, hS6, hst6⟩
        have hL6 := hL5.step hst6
        have hN6 : Num8 w6 (w2.heap.size + 5) C := World.rowIs.of_block hN5 (hL5.same hst6)
        have hc6 : w6.cell? ⟨w2.heap.size + 4, 1, none⟩ = some (.map (some (w2.heap.size + 1))) := hst6.cell hc5 (by omega) (fun x hx => by have := hL5.new x _ hx; omega)
        have hce := hN6.cell hu8 hv8
        have hfz := World.rowIs.frozen hN6 (u * 8 + v)
        have A6 := hide (And.intro hS6 (And.intro hL6 (And.intro hN6 hc6)))
        have hu8' : (u : Int) < 8 := by omega
        have hv8' : (v : Int) < 8 := by omega
        clear hS5 hc5 hN5 hL5 hS6 hst6 hL6 hN6 hc6 hix hcell
        go_wp2_with fail
        go_region
        go_wp2_with fail
        obtain ⟨hS6, hL6, hN6, hc6⟩ := A6.out
        have hN7 := hN6.set (p := u) hv8 1
        have hL7 := (hL6.set (u * 8 + v) (.int .i64 (C u v + 1))).drew
        have hS7 := hS6.setCell (a := ⟨w2.heap.size + 5, u * 8 + v, none⟩) (.int .i64 (C u v + 1)) (by show w2.heap.size + 5 ≠ _; omega) (fun x hx => by have := hL6.new x _ hx; simp at this)
        have hc7 : (w6.setCell ⟨w2.heap.size + 5, u * 8 + v, none⟩ (.int .i64 (C u v + 1))).cell? ⟨w2.heap.size + 4, 1, none⟩ = some (.map (some (w2.heap.size + 1))) := (World.cell?_of_block (w := w6) (a := ⟨w2.heap.size + 4, 1, none⟩) (Below.heap_setCell w6 _ _ _ (by show w2.heap.size + 4 ≠ w2.heap.size + 5; omega))).trans hc6
        have hI7 : CInv w9 (w6.setCell ⟨w2.heap.size + 5, u * 8 + v, none⟩ (.int .i64 (C u v + 1))).drew (w2.heap.size + 4) (w2.heap.size + 1) (w2.heap.size + 5) M6 (addC C u v 1) (i + 1) := by
          refine ⟨⟨hS7.graph, hS7.sep, hS7.live, hS7.dead⟩, hc7, hN7, hL7, fun x y hxy => ?_, fun x y => ?_⟩
          · unfold addC at hxy
            split at hxy
            · omega
            · exact AI.out.dom x y hxy
          · have := AI.out.bnd x y
            unfold addC
            split
            · omega
            · omega
        refine (agrees_any _ (w2.heap.size + 1) _ M6 (addC C u v 1) _ hI7.stand hI7.cell hI7.num hI7.dom).mono ?_
        rintro e w8 ⟨rfl, hb8⟩
        have hI8 : CInv w9 w8 (w2.heap.size + 4) (w2.heap.size + 1) (w2.heap.size + 5) M6 (addC C u v 1) (i + 1) := ⟨hI7.stand.below hb8, (hb8.cell (World.block_lt_of_cell? _ _ hI7.cell)).trans hI7.cell, World.rowIs.of_block hI7.num (hb8.block _ (World.rowIs.lt hI7.num)), hI7.lp.below hb8, hI7.dom, hI7.bnd⟩
        have A8 := hide hI8
        clear hN7 hL7 hS7 hc7 hI7 hb8 hI8 hS6 hL6 hN6 hc6 A6 AI hce hfz
        go_wp2_with fail
        go_roundg (len0 - (i + 1))
        case measure => omega
        case rel => exact ⟨i + 1, _, _, by omega, rfl, by go_num, A8.out⟩
    · have AI := hide hI
      clear hI
      go_wp2_with fail
      go_ret
      refine ⟨rfl, HB.out.trans ?_⟩
      have hB := HB.out.size
      have hl := AI.out.lp
      exact ⟨hl.os.trans H9.out.1.os, hl.tape.trans H9.out.1.tape, hl.output.trans H9.out.1.output, Nat.le_trans H9.out.1.size hl.size, fun b hb => (hl.block b (by omega) (by omega)).trans (H9.out.1.block b (by omega))⟩

end Go.Proofs.Qxb6003670a.st
