/-
  THE WALK OF FnObserveClosingsFollowCycles.
-/
import Derived.Test.Qxb6003670aOf8
import Derived.Test.Qxb6003670aOf10
namespace Go.Proofs.Qxb6003670a.st
open Go.RowKit
open Go.Proofs.Qxb6003670a.sm Go.Proofs.Qxb6003670a.mp Go.Proofs.Qxb6003670a.pl Go.Proofs.Qxb6003670a.rc
attribute [local go_sem ↓] Go.wp_at_zero Go.wp_at_succ

def ZB8 : Array Value := Array.replicate 8 (.bool false)
theorem zero48 (w : World) : (zeroValue 48).run Try.prog w = .ok (.agg ZB8) w := by kernel_rfl
/-- [8]bool. -/
def B1 (w : World) (b : Nat) (nw : Nat → Bool) : Prop := w.rowIs b 48 8 (fun i => .bool (nw i))
theorem zb8 (w : World) : B1 (w.alloc (.cells ZB8 48)) w.heap.size (fun _ => false) :=
  World.rowIs_alloc w ZB8 48 (fun _ => .bool false) (fun i hi => by
    unfold ZB8 at hi ⊢
    simp at hi
    simp [hi])
/-- The waiters with a new wait, of the first n edges; is there one? -/
def nwB (U : Nat → Nat → Bool) (f : Nat → Int) (n u : Nat) : Bool := (egs f n).any (fun e => e.1 == u && !U e.1 e.2)
def neB (U : Nat → Nat → Bool) (f : Nat → Int) (n : Nat) : Bool := (egs f n).any (fun e => !U e.1 e.2)
theorem nwB_new {U : Nat → Nat → Bool} {f : Nat → Int} {n x y : Nat} (h : eg f n = (x, y)) (hU : U x y = false) (u : Nat) : (if u = x then true else nwB U f n u) = nwB U f (n + 1) u := by
  unfold nwB
  rw [egs_succ, List.any_append, h]
  by_cases e : u = x
  · subst e; simp [hU]
  · have e' : ¬ x = u := fun h => e h.symm
    simp [e, e']
theorem nwB_old {U : Nat → Nat → Bool} {f : Nat → Int} {n x y : Nat} (h : eg f n = (x, y)) (hU : U x y = true) (u : Nat) : nwB U f n u = nwB U f (n + 1) u := by
  unfold nwB
  rw [egs_succ, List.any_append, h]
  simp [hU]
theorem neB_new {U : Nat → Nat → Bool} {f : Nat → Int} {n x y : Nat} (h : eg f n = (x, y)) (hU : U x y = false) : true = neB U f (n + 1) := by
  unfold neB
  rw [egs_succ, List.any_append, h]
  simp [hU]
theorem neB_old {U : Nat → Nat → Bool} {f : Nat → Int} {n x y : Nat} (h : eg f n = (x, y)) (hU : U x y = true) : neB U f n = neB U f (n + 1) := by
  unfold neB
  rw [egs_succ, List.any_append, h]
  simp [hU]

theorem cnt_hit {r : Nat → Bool} {n : Nat} (h : r n = true) : cnt r (n + 1) = cnt r n + 1 := by
  show cnt r n + (if r n = true then 1 else 0) = _
  rw [if_pos h]
theorem cnt_miss {r : Nat → Bool} {n : Nat} (h : r n = false) : cnt r (n + 1) = cnt r n := by
  show cnt r n + (if r n = true then 1 else 0) = _
  simp [h]
/-- What the second loop keeps. -/
structure NL (w5 wq : World) (U : Nat → Nat → Bool) (nw : Nat → Bool) : Prop where
  bb : B8 wq w5.heap.size U
  nb : B1 wq (w5.heap.size + 1) nw
  below : Below w5.heap.size w5 wq
theorem NL.set {w5 wq : World} {U : Nat → Nat → Bool} {nw : Nat → Bool} (h : NL w5 wq U nw) (u : Nat) : NL w5 (wq.setCell ⟨w5.heap.size + 1, u, none⟩ (.bool true)) U (fun k => if k = u then true else nw k) := by
  refine ⟨h.bb.kept (Below.heap_setCell wq ⟨w5.heap.size + 1, u, none⟩ _ _ (by show w5.heap.size ≠ w5.heap.size + 1; omega)), (World.rowIs.set h.nb u (.bool true)).congr (fun i hi => ?_), h.below.setCell (by show w5.heap.size ≤ w5.heap.size + 1; omega) _⟩
  by_cases e : i = u
  · simp [e]
  · simp [e]
theorem NL.start (w5 : World) (U : Nat → Nat → Bool) (f : Nat → Int) : NL w5 ((w5.alloc (.cells (Bl8 U) 49)).alloc (.cells ZB8 48)) U (nwB U f 0) := by
  refine ⟨B8.of_block ?_, ?_, ((Below.refl _ _).alloc (Nat.le_refl _) _).alloc (by simp) _⟩
  · rw [heap_alloc_old _ _ (by simp)]
    exact heap_alloc_last w5 _
  · have := zb8 (w5.alloc (.cells (Bl8 U) 49))
    rw [show (w5.alloc (.cells (Bl8 U) 49)).heap.size = w5.heap.size + 1 by simp] at this
    exact World.rowIs.congr this (fun i hi => rfl)
theorem NL.congr {w5 wq : World} {U : Nat → Nat → Bool} {nw nw' : Nat → Bool} (h : NL w5 wq U nw) (e : ∀ u, nw u = nw' u) : NL w5 wq U nw' := by
  have : nw = nw' := funext e
  rw [← this]
  exact h
theorem NL.drew {w5 wq : World} {U : Nat → Nat → Bool} {nw : Nat → Bool} (h : NL w5 wq U nw) : NL w5 wq.drew U nw := ⟨h.bb, h.nb, h.below.drew⟩

/-- d stays within the law's bounds. -/
theorem d_few {C : Nat → Nat → Int} {TT : Nat → Nat × Nat → Option Int} {cur : Nat → Nat → Nat → Bool} {s len d : Nat} {f : Nat → Int} (h : PLn C TT cur) (hCI : CI (newC C (TT s) (flat (psn f len 8))) (stf (TT s) C (flat (psn f len 8))) [] d) :
    d ≤ cnt (nwB (puni cur 4 0 0) f len) 8 ∧ (neB (puni cur 4 0 0) f len = false → d = 0) := by
  have hnew : ∀ e ∈ stf (TT s) C (flat (psn f len 8)), e ∈ egs f len ∧ (puni cur 4 0 0) e.1 e.2 = false := fun e he => by
    obtain ⟨h1, h2⟩ := started_new h he
    have h3 := mem_flat_psn.1 h1
    refine ⟨h3, ?_⟩
    cases hu : puni cur 4 0 0 e.1 e.2 with
    | false => rfl
    | true => exact absurd ⟨(egs_lt h3).1, (egs_lt h3).2, hu⟩ h2
  refine ⟨Nat.le_trans hCI.few (cnt_mono (fun u hu => ?_) 8), fun hne => ?_⟩
  · obtain ⟨e, he, hu⟩ := List.any_eq_true.1 hu
    obtain ⟨h1, h2⟩ := hnew e he
    exact List.any_eq_true.2 ⟨e, h1, by rw [h2, hu]; rfl⟩
  · have hL : stf (TT s) C (flat (psn f len 8)) = [] := by
      apply List.eq_nil_iff_forall_not_mem.2
      intro e he
      obtain ⟨h1, h2⟩ := hnew e he
      have : neB (puni cur 4 0 0) f len = true := List.any_eq_true.2 ⟨e, h1, by rw [h2]; rfl⟩
      rw [hne] at this
      cases this
    have := hCI.few
    rw [hL] at this
    simp [cnt] at this
    exact this

set_option maxRecDepth 40000 in
set_option maxHeartbeats 16000000 in
theorem claw6 (a0 : Option Addr) (len0 cap0 : Nat) (f0 : Nat → Int) (a1 : Option Addr) (len1 cap1 : Nat) (A : Nat → Option Addr) (L K : Nat → Nat) (f : Nat → Nat → Int) (w : World)
    (hn0 : a0 = none → len0 = 0 ∧ cap0 = 0) (hs0 : Src 22 .u8 w a0 len0 cap0 f0) (hf0 : ∀ i, 0 ≤ f0 i ∧ f0 i < 256)
    (hn1 : a1 = none → len1 = 0 ∧ cap1 = 0) (hs1 : SrcR w a1 len1 cap1 A L K) (hnr : ∀ i, i < len1 → A i = none → L i = 0 ∧ K i = 0) (hr1 : ∀ i, i < len1 → Src 22 .u8 w (A i) (L i) (K i) (f i)) (hf1 : ∀ i j, 0 ≤ f i j ∧ f i j < 256) :
    Calls Try.prog 6 #[.slice a0 len0 cap0, .slice a1 len1 cap1] w fun e w' => e = .returned (.bool true) ∧ Below w.heap.size w w' := by
  have H0 := hide (And.intro hn0 (And.intro hs0 hf0))
  have H1 := hide (And.intro hn1 (And.intro hs1 (And.intro hnr (And.intro hr1 hf1))))
  clear hn0 hs0 hf0 hn1 hs1 hnr hr1 hf1
  have hz50 := zero50
  go_enter Try.func6, Try.ntmps6
  go_wp2_with fail
  refine (bytes27_any _ _ _ _ _ _ A L K _ H1.out.2.1).mono ?_
  rintro e w' ⟨b, rfl, rfl⟩
  cases b
  · go_wp2
    go_ret
    exact ⟨rfl, Below.refl _ _⟩
  go_wp2_with fail
  refine (fit_any _ _ _ _ _ _ A L K _ H1.out.2.1).mono ?_
  rintro e w1 ⟨rfl, b, rfl, hfit⟩
  cases b
  · go_wp2
    go_ret
    exact ⟨rfl, Below.refl _ _⟩
  obtain ⟨hl0, hl1, hL⟩ := hfit rfl
  have HL := hide hL
  clear hfit hL
  go_wp2_with fail
  refine (clone8_any _ _ _ f0 _ (by omega) H0.out.1 H0.out.2.1).mono ?_
  rintro e w2 ⟨A0, c0, rfl, hb1, hA0⟩
  have HA := hide (And.intro hb1 hA0)
  clear hb1 hA0
  go_wp2_with fail
  refine (clonesnaps_any _ _ _ A L K f _ hl1 H1.out.1 (H1.out.2.1.below HA.out.1) HL.out H1.out.2.2.1 (fun i hi => (H1.out.2.2.2.1 i hi).below HA.out.1)).mono ?_
  rintro e w3 ⟨B, c1, rfl, hb2, A', K', hsr, hrows⟩
  obtain ⟨g0, hix0, hg0, hc0⟩ := HA.out.2.below hb2
  obtain ⟨gb, goff, hix1, hc1⟩ := hsr
  have hb3 : Below w1.heap.size w1 w3 := HA.out.1.trans (hb2.mono HA.out.1.size)
  have HB := hide (And.intro hb3 (And.intro hc0 (And.intro hc1 (And.intro hrows (And.intro H0.out.2.2 H1.out.2.2.2.2)))))
  clear hb2 hb3 hc0 hc1 hg0 hrows HA H0 H1
  go_wp2_with fail
  refine (zztruth_any _).mono ?_
  rintro e w4 ⟨rfl, hw4⟩
  have hz4 := truth_size w3
  have hI := start_li w3
  rw [← hw4] at hI hz4
  have hb4 : Below w3.heap.size w3 (w4.alloc (.cells ZB256 50)) := by rw [hw4]; exact (truth_below w3).alloc (by rw [truth_size]; omega) _
  have H4 := hide (And.intro hI hb4)
  clear hw4 hI hb4
  go_wp2_with fail
  obtain ⟨hI, hb4⟩ := H4.out
  obtain ⟨w9, hw9⟩ : ∃ w9, w9 = w4.alloc (.cells ZB256 50) := ⟨_, rfl⟩
  obtain ⟨Z, hZ⟩ : ∃ Z, Z = w3.heap.size := ⟨_, rfl⟩
  rw [← hw9, ← hZ] at hI hb4
  rw [← hw9]
  rw [← hZ]
  have H9 := hide (And.intro hb4 (And.intro hI hZ))
  clear hw9 hz4 hI hb4 hZ hz50 H4
  go_loopg [7, 8] len0 (fun n s7 s8 wr => ∃ (i : Nat) (M W : Nat → Option Nat) (C : Nat → Nat → Int) (TT : Nat → Nat × Nat → Option Int) (cl : Int) (cur : Nat → Nat → Nat → Bool), i ≤ len0 ∧ n = len0 - i ∧ s7 = .int .i64 cl ∧ s8 = .int .i64 (i : Int) ∧ LI w9 wr (Z + 4) Z (Z + 1) (Z + 2) (Z + 3) (Z + 5) (fun i => Z ≤ i) M W C TT cl cur ∧ PLn C TT cur ∧ 0 ≤ cl ∧ cl ≤ 8 * i)
  case atStart => exact ⟨0, _, _, _, _, _, _, by omega, rfl, rfl, rfl, H9.out.2.1, start_pln, by omega, by omega⟩
  case round =>
    obtain ⟨i, M, W, C, TT, cl, cur, hi, hm, rfl, rfl, hI, hPL, hcl0, hcl1⟩ := hrel
    by_cases hlt : i < len0
    · have hlt' : (i : Int) < (len0 : Int) := by omega
      have hx := hix0 wr i hlt
      have hc := hI.old H9.out.1 H9.out.2.2 (HB.out.2.1 i hlt)
      obtain ⟨hf0, hf1⟩ := HB.out.2.2.2.2.1 i
      obtain ⟨s, hs⟩ : ∃ s : Nat, f0 i % 4 = (s : Int) := ⟨(f0 i % 4).toNat, by omega⟩
      have hbit : bits .and .u8 (f0 i) 3 = (s : Int) := by rw [bit_3 _ hf0 hf1]; exact hs
      have hs4 : s < 4 := by omega
      have hs4' : (s : Int) < 4 := by omega
      obtain ⟨Ae, Le, Ke, fe, hcase, hsrc, hLe, hfe⟩ : ∃ (Ae : Option Addr) (Le Ke : Nat) (fe : Nat → Int), ((i < len1 ∧ wr.cell? ⟨gb, goff + i, none⟩ = some (.slice Ae Le Ke)) ∨ (¬ i < len1 ∧ Ae = none ∧ Le = 0 ∧ Ke = 0)) ∧
          (∀ (wx : World) (M W : Nat → Option Nat) (C : Nat → Nat → Int) (TT : Nat → Nat × Nat → Option Int) (cl : Int) (cur : Nat → Nat → Nat → Bool), LI w9 wx (Z + 4) Z (Z + 1) (Z + 2) (Z + 3) (Z + 5) (fun i => Z ≤ i) M W C TT cl cur → Src 22 .u8 wx Ae Le Ke fe) ∧ Le ≤ 64 ∧ ∀ j, 0 ≤ fe j ∧ fe j < 256 := by
        by_cases h1 : i < len1
        · refine ⟨A' i, L i, K' i, f i, Or.inl ⟨h1, hI.old H9.out.1 H9.out.2.2 (HB.out.2.2.1 i h1)⟩, fun wx M W C TT cl cur hIx => ?_, HL.out i h1, HB.out.2.2.2.2.2 i⟩
          obtain ⟨sb, so, q1, q2⟩ := HB.out.2.2.2.1 i h1
          exact ⟨sb, so, q1, fun j hj => hIx.old H9.out.1 H9.out.2.2 (q2 j hj)⟩
        · exact ⟨none, 0, 0, fun _ => 0, Or.inr ⟨h1, rfl, rfl, rfl⟩, fun _ _ _ _ _ _ _ _ => ⟨0, 0, fun _ j hj => by omega, fun j hj => by omega⟩, by omega, fun _ => ⟨Int.le_refl _, by show (0 : Int) < 256; decide⟩⟩
      have HI := hide (And.intro hI (And.intro hPL (And.intro hsrc hfe)))
      have HS := hide hs
      clear hI hPL hsrc hfe hs
      rcases hcase with ⟨h1, hce⟩ | ⟨h1, hAe, hLe0, hKe⟩
      case' inl =>
        have h1' : (i : Int) < (len1 : Int) := by omega
        have hx1 := hix1 wr i h1
        go_wp2_with fail
      case' inr =>
        have hE : Value.slice none 0 0 = .slice Ae Le Ke := by rw [hAe, hLe0, hKe]
        have HE := hide hE
        have h1' : ¬ (i : Int) < (len1 : Int) := by omega
        clear hAe hLe0 hKe hE
        go_wp2_with fail
        rw [HE.out]
      all_goals (
        refine (union_any (Z + 5) cur _ HI.out.1.tab).mono ?_
        rintro e w5 ⟨rfl, hb5⟩
        have hz49 := zero49
        have hz48 := zero48
        obtain ⟨T0, hT0⟩ : ∃ T0, T0 = Bl8 (puni cur 4 0 0) := ⟨_, rfl⟩
        have hTi : (Try.prog.info? 49).map (·.size) = some T0.size := by rw [hT0, Bl8_size]; exact info49
        have hTs : ZB64.size = T0.size := by rw [hT0, Bl8_size]; rfl
        have hT1 : T0.all (·.oneCell') = true := by rw [hT0]; exact Bl8_one _
        have HT := hide (And.intro hT0 (And.intro hTi (And.intro hTs (And.intro hT1 (HI.out.1.below hb5)))))
        rw [← hT0]
        clear hT0 hTi hTs hT1 hb5
        go_wp2_with (refine wpList_store_row rfl 49 _ _ rfl w5.heap.size T0 rfl rfl 49 ZB64 (heap_alloc_last w5 _) HT.out.2.1 HT.out.2.2.1 HT.out.2.2.2.1 ?_)
        rw [World.setRow_alloc_new]
        clear hz49 hz48
        have hNL := NL.start w5 (puni cur 4 0 0) fe
        rw [← HT.out.1] at hNL
        obtain ⟨w6, hw6⟩ : ∃ w6, w6 = (w5.alloc (.cells T0 49)).alloc (.cells ZB8 48) := ⟨_, rfl⟩
        rw [← hw6] at hNL
        rw [← hw6]
        have H6 := hide hNL
        obtain ⟨N5, hN5⟩ : ∃ N5, N5 = w5.heap.size := ⟨_, rfl⟩
        have HN := hide hN5
        rw [← hN5]
        clear hw6 hNL hN5
        go_loopg [13, 58] Le (fun n s13 s58 wq => ∃ j : Nat, j ≤ Le ∧ n = Le - j ∧ s13 = .bool (neB (puni cur 4 0 0) fe j) ∧ s58 = .int .i64 (j : Int) ∧ NL w5 wq (puni cur 4 0 0) (nwB (puni cur 4 0 0) fe j))
        case atStart => exact ⟨0, by omega, rfl, rfl, rfl, H6.out⟩
        case round =>
          obtain ⟨j, hj, hmj, rfl, rfl, hN⟩ := hrel
          by_cases hjl : j < Le
          · have hjl' : (j : Int) < (Le : Int) := by omega
            obtain ⟨sb, so, q1, q2⟩ := HI.out.2.2.1 _ _ _ _ _ _ _ (HT.out.2.2.2.2.below hN.below)
            have hxj := q1 wr j hjl
            have hcj := q2 j hjl
            obtain ⟨hg0, hg1⟩ := HI.out.2.2.2 j
            obtain ⟨u, hu⟩ : ∃ u : Nat, fe j % 8 = (u : Int) := ⟨(fe j % 8).toNat, by omega⟩
            obtain ⟨v, hv⟩ : ∃ v : Nat, fe j / 8 % 8 = (v : Int) := ⟨(fe j / 8 % 8).toNat, by omega⟩
            have hu8 : u < 8 := by omega
            have hv8 : v < 8 := by omega
            have hu8' : (u : Int) < 8 := by omega
            have hv8' : (v : Int) < 8 := by omega
            have he : eg fe j = (u, v) := by unfold eg; rw [hu, hv]; rfl
            have hcb := hN.bb.cell hu8 hv8
            have hcn : wr.drew.cell? ⟨w5.heap.size + 1, u, none⟩ = some (.bool (nwB (puni cur 4 0 0) fe j u)) := World.rowIs.cell hN.nb hu8
            have hfn : wr.drew.frozen? ⟨w5.heap.size + 1, u, none⟩ = false := World.rowIs.frozen hN.nb u
            rw [← HN.out] at hcb hcn hfn
            have HU := hide (And.intro hu hv)
            have HNj := hide (And.intro hN he)
            clear hN he hu hv q1 q2
            cases hU : puni cur 4 0 0 u v with
            | true =>
              rw [hU] at hcb
              have HUU := hide hU
              clear hU
              go_wp2_with fail
              obtain ⟨fi, hfi⟩ : ∃ fi, fi = fe j := ⟨_, rfl⟩
              rw [← hfi] at hg0 hg1 HU
              rw [← hfi]
              clear hxj hcj hfi hcn hfn
              go_region_held3 (fun w' => w'.cell? ⟨N5, u * 8 + v, none⟩ = some (.bool true)) (exact hcb)
                (first
                  | (go_at_call 11; refine (from_n _ u hg0 hg1 HU.out.1 _).mono ?_; rintro e w' ⟨rfl, hwx⟩; subst hwx)
                  | (go_at_call 12; refine (to_n _ v hg0 hg1 HU.out.2 _).mono ?_; rintro e w' ⟨rfl, hwx⟩; subst hwx))
              go_wp2_with fail
              go_roundg (Le - (j + 1))
              case measure => omega
              case rel => exact ⟨j + 1, by omega, rfl, by rw [neB_old HNj.out.2 HUU.out], by go_num, (HNj.out.1.drew).congr (fun k => nwB_old HNj.out.2 HUU.out k)⟩
            | false =>
              rw [hU] at hcb
              have HUU := hide hU
              clear hU
              go_wp2_with fail
              obtain ⟨fi, hfi⟩ : ∃ fi, fi = fe j := ⟨_, rfl⟩
              rw [← hfi] at hg0 hg1 HU
              rw [← hfi]
              clear hxj hcj hfi
              go_region_held3 (fun w' => w'.cell? ⟨N5, u * 8 + v, none⟩ = some (.bool false)) (exact hcb)
                (first
                  | (go_at_call 11; refine (from_n _ u hg0 hg1 HU.out.1 _).mono ?_; rintro e w' ⟨rfl, hwx⟩; subst hwx)
                  | (go_at_call 12; refine (to_n _ v hg0 hg1 HU.out.2 _).mono ?_; rintro e w' ⟨rfl, hwx⟩; subst hwx))
              go_wp2_with fail
              refine (from_n _ u hg0 hg1 HU.out.1 _).mono ?_
              rintro e wx ⟨rfl, hwx⟩
              subst hwx
              go_wp2_with fail
              go_roundg (Le - (j + 1))
              case measure => omega
              case rel =>
                refine ⟨j + 1, by omega, rfl, by rw [neB_new HNj.out.2 HUU.out], by go_num, ?_⟩
                rw [HN.out]
                exact ((HNj.out.1.drew).set u).congr (fun k => nwB_new HNj.out.2 HUU.out k)
          · have hjl' : ¬ (j : Int) < (Le : Int) := by omega
            have hje : j = Le := by omega
            rw [hje] at hN
            obtain ⟨ne, hne⟩ : ∃ ne, ne = neB (puni cur 4 0 0) fe j := ⟨_, rfl⟩
            have HNE : Hid (ne = neB (puni cur 4 0 0) fe Le) := by rw [← hje]; exact hne
            rw [← hne]
            obtain ⟨w7, rfl⟩ : ∃ w7, w7 = wr := ⟨_, rfl⟩
            obtain ⟨nw, hnw⟩ : ∃ nw, nw = nwB (puni cur 4 0 0) fe Le := ⟨_, rfl⟩
            rw [← hnw] at hN
            have HW := hide hnw
            have H7 := hide hN
            clear hN hje hne hnw
            go_wp2_with fail
            go_loopg [16, 17] 8 (fun n s16 s17 wq => ∃ x : Nat, x ≤ 8 ∧ n = 8 - x ∧ s16 = .int .i64 ((cnt nw x : Nat) : Int) ∧ s17 = .int .i64 (x : Int) ∧ wq = w7)
            case atStart => exact ⟨0, by omega, rfl, rfl, rfl, rfl⟩
            case round =>
              obtain ⟨x, hx, hmx, rfl, rfl, rfl⟩ := hrel
              have hcl := cnt_le nw x
              by_cases hx8 : x < 8
              · have hx8' : (x : Int) < 8 := by omega
                have hcn : wr.cell? ⟨w5.heap.size + 1, x, none⟩ = some (.bool (nw x)) := World.rowIs.cell H7.out.nb hx8
                rw [← HN.out] at hcn
                cases hnx : nw x with
                | true =>
                  rw [hnx] at hcn
                  have HX := hide (cnt_hit hnx)
                  clear hnx
                  go_wp2_with fail
                  go_roundg (8 - (x + 1))
                  case measure => omega
                  case rel => exact ⟨x + 1, by omega, rfl, by rw [HX.out]; go_num, by go_num, rfl⟩
                | false =>
                  rw [hnx] at hcn
                  have HX := hide (cnt_miss hnx)
                  clear hnx
                  go_wp2_with fail
                  go_roundg (8 - (x + 1))
                  case measure => omega
                  case rel => exact ⟨x + 1, by omega, rfl, by rw [HX.out], by go_num, rfl⟩
              · have hx8' : ¬ (x : Int) < 8 := by omega
                have hxe : x = 8 := by omega
                obtain ⟨wt, hwt⟩ : ∃ wt, wt = cnt nw x := ⟨_, rfl⟩
                have HWT : Hid (wt = cnt (nwB (puni cur 4 0 0) fe Le) 8) := hide (by rw [hwt, hxe, HW.out])
                have hwt8 : wt ≤ 8 := by omega
                rw [← hwt]
                have H8 := hide (HT.out.2.2.2.2.below H7.out.below)
                have hbb8 := H7.out.bb
                rw [← HN.out] at hbb8
                have HBB := hide hbb8
                have HN9 : Hid (N5 < wr.heap.size ∧ ¬ OT (Z + 4) Z (Z + 1) (Z + 3) M W N5 ∧ N5 ≠ Z + 5) := by
                  refine ⟨World.rowIs.lt hbb8, fun hh => ?_, fun e => ?_⟩
                  · have := HT.out.2.2.2.2.ti.lt N5 hh
                    rw [HN.out] at this
                    omega
                  · have := World.rowIs.lt HT.out.2.2.2.2.tab
                    rw [← e, HN.out] at this
                    omega
                clear hxe hwt hbb8 hx hmx hcl
                go_wp2_with fail
                refine (setof_any Ae Le Ke fe _ (by omega) (HI.out.2.2.1 _ _ _ _ _ _ _ H8.out) HI.out.2.2.2).mono ?_
                rintro e w8 ⟨rfl, hb8⟩
                have hI8 := H8.out.below hb8
                have hB8 := HBB.out.kept (hb8.block N5 HN9.out.1)
                obtain ⟨T, hT⟩ : ∃ T, T = Bl8 (setOf fe Le) := ⟨_, rfl⟩
                have hth : w8.there (Z + 5) (s * 64) T.size := by rw [hT, Bl8_size]; exact hI8.tab.there hs4
                have hTi : (Try.prog.info? 49).map (·.size) = some T.size := by rw [hT, Bl8_size]; exact info49
                have hT1 : T.all (·.oneCell') = true := by rw [hT]; exact Bl8_one _
                have hI9 := hI8.table s (setOf fe Le)
                have hB9 := hB8.kept ((setCells_os (Z + 5) (Bl8 (setOf fe Le)).toList (s * 64) w8).2.2.2.2 N5 HN9.out.2.2)
                rw [← hT] at hI9 hB9
                have HTT := hide (And.intro hth (And.intro hTi (And.intro hT1 (And.intro hI9 hB9))))
                rw [← hT]
                clear hth hTi hT1 hT hI8 hb8 hI9 hB8 hB9
                go_wp2_with (refine wpList_store_mid rfl 49 _ _ rfl (Z + 5) (s * 64) T rfl rfl HTT.out.1 HTT.out.2.1 HTT.out.2.2.1 ?_)
                obtain ⟨wa, hwa⟩ : ∃ wa, wa = w8.setCells (Z + 5) (s * 64) T.toList := ⟨_, rfl⟩
                have HA0 : Hid (LI w9 wa (Z + 4) Z (Z + 1) (Z + 2) (Z + 3) (Z + 5) (fun i => Z ≤ i) M W C TT cl (setSite cur s (setOf fe Le)) ∧ B8 wa N5 (puni cur 4 0 0)) := by rw [hwa]; exact HTT.out.2.2.2
                rw [← hwa]
                clear hwa HTT HBB
                refine (union_any (Z + 5) (setSite cur s (setOf fe Le)) _ HA0.out.1.tab).mono ?_
                rintro e wb ⟨rfl, hbb⟩
                have hz49 := zero49
                obtain ⟨T1, hT1⟩ : ∃ T1, T1 = Bl8 (puni (setSite cur s (setOf fe Le)) 4 0 0) := ⟨_, rfl⟩
                have hTi : (Try.prog.info? 49).map (·.size) = some T1.size := by rw [hT1, Bl8_size]; exact info49
                have hTs : ZB64.size = T1.size := by rw [hT1, Bl8_size]; rfl
                have hTo : T1.all (·.oneCell') = true := by rw [hT1]; exact Bl8_one _
                have HTb := hide (And.intro hT1 (And.intro hTi (And.intro hTs (And.intro hTo (And.intro (HA0.out.1.below hbb) (HA0.out.2.kept (hbb.block N5 (World.rowIs.lt HA0.out.2))))))))
                rw [← hT1]
                clear hT1 hTi hTs hTo hbb
                go_wp2_with (refine wpList_store_row rfl 49 _ _ rfl wb.heap.size T1 rfl rfl 49 ZB64 (heap_alloc_last wb _) HTb.out.2.1 HTb.out.2.2.1 HTb.out.2.2.2.1 ?_)
                clear hz49
                rw [World.setRow_alloc_new]
                have hbc : Below wb.heap.size wb (wb.alloc (.cells T1 49)) := (Below.refl _ _).alloc (Nat.le_refl _) _
                have hIc := HTb.out.2.2.2.2.1.below hbc
                have hBc := HTb.out.2.2.2.2.2.kept (hbc.block N5 (World.rowIs.lt HTb.out.2.2.2.2.2))
                have hDc : B8 (wb.alloc (.cells T1 49)) wb.heap.size (puni (setSite cur s (setOf fe Le)) 4 0 0) := by rw [HTb.out.1]; exact B8.of_block (heap_alloc_last wb _)
                have hnOT : ¬ OT (Z + 4) Z (Z + 1) (Z + 3) M W wb.heap.size := fun hh => by have := HTb.out.2.2.2.2.1.ti.lt _ hh; omega
                obtain ⟨wc, hwc⟩ : ∃ wc, wc = wb.alloc (.cells T1 49) := ⟨_, rfl⟩
                obtain ⟨Nb, hNb⟩ : ∃ Nb, Nb = wb.heap.size := ⟨_, rfl⟩
                rw [← hwc] at hIc hBc hDc
                rw [← hNb] at hDc hnOT
                rw [← hwc, ← hNb]
                have HC := hide (And.intro hIc (And.intro hBc (And.intro hDc (And.intro hnOT HTb.out.1))))
                clear hwc hNb hbc hIc hBc hDc hnOT HTb HA0
                refine (site_any s (by omega) _).mono ?_
                rintro e wd ⟨rfl, hbd⟩
                have HD := hide (And.intro (HC.out.1.below hbd) (And.intro (HC.out.2.1.kept (hbd.block N5 (World.rowIs.lt HC.out.2.1))) (HC.out.2.2.1.kept (hbd.block Nb (World.rowIs.lt HC.out.2.2.1)))))
                clear hbd
                go_wp2_with fail
                refine (snapof_walk Ae Le Ke fe _ (by omega) (HI.out.2.2.1 _ _ _ _ _ _ _ HD.out.1) HI.out.2.2.2).mono ?_
                rintro e we ⟨Q, v, rfl, hbe, hSR, hQ⟩
                obtain ⟨Av, cv, rfl, _, _, _⟩ := own_form hSR.own
                have hIe := HD.out.1.below hbe
                have hBe := HD.out.2.1.kept (hbe.block N5 (World.rowIs.lt HD.out.2.1))
                have hDe := HD.out.2.2.kept (hbe.block Nb (World.rowIs.lt HD.out.2.2))
                have hsn := hSR.snap
                rw [hQ] at hsn
                have hQl : Q.length = (psn fe Le 8).length := by rw [← hQ, List.length_map]
                have hps := psn_len fe Le 8
                have hOP : OPre we (Z + 4) Z (Z + 1) (Z + 2) (Z + 3) s cv M W C TT cl (i : Int) Av (psn fe Le 8) := by
                  refine ⟨hIe.ti, hsn, fun k hk => ?_, psn_sorted _ _ _, ?_, fun u v => ?_, by omega⟩
                  · obtain ⟨p1, p2⟩ := mem_psn (List.getElem_mem hk)
                    refine ⟨p1, ?_, fun j hj => ?_⟩
                    · rw [p2]; have := wsn_len fe Le (psn fe Le 8)[k].1; omega
                    · have hm : (psn fe Le 8)[k].2[j] ∈ wsn fe Le (psn fe Le 8)[k].1 := by rw [← p2]; exact List.getElem_mem hj
                      exact (egs_lt (mem_wsn.1 hm)).2
                  · have := flat_psn_len fe Le 8; omega
                  · have := HI.out.2.1.bnd u v; omega
                have HE := hide (And.intro hIe (And.intro hOP (And.intro hQl (And.intro hBe hDe))))
                clear hbe hSR hQ hIe hsn hQl hOP hBe hDe
                have hQ8 : Q.length ≤ 1000 := by rw [HE.out.2.2.1]; omega
                go_wp2_with fail
                refine (zzobserve_any (Z + 4) Z (Z + 1) (Z + 2) (Z + 3) s cv M W C TT cl (i : Int) Av (psn fe Le 8) _ HE.out.2.1 hs4 Q.length HE.out.2.2.1 hQ8).mono ?_
                rintro e wf ⟨rfl, M', W', TT', d, hti, hfr, hT1, hT2, hCI⟩
                have hIf := HE.out.1.observe hti hfr
                have hPA : PLn (newC C (TT s) (flat (psn fe Le 8))) TT' (setSite cur s (setOf fe Le)) := HI.out.2.1.step hs4 (fun e => mem_flat_psn) (fun e he => egs_lt he) hT1 hT2 (fun x y => rfl)
                have hd8 : d ≤ 8 := Nat.le_trans hCI.few (cnt_le _ 8)
                have hfew := d_few HI.out.2.1 hCI
                rw [← HWT.out, ← HNE.out] at hfew
                have hBf := HE.out.2.2.2.1.kept (hfr.block N5 (World.rowIs.lt HE.out.2.2.2.1) HN9.out.2.1)
                have hDf := HE.out.2.2.2.2.kept (hfr.block Nb (World.rowIs.lt HE.out.2.2.2.2) HC.out.2.2.2.1)
                have hF3 : d = 0 → Cyc (WA (puni (setSite cur s (setOf fe Le)) 4 0 0)) → Cyc (WA (puni cur 4 0 0)) := fun hd hc => (cyc_iff (fun x y => HI.out.2.1.uni)).2 (no_new_cycle HI.out.2.1 hs4 hCI hd ((cyc_iff (fun x y => hPA.uni)).1 hc))
                have hF4 : 0 < d → Cyc (WA (puni (setSite cur s (setOf fe Le)) 4 0 0)) := fun hd => (cyc_iff (fun x y => hPA.uni)).2 (closes_cycle hCI hd)
                have hdw : (d : Int) ≤ (wt : Int) := by have := hfew.1; omega
                have hdl : cl + (d : Int) - cl = (d : Int) := by omega
                have hdl0 : ¬ (d : Int) < 0 := by omega
                have HF := hide (And.intro hIf (And.intro hfew (And.intro hF3 (And.intro hF4 (And.intro hBf hDf)))))
                have HPA := hide hPA
                clear hti hfr hT1 hT2 hCI hIf hPA hfew hF3 hF4 hBf hDf
                go_wp2_with fail
                refine (closings_read (Z + 4) Z (Z + 1) (Z + 2) (Z + 3) _ _ HF.out.1.ti.tb_).mono ?_
                rintro e wg ⟨rfl, hwg⟩
                subst hwg
                obtain ⟨T0', hT0'⟩ : ∃ T0', T0' = T0 := ⟨_, rfl⟩
                have hg1 : wg.heap[Nb]? = some (.cells T1 49 (0, 0)) := by rw [HC.out.2.2.2.2]; exact HF.out.2.2.2.2.2.whole
                have hTi1 : (Try.prog.info? 49).map (·.size) = some T1.size := by rw [HC.out.2.2.2.2, Bl8_size]; exact info49
                have HG1 := hide (And.intro hg1 hTi1)
                clear hg1 hTi1 hT0'
                rcases Nat.eq_zero_or_pos d with hd0 | hd0
                · have hdz : (d : Int) = 0 := by omega
                  cases ne
                  all_goals (
                    go_wp2_with (refine wpList_load_row rfl 49 _ rfl Nb rfl 49 T1 (0, 0) _ HG1.out.1 Try.underlying49 rfl HG1.out.2 ?_)
                    refine (cyclic_any (puni (setSite cur s (setOf fe Le)) 4 0 0) _ T1 HC.out.2.2.2.2).mono ?_
                    rintro e wh ⟨b1, rfl, hb1, hbh⟩
                    have hg0 : wh.heap[N5]? = some (.cells T0 49 (0, 0)) := by rw [HT.out.1]; exact (HF.out.2.2.2.2.1.kept (hbh.block N5 (World.rowIs.lt HF.out.2.2.2.2.1))).whole
                    have HG0 := hide (And.intro hg0 (And.intro HT.out.2.1 (And.intro hb1 (HF.out.1.below hbh))))
                    clear hg0 hb1 hbh
                    go_wp2_with (refine wpList_load_row rfl 49 _ rfl N5 rfl 49 T0 (0, 0) _ HG0.out.1 Try.underlying49 rfl HG0.out.2.1 ?_)
                    refine (cyclic_any (puni cur 4 0 0) _ T0 HT.out.1).mono ?_
                    rintro e wi ⟨b0, rfl, hb0, hbi⟩
                    have HZ := hide (HG0.out.2.2.2.below hbi)
                    have hcs : b1 = true → b0 = true := fun h => hb0.2 (HF.out.2.2.1 hd0 (HG0.out.2.2.1.1 h))
                    clear hb0 hbi
                    cases b1
                    · cases b0
                      all_goals (
                        go_wp2_with fail
                        go_roundg (len0 - (i + 1))
                        case measure => omega
                        case rel => exact ⟨i + 1, M', W', _, TT', cl + d, _, by omega, rfl, by first | rfl | (congr 1; omega), by go_num, HZ.out, HPA.out, by omega, by omega⟩)
                    · have hb0t := hcs rfl
                      subst hb0t
                      go_wp2_with fail
                      go_roundg (len0 - (i + 1))
                      case measure => omega
                      case rel => exact ⟨i + 1, M', W', _, TT', cl + d, _, by omega, rfl, by first | rfl | (congr 1; omega), by go_num, HZ.out, HPA.out, by omega, by omega⟩)
                · have hdz : ¬ (d : Int) = 0 := by omega
                  have hdp : 0 < (d : Int) := by omega
                  have hnet : ne = true := by
                    cases hne : ne with
                    | true => rfl
                    | false => have := HF.out.2.1.2 hne; omega
                  subst hnet
                  go_wp2_with (refine wpList_load_row rfl 49 _ rfl Nb rfl 49 T1 (0, 0) _ HG1.out.1 Try.underlying49 rfl HG1.out.2 ?_)
                  refine (cyclic_any (puni (setSite cur s (setOf fe Le)) 4 0 0) _ T1 HC.out.2.2.2.2).mono ?_
                  rintro e wh ⟨b1, rfl, hb1, hbh⟩
                  have hb1t : b1 = true := hb1.2 (HF.out.2.2.2.1 hd0)
                  subst hb1t
                  have hg0 : wh.heap[N5]? = some (.cells T0 49 (0, 0)) := by rw [HT.out.1]; exact (HF.out.2.2.2.2.1.kept (hbh.block N5 (World.rowIs.lt HF.out.2.2.2.2.1))).whole
                  have HG0 := hide (And.intro hg0 (And.intro HT.out.2.1 (HF.out.1.below hbh)))
                  clear hg0 hb1 hbh
                  go_wp2_with (refine wpList_load_row rfl 49 _ rfl N5 rfl 49 T0 (0, 0) _ HG0.out.1 Try.underlying49 rfl HG0.out.2.1 ?_)
                  refine (cyclic_any (puni cur 4 0 0) _ T0 HT.out.1).mono ?_
                  rintro e wi ⟨b0, rfl, hb0, hbi⟩
                  have HZ := hide (HG0.out.2.2.below hbi)
                  clear hb0 hbi
                  cases b0
                  all_goals (
                    go_wp2_with fail
                    go_roundg (len0 - (i + 1))
                    case measure => omega
                    case rel => exact ⟨i + 1, M', W', _, TT', cl + d, _, by omega, rfl, by first | rfl | (congr 1; omega), by go_num, HZ.out, HPA.out, by omega, by omega⟩))
    · have hnlt : ¬ (i : Int) < (len0 : Int) := by omega
      have HI := hide hI
      clear hI hPL
      go_wp2_with fail
      go_ret
      refine ⟨rfl, HB.out.1.trans ?_⟩
      have hl := HI.out.fr
      have hz := HB.out.1.size
      have h9 := H9.out.1
      have hZ := H9.out.2.2
      exact ⟨hl.os.trans h9.os, hl.tape.trans h9.tape, hl.output.trans h9.output, Nat.le_trans h9.size hl.size, fun b hb => (hl.block b (by have := h9.size; omega) (by omega)).trans (h9.block b (by omega))⟩

end Go.Proofs.Qxb6003670a.st
