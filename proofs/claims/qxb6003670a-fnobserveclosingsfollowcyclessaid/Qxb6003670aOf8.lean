/-
  THE WALK OF FnObserveStandingCountsSites.
-/
import Derived.Test.Qxb6003670aOf7
namespace Go.Proofs.Qxb6003670a.st
open Go.RowKit
open Go.Proofs.Qxb6003670a.sm Go.Proofs.Qxb6003670a.mp Go.Proofs.Qxb6003670a.pl Go.Proofs.Qxb6003670a.rc
attribute [local go_sem ↓] Go.wp_at_zero Go.wp_at_succ

theorem bit3_fin : ∀ b : Fin 256, bits .and .u8 (b.val : Int) 3 = ((b.val % 4 : Nat) : Int) := by decide +kernel
theorem bit_3 (b : Int) (h0 : 0 ≤ b) (h1 : b < 256) : bits .and .u8 b 3 = b % 4 := by
  have := bit3_fin ⟨b.toNat, by omega⟩
  simp only [Int.toNat_of_nonneg h0] at this
  rw [this]
  omega

def ZB256 : Array Value := Array.replicate 256 (.bool false)
theorem zero50 (w : World) : (zeroValue 50).run Try.prog w = .ok (.agg ZB256) w := by kernel_rfl
theorem zb256 (w : World) : B4 (w.alloc (.cells ZB256 50)) w.heap.size (fun _ _ _ => false) := by
  have hz : ZB256.size = 256 := by simp [ZB256]
  have h := World.rowIs_alloc w ZB256 50 (fun _ => .bool false) (fun i hi => by
    unfold ZB256 at hi ⊢
    simp at hi
    simp [hi])
  rw [hz] at h
  exact h

theorem truth_ti (w : World) : TI (truthW w) (w.heap.size + 4) w.heap.size (w.heap.size + 1) (w.heap.size + 2) (w.heap.size + 3) (fun _ => none) (fun _ _ => 0) (fun _ => none) (fun _ _ => none) 0 :=
  ⟨truth_stand w, truth_cells w, made_at _ _ _ (truth_map w 0 (by omega)), fun _ _ h => (by cases h), fun _ _ _ => rfl, ⟨_, made_at _ _ _ (truth_map w 3 (by omega))⟩, by omega, by omega, by omega, fun _ h => (by cases h), fun _ h => (by cases h), fun _ _ h => (by cases h)⟩

theorem start_li (w : World) : LI ((truthW w).alloc (.cells ZB256 50)) ((truthW w).alloc (.cells ZB256 50)) (w.heap.size + 4) w.heap.size (w.heap.size + 1) (w.heap.size + 2) (w.heap.size + 3) (w.heap.size + 5) (fun i => w.heap.size ≤ i) (fun _ => none) (fun _ => none) (fun _ _ => 0) (fun _ _ => none) 0 (fun _ _ _ => false) := by
  have hb : Below (truthW w).heap.size (truthW w) ((truthW w).alloc (.cells ZB256 50)) := (Below.refl _ _).alloc (Nat.le_refl _) _
  have hz := truth_size w
  refine ⟨(truth_ti w).below hb, by rw [← hz]; exact zb256 _, ⟨rfl, rfl, rfl, Nat.le_refl _, fun _ _ _ => rfl, fun i hi => ?_⟩, fun hh => ?_⟩
  · left
    rcases hi with ((h | h | h | ⟨s, h⟩) | h | ⟨u, h⟩) | h
    · omega
    · omega
    · omega
    · cases h
    · omega
    · cases h
    · omega
  · rcases hh with (h | h | h | ⟨s, h⟩) | h | ⟨u, h⟩
    · omega
    · omega
    · omega
    · cases h
    · omega
    · cases h
theorem start_pln : PLn (fun _ _ => 0) (fun _ _ => none) (fun _ _ _ => false) :=
  ⟨fun u v => by rw [psum4]; rfl, fun _ _ _ _ _ _ => rfl, fun _ _ _ h => by cases h⟩

/-- What was there ahead of the loop is as it was. -/
theorem LI.old {w9 wr : World} {tb bw bo bk bs cb Z : Nat} {M W : Nat → Option Nat} {C : Nat → Nat → Int} {TT : Nat → Nat × Nat → Option Int} {cl : Int} {cur : Nat → Nat → Nat → Bool} (h : LI w9 wr tb bw bo bk bs cb (fun i => Z ≤ i) M W C TT cl cur) {w2 : World} (hb : Below Z w2 w9) (hZ : Z = w2.heap.size) {b o : Nat} {x : Value} (hc : w2.cell? ⟨b, o, none⟩ = some x) : wr.cell? ⟨b, o, none⟩ = some x := by
  have hl : b < w2.heap.size := World.block_lt_of_cell? _ _ hc
  have hs := hb.size
  exact (World.cell?_of_block (w := w2) (a := ⟨b, o, none⟩) ((h.fr.block b (by omega) (by omega)).trans (hb.block b (by omega)))).trans hc

set_option maxRecDepth 40000 in
set_option maxHeartbeats 8000000 in
theorem slaw (a0 : Option Addr) (len0 cap0 : Nat) (f0 : Nat → Int) (a1 : Option Addr) (len1 cap1 : Nat) (A : Nat → Option Addr) (L K : Nat → Nat) (f : Nat → Nat → Int) (w : World)
    (hn0 : a0 = none → len0 = 0 ∧ cap0 = 0) (hs0 : Src 22 .u8 w a0 len0 cap0 f0) (hf0 : ∀ i, 0 ≤ f0 i ∧ f0 i < 256)
    (hn1 : a1 = none → len1 = 0 ∧ cap1 = 0) (hs1 : SrcR w a1 len1 cap1 A L K) (hnr : ∀ i, i < len1 → A i = none → L i = 0 ∧ K i = 0) (hr1 : ∀ i, i < len1 → Src 22 .u8 w (A i) (L i) (K i) (f i)) (hf1 : ∀ i j, 0 ≤ f i j ∧ f i j < 256) :
    Calls Try.prog 5 #[.slice a0 len0 cap0, .slice a1 len1 cap1] w fun e w' => e = .returned (.bool true) ∧ Below w.heap.size w w' := by
  have H0 := hide (And.intro hn0 (And.intro hs0 hf0))
  have H1 := hide (And.intro hn1 (And.intro hs1 (And.intro hnr (And.intro hr1 hf1))))
  clear hn0 hs0 hf0 hn1 hs1 hnr hr1 hf1
  have hz50 := zero50
  go_enter Try.func5, Try.ntmps5
  go_wp2_with fail
  refine (bytes19_any _ _ _ _ _ _ A L K _ H1.out.2.1).mono ?_
  rintro e w' ⟨b, rfl, rfl⟩
  cases b
  · go_wp2
    go_ret
    exact ⟨rfl, Below.refl _ _⟩
  go_wp2_with fail
  refine (fit_any _ _ _ _ _ _ A L K _ H1.out.2.1).mono ?_
  rintro e w1 ⟨rfl, b, rfl, hfit⟩
  cases b
  · go_wp2
    go_ret
    exact ⟨rfl, Below.refl _ _⟩
  obtain ⟨hl0, hl1, hL⟩ := hfit rfl
  have HL := hide hL
  clear hfit hL
  go_wp2_with fail
  refine (clone8_any _ _ _ f0 _ (by omega) H0.out.1 H0.out.2.1).mono ?_
  rintro e w2 ⟨A0, c0, rfl, hb1, hA0⟩
  have HA := hide (And.intro hb1 hA0)
  clear hb1 hA0
  go_wp2_with fail
  refine (clonesnaps_any _ _ _ A L K f _ hl1 H1.out.1 (H1.out.2.1.below HA.out.1) HL.out H1.out.2.2.1 (fun i hi => (H1.out.2.2.2.1 i hi).below HA.out.1)).mono ?_
  rintro e w3 ⟨B, c1, rfl, hb2, A', K', hsr, hrows⟩
  obtain ⟨g0, hix0, hg0, hc0⟩ := HA.out.2.below hb2
  obtain ⟨gb, goff, hix1, hc1⟩ := hsr
  have hb3 : Below w1.heap.size w1 w3 := HA.out.1.trans (hb2.mono HA.out.1.size)
  have HB := hide (And.intro hb3 (And.intro hc0 (And.intro hc1 (And.intro hrows (And.intro H0.out.2.2 H1.out.2.2.2.2)))))
  clear hb2 hb3 hc0 hc1 hg0 hrows HA H0 H1
  go_wp2_with fail
  refine (zztruth_any _).mono ?_
  rintro e w4 ⟨rfl, hw4⟩
  have hz4 := truth_size w3
  have hI := start_li w3
  rw [← hw4] at hI hz4
  have hb4 : Below w3.heap.size w3 (w4.alloc (.cells ZB256 50)) := by rw [hw4]; exact (truth_below w3).alloc (by rw [truth_size]; omega) _
  have H4 := hide (And.intro hI hb4)
  clear hw4 hI hb4
  go_wp2_with fail
  obtain ⟨hI, hb4⟩ := H4.out
  obtain ⟨w9, hw9⟩ : ∃ w9, w9 = w4.alloc (.cells ZB256 50) := ⟨_, rfl⟩
  obtain ⟨Z, hZ⟩ : ∃ Z, Z = w3.heap.size := ⟨_, rfl⟩
  rw [← hw9, ← hZ] at hI hb4
  rw [← hw9]
  rw [← hZ]
  have H9 := hide (And.intro hb4 (And.intro hI hZ))
  clear hw9 hz4 hI hb4 hZ hz50 H4
  go_loopg [7] len0 (fun n s7 wr => ∃ (i : Nat) (M W : Nat → Option Nat) (C : Nat → Nat → Int) (TT : Nat → Nat × Nat → Option Int) (cl : Int) (cur : Nat → Nat → Nat → Bool), i ≤ len0 ∧ n = len0 - i ∧ s7 = .int .i64 (i : Int) ∧ LI w9 wr (Z + 4) Z (Z + 1) (Z + 2) (Z + 3) (Z + 5) (fun i => Z ≤ i) M W C TT cl cur ∧ PLn C TT cur ∧ 0 ≤ cl ∧ cl ≤ 8 * i)
  case atStart => exact ⟨0, _, _, _, _, _, _, by omega, rfl, rfl, H9.out.2.1, start_pln, by omega, by omega⟩
  case round =>
    obtain ⟨i, M, W, C, TT, cl, cur, hi, hm, rfl, hI, hPL, hcl0, hcl1⟩ := hrel
    by_cases hlt : i < len0
    · have hlt' : (i : Int) < (len0 : Int) := by omega
      have hx := hix0 wr i hlt
      have hc := hI.old H9.out.1 H9.out.2.2 (HB.out.2.1 i hlt)
      obtain ⟨hf0, hf1⟩ := HB.out.2.2.2.2.1 i
      obtain ⟨s, hs⟩ : ∃ s : Nat, f0 i % 4 = (s : Int) := ⟨(f0 i % 4).toNat, by omega⟩
      have hbit : bits .and .u8 (f0 i) 3 = (s : Int) := by rw [bit_3 _ hf0 hf1]; exact hs
      have hs4 : s < 4 := by omega
      have hs4' : (s : Int) < 4 := by omega
      obtain ⟨Ae, Le, Ke, fe, hcase, hsrc, hLe, hfe⟩ : ∃ (Ae : Option Addr) (Le Ke : Nat) (fe : Nat → Int), ((i < len1 ∧ wr.cell? ⟨gb, goff + i, none⟩ = some (.slice Ae Le Ke)) ∨ (¬ i < len1 ∧ Ae = none ∧ Le = 0 ∧ Ke = 0)) ∧
          (∀ (wx : World) (M W : Nat → Option Nat) (C : Nat → Nat → Int) (TT : Nat → Nat × Nat → Option Int) (cl : Int) (cur : Nat → Nat → Nat → Bool), LI w9 wx (Z + 4) Z (Z + 1) (Z + 2) (Z + 3) (Z + 5) (fun i => Z ≤ i) M W C TT cl cur → Src 22 .u8 wx Ae Le Ke fe) ∧ Le ≤ 64 ∧ ∀ j, 0 ≤ fe j ∧ fe j < 256 := by
        by_cases h1 : i < len1
        · refine ⟨A' i, L i, K' i, f i, Or.inl ⟨h1, hI.old H9.out.1 H9.out.2.2 (HB.out.2.2.1 i h1)⟩, fun wx M W C TT cl cur hIx => ?_, HL.out i h1, HB.out.2.2.2.2.2 i⟩
          obtain ⟨sb, so, q1, q2⟩ := HB.out.2.2.2.1 i h1
          exact ⟨sb, so, q1, fun j hj => hIx.old H9.out.1 H9.out.2.2 (q2 j hj)⟩
        · exact ⟨none, 0, 0, fun _ => 0, Or.inr ⟨h1, rfl, rfl, rfl⟩, fun _ _ _ _ _ _ _ _ => ⟨0, 0, fun _ j hj => by omega, fun j hj => by omega⟩, by omega, fun _ => ⟨Int.le_refl _, by show (0 : Int) < 256; decide⟩⟩
      have HI := hide (And.intro hI (And.intro hPL (And.intro hsrc hfe)))
      have HS := hide hs
      clear hI hPL hsrc hfe hs
      rcases hcase with ⟨h1, hce⟩ | ⟨h1, hAe, hLe0, hKe⟩
      case' inl =>
        have h1' : (i : Int) < (len1 : Int) := by omega
        have hx1 := hix1 wr i h1
        go_wp2_with fail
      case' inr =>
        have hE : Value.slice none 0 0 = .slice Ae Le Ke := by rw [hAe, hLe0, hKe]
        have HE := hide hE
        have h1' : ¬ (i : Int) < (len1 : Int) := by omega
        clear hAe hLe0 hKe hE
        go_wp2_with fail
        rw [HE.out]
      all_goals (
        refine (setof_any Ae Le Ke fe _ (by omega) (HI.out.2.2.1 _ _ _ _ _ _ _ HI.out.1) HI.out.2.2.2).mono ?_
        rintro e w5 ⟨rfl, hb5⟩
        have hI5 := HI.out.1.below hb5
        obtain ⟨T, hT⟩ : ∃ T, T = Bl8 (setOf fe Le) := ⟨_, rfl⟩
        have hth : w5.there (Z + 5) (s * 64) T.size := by rw [hT, Bl8_size]; exact hI5.tab.there hs4
        have hTi : (Try.prog.info? 49).map (·.size) = some T.size := by rw [hT, Bl8_size]; exact info49
        have hT1 : T.all (·.oneCell') = true := by rw [hT]; exact Bl8_one _
        have hI6 := hI5.table s (setOf fe Le)
        rw [← hT] at hI6
        have HT := hide (And.intro hth (And.intro hTi (And.intro hT1 hI6)))
        rw [← hT]
        clear hth hTi hT1 hT hI5 hb5 hI6
        go_wp2_with (refine wpList_store_mid rfl 49 _ _ rfl (Z + 5) (s * 64) T rfl rfl HT.out.1 HT.out.2.1 HT.out.2.2.1 ?_)
        obtain ⟨w6, hw6⟩ : ∃ w6, w6 = w5.setCells (Z + 5) (s * 64) T.toList := ⟨_, rfl⟩
        have H6 : Hid (LI w9 w6 (Z + 4) Z (Z + 1) (Z + 2) (Z + 3) (Z + 5) (fun i => Z ≤ i) M W C TT cl (setSite cur s (setOf fe Le))) := by rw [hw6]; exact HT.out.2.2.2
        rw [← hw6]
        clear hw6 HT
        refine (site_any s (by omega) _).mono ?_
        rintro e w7 ⟨rfl, hb7⟩
        have H7 := hide (H6.out.below hb7)
        clear hb7
        go_wp2_with fail
        refine (snapof_walk Ae Le Ke fe _ (by omega) (HI.out.2.2.1 _ _ _ _ _ _ _ H7.out) HI.out.2.2.2).mono ?_
        rintro e w8 ⟨Q, v, rfl, hb8, hSR, hQ⟩
        obtain ⟨Av, cv, rfl, _, _, _⟩ := own_form hSR.own
        have hI8 := H7.out.below hb8
        have hsn := hSR.snap
        rw [hQ] at hsn
        have hQl : Q.length = (psn fe Le 8).length := by rw [← hQ, List.length_map]
        have hps := psn_len fe Le 8
        have hOP : OPre w8 (Z + 4) Z (Z + 1) (Z + 2) (Z + 3) s cv M W C TT cl (i : Int) Av (psn fe Le 8) := by
          refine ⟨hI8.ti, hsn, fun k hk => ?_, psn_sorted _ _ _, ?_, fun u v => ?_, by omega⟩
          · obtain ⟨p1, p2⟩ := mem_psn (List.getElem_mem hk)
            refine ⟨p1, ?_, fun j hj => ?_⟩
            · rw [p2]; have := wsn_len fe Le (psn fe Le 8)[k].1; omega
            · have hm : (psn fe Le 8)[k].2[j] ∈ wsn fe Le (psn fe Le 8)[k].1 := by rw [← p2]; exact List.getElem_mem hj
              exact (egs_lt (mem_wsn.1 hm)).2
          · have := flat_psn_len fe Le 8; omega
          · have := HI.out.2.1.bnd u v; omega
        have H8 := hide (And.intro hI8 (And.intro hOP hQl))
        clear hb8 hSR hQ hI8 hsn hQl hOP
        have hQ8 : Q.length ≤ 1000 := by rw [H8.out.2.2]; omega
        go_wp2_with fail
        refine (zzobserve_any (Z + 4) Z (Z + 1) (Z + 2) (Z + 3) s cv M W C TT cl (i : Int) Av (psn fe Le 8) _ H8.out.2.1 hs4 Q.length H8.out.2.2 hQ8).mono ?_
        rintro e wA ⟨rfl, M', W', TT', d, hti, hfr, hT1, hT2, hCI⟩
        have hIA := H8.out.1.observe hti hfr
        have hPA : PLn (newC C (TT s) (flat (psn fe Le 8))) TT' (setSite cur s (setOf fe Le)) := HI.out.2.1.step hs4 (fun e => mem_flat_psn) (fun e he => egs_lt he) hT1 hT2 (fun x y => rfl)
        have hd8 : d ≤ 8 := Nat.le_trans hCI.few (cnt_le _ 8)
        have HA := hide (And.intro hIA hPA)
        clear hti hfr hT1 hT2 hCI hIA hPA
        go_wp2_with fail
        refine (sums_any (Z + 5) (setSite cur s (setOf fe Le)) _ HA.out.1.tab).mono ?_
        rintro e wB ⟨rfl, hbB⟩
        have hz40 := zero40
        obtain ⟨T2, hT2⟩ : ∃ T2, T2 = Nl8 (psum (setSite cur s (setOf fe Le)) 4 0 0) := ⟨_, rfl⟩
        have hi2 : (Try.prog.info? 40).map (·.size) = some T2.size := by rw [hT2, Nl8_size]; exact info40
        have hTs2 : Z64.size = T2.size := by rw [hT2, Nl8_size]; rfl
        have hT12 : T2.all (·.oneCell') = true := by rw [hT2]; exact Nl8_one _
        have HT2 := hide (And.intro hT2 (And.intro hi2 (And.intro hTs2 (And.intro hT12 (HA.out.1.below hbB)))))
        rw [← hT2]
        clear hT2 hi2 hTs2 hT12 hbB
        go_wp2_with (refine wpList_store_row rfl 40 _ _ rfl wB.heap.size T2 rfl rfl 40 Z64 (heap_alloc_last wB _) HT2.out.2.1 HT2.out.2.2.1 HT2.out.2.2.2.1 ?_)
        clear hz40
        rw [World.setRow_alloc_new]
        have hbC : Below wB.heap.size wB (wB.alloc (.cells T2 40)) := (Below.refl _ _).alloc (Nat.le_refl _) _
        have hIC := HT2.out.2.2.2.2.below hbC
        have hNum : Num8 (wB.alloc (.cells T2 40)) wB.heap.size (newC C (TT s) (flat (psn fe Le 8))) := by
          rw [HT2.out.1]
          refine (Num8.of_block (heap_alloc_last wB _)).congr (fun x y hx hy => ?_)
          rw [HA.out.2.cnt, psum4, psum4, HA.out.2.tab 0 x y (by omega) hx hy, HA.out.2.tab 1 x y (by omega) hx hy, HA.out.2.tab 2 x y (by omega) hx hy, HA.out.2.tab 3 x y (by omega) hx hy]
        refine (agrees_any (Z + 4) (Z + 1) _ M' (newC C (TT s) (flat (psn fe Le 8))) _ hIC.ti.stand hIC.ti.tb_.c1 hNum (fun x y hxy => (HA.out.2.dom' x y hxy).2)).mono ?_
        rintro e wD ⟨rfl, hbD⟩
        have HD := hide (hIC.below hbD)
        clear hbD hNum hIC hbC
        go_wp2_with fail
        go_roundg (len0 - (i + 1))
        case measure => omega
        case rel => exact ⟨i + 1, M', W', _, TT', cl + d, _, by omega, rfl, by go_num, HD.out, HA.out.2, by omega, by omega⟩)
    · have hnlt : ¬ (i : Int) < (len0 : Int) := by omega
      have HI := hide hI
      clear hI hPL
      go_wp2_with fail
      go_ret
      refine ⟨rfl, HB.out.1.trans ?_⟩
      have hl := HI.out.fr
      have hz := HB.out.1.size
      have h9 := H9.out.1
      have hZ := H9.out.2.2
      exact ⟨hl.os.trans h9.os, hl.tape.trans h9.tape, hl.output.trans h9.output, Nat.le_trans h9.size hl.size, fun b hb => (hl.block b (by have := h9.size; omega) (by omega)).trans (h9.block b (by omega))⟩

end Go.Proofs.Qxb6003670a.st
