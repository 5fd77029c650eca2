/-
  THE WALK OF zzSnapshotOf.
-/
import Derived.Test.Qxb6003670aOf4
namespace Go.Proofs.Qxb6003670a.st
open Go.RowKit
open Go.Proofs.Qxb6003670a.sm Go.Proofs.Qxb6003670a.mp Go.Proofs.Qxb6003670a.pl Go.Proofs.Qxb6003670a.rc
attribute [local go_sem ↓] Go.wp_at_zero Go.wp_at_succ

/-- The snapshot as it lies. -/
structure SR (wr : World) (N : Nat) (Q : List Pr) (v : Value) : Prop where
  own : wr.ownsRow (N + 2) 72 6 v Q.length (pcs Q)
  rows : ∀ p ∈ Q, ∀ j (h : j < p.ws.length), wr.cell? ⟨p.g, j, none⟩ = some (.string (nd p.ws[j]))
theorem SN.done {w wr : World} {N : Nat} {Q : List Pr} {v : Value} (h : SN w wr N Q v) (x : Value) : SR (wr.setCell ⟨N, 0, none⟩ x) N Q v := by
  have hset : ∀ i, i ≠ N → (wr.setCell ⟨N, 0, none⟩ x).heap[i]? = wr.heap[i]? := fun i hi => Below.heap_setCell wr _ _ i hi
  refine ⟨own_same h.own (fun k hk => hset k (by have := (h.own.lt k hk).1; omega)), fun p hp j hj => ?_⟩
  obtain ⟨h1, h2, h3, h4⟩ := h.rows p hp
  exact (World.cell?_of_block (w := wr) (a := ⟨p.g, j, none⟩) (hset p.g (by omega))).trans (h4 j hj)
theorem info55 : (Try.prog.info? 55).map (·.size) = some 1 := by kernel_rfl

theorem psn_len (f : Nat → Int) (len n : Nat) : (psn f len n).length ≤ n := by
  induction n with
  | zero => simp [psn]
  | succ k ih =>
    rw [psn_succ, List.length_append]
    split <;> simp <;> omega

set_option maxRecDepth 40000 in
set_option maxHeartbeats 4000000 in
theorem snapof_walk (a : Option Addr) (len cap : Nat) (f : Nat → Int) (w : World) (hl : len ≤ 1000) (hs : Src 22 .u8 w a len cap f) (hf : ∀ i, 0 ≤ f i ∧ f i < 256) :
    Calls Try.prog 25 #[.slice a len cap] w fun e w' => ∃ Q v, e = .returned (.agg #[v]) ∧ Below w.heap.size w w' ∧ SR w' w.heap.size Q v ∧ Q.map (fun p => (p.u, p.ws)) = psn f len 8 := by
  have hU : SN w ((w.alloc (.cells #[.slice none 0 0] 55)).alloc (.cells #[.slice none 0 0] 55)) w.heap.size [] (.slice none 0 0) := by
    refine ⟨?_, ?_, ?_, ?_, World.ownsRow_nil _ _ _ _, fun p hp => (by cases hp), ((Below.refl _ _).alloc (Nat.le_refl _) _).alloc (by simp) _, by simp⟩
    · go_simp
    · go_simp
    · go_simp
    · go_simp
  obtain ⟨sb, off, hix, hce⟩ := hs
  have HC := hide (And.intro hce (And.intro hU hf))
  clear hce hU hf
  go_enter Try.func25, Try.ntmps25
  go_wp2_with fail
  obtain ⟨w2, hw2⟩ : ∃ w2, w2 = (w.alloc (.cells #[.slice none 0 0] 55)).alloc (.cells #[.slice none 0 0] 55) := ⟨_, rfl⟩
  obtain ⟨N, hN⟩ : ∃ N, N = w.heap.size := ⟨_, rfl⟩
  have A0 : Hid ((∀ i, i < len → w.cell? ⟨sb, off + i, none⟩ = some (.int .u8 (f i))) ∧ SN w w2 N [] (.slice none 0 0) ∧ N = w.heap.size ∧ ∀ i, 0 ≤ f i ∧ f i < 256) := by rw [hw2, hN]; exact ⟨HC.out.1, HC.out.2.1, rfl, HC.out.2.2⟩
  rw [← hw2, ← hN]
  clear hw2 hN HC
  go_loopg [4] 8 (fun m s4 wr => ∃ (u : Nat) (Q : List Pr) (v : Value), u ≤ 8 ∧ m = 8 - u ∧ s4 = .int .i64 (u : Int) ∧ SN w wr N Q v ∧ Q.map (fun p => (p.u, p.ws)) = psn f len u)
  case atStart => exact ⟨0, [], _, by omega, rfl, rfl, A0.out.2.1, rfl⟩
  case round =>
    obtain ⟨u, Q, v, hu, hm, rfl, hS, hQ⟩ := hrel
    by_cases hlt : u < 8
    · have hlt' : (u : Int) < 8 := by omega
      have A1 := hide (And.intro hS hQ)
      clear hS hQ
      go_wp2_with fail
      obtain ⟨wb, rfl⟩ : ∃ wb, wb = wr := ⟨_, rfl⟩
      go_loopg [5, 14] len (fun m s5 s14 wr => ∃ (i : Nat) (x : Value), i ≤ len ∧ m = len - i ∧ s5 = x ∧ s14 = .int .i64 (i : Int) ∧ wr.ownsRow wb.heap.size 9 1 x (wsn f i u).length ((wsn f i u).map ndV) ∧ Below wb.heap.size wb wr)
      case atStart => exact ⟨0, _, by omega, rfl, rfl, rfl, World.ownsRow_nil _ _ _ _, Below.refl _ _⟩
      case round =>
        obtain ⟨i, x, hi, hmi, rfl, rfl, hown, hbl⟩ := hrel
        by_cases hil : i < len
        · have hil' : (i : Int) < (len : Int) := by omega
          have hx := hix wr i hil
          have hcs := A0.out.1 i hil
          have hsl : sb < N := by rw [A0.out.2.2.1]; exact World.block_lt_of_cell? _ _ hcs
          have hsz := A1.out.1.size
          have hc : wr.cell? ⟨sb, off + i, none⟩ = some (.int .u8 (f i)) := (World.cell?_of_block (w := wb) (a := ⟨sb, off + i, none⟩) (hbl.block sb (by omega))).trans ((World.cell?_of_block (w := w) (a := ⟨sb, off + i, none⟩) (A1.out.1.below.block sb hsl)).trans hcs)
          obtain ⟨hf0, hf1⟩ := A0.out.2.2.2 i
          obtain ⟨u', hu'⟩ : ∃ u : Nat, f i % 8 = (u : Int) := ⟨(f i % 8).toNat, by omega⟩
          obtain ⟨y, hy⟩ : ∃ v : Nat, f i / 8 % 8 = (v : Int) := ⟨(f i / 8 % 8).toNat, by omega⟩
          have hu8 : u' < 8 := by omega
          have hy8 : y < 8 := by omega
          have he : eg f i = (u', y) := by unfold eg; rw [hu', hy]; rfl
          have HU := hide (And.intro hu' hy)
          have hwl := wsn_len f i u
          by_cases hue : u' = u
          · subst hue
            have hstep := wsn_hit f i u' y he
            have hown1 := hown.alloc (.cells #[.int .u8 (97 + (y : Int))] 5)
            have hb1 : Below wb.heap.size wb (wr.alloc (.cells #[.int .u8 (97 + (y : Int))] 5)) := hbl.alloc hbl.size _
            obtain ⟨g', cap', w4, hap, hown4, hgr4⟩ := push_str _ wb.heap.size u5 (wsn f i u') y hown1 (by omega) hb1.size
            have hb4 := hb1.grown hgr4 hb1.size (fun k hk => (hown1.lt k hk).1)
            rw [show (wr.alloc (.cells #[.int .u8 (97 + (y : Int))] 5)).heap.size = wr.heap.size + 1 by simp] at hap
            have HAP := hide hap
            have A2 := hide (And.intro hown4 (And.intro hb4 hstep))
            clear hown hbl hu' hy he hstep hown1 hb1 hap hown4 hgr4 hb4 hcs
            go_wp2_with fail
            refine (from_n _ u' hf0 hf1 HU.out.1 _).mono ?_
            rintro e w' ⟨rfl, hwx⟩
            subst hwx
            go_wp2_with fail
            refine (to_n _ y hf0 hf1 HU.out.2 _).mono ?_
            rintro e w' ⟨rfl, hwx⟩
            subst hwx
            go_wp2_with fail
            refine (node_at y (by omega) _).mono ?_
            rintro e w' ⟨rfl, hwx⟩
            subst hwx
            go_wp2_with (at_builtin; refine wpList_append_run (by rfl) _ _ 69 (by rfl) _ _ _ (by rfl) (by rfl) HAP.out ?_)
            go_roundg (len - (i + 1))
            case measure => omega
            case rel =>
              refine ⟨i + 1, _, by omega, rfl, rfl, by go_num, ?_, A2.out.2.1⟩
              rw [A2.out.2.2]
              exact A2.out.1
          · have hstep := wsn_miss f i u u' y he hue
            have hue' : ¬ (u' : Int) = (u : Int) := by omega
            have A2 := hide (And.intro hown (And.intro hbl hstep))
            clear hown hbl hu' hy he hstep hcs
            go_wp2_with fail
            refine (from_n _ u' hf0 hf1 HU.out.1 _).mono ?_
            rintro e w' ⟨rfl, hwx⟩
            subst hwx
            go_wp2_with fail
            go_roundg (len - (i + 1))
            case measure => omega
            case rel =>
              refine ⟨i + 1, _, by omega, rfl, rfl, by go_num, ?_, A2.out.2.1⟩
              rw [A2.out.2.2]
              exact A2.out.1
        · have hil' : ¬ (i : Int) < (len : Int) := by omega
          have hie : i = len := by omega
          rw [hie] at hown
          obtain ⟨Ax, cx, rfl, hc1, hc2, hAx⟩ := own_form hown
          have hpos := psn_succ f len u
          obtain ⟨L, hL⟩ : ∃ L, L = wsn f len u := ⟨_, rfl⟩
          rw [← hL] at hown hpos
          obtain ⟨ll, hll⟩ : ∃ ll, ll = L.length := ⟨_, rfl⟩
          rw [← hL, ← hll]
          rw [← hL, ← hll] at hAx
          have hS6 := A1.out.1.mono hbl
          by_cases hl0 : ll = 0
          · have hLn : L = [] := List.eq_nil_of_length_eq_zero (by rw [← hll]; exact hl0)
            rw [if_pos hLn] at hpos
            have A2 := hide (And.intro hS6 hpos)
            clear hown hS6 hbl hpos hL hll hLn hc1 hc2 hAx hie
            have hl0' : ¬ (0 : Int) < (ll : Int) := by omega
            go_wp2_with fail
            go_roundg (8 - (u + 1))
            case measure => omega
            case rel => exact ⟨u + 1, Q, v, by omega, rfl, by go_num, A2.out.1, by rw [A1.out.2, A2.out.2, List.append_nil]⟩
          · have hl0' : (0 : Int) < (ll : Int) := by omega
            have hLn : L ≠ [] := fun e => hl0 (by rw [hll, e]; rfl)
            rw [if_neg hLn] at hpos
            obtain ⟨g, cg, hv, hg1, hg2⟩ := hown.form (by rw [← hll]; omega)
            have hax : Ax = some ⟨g, 0, none⟩ := by injection hv
            subst hax
            have hrow : ∀ j (hj : j < L.length), wr.cell? ⟨g, j, none⟩ = some (.string (nd L[j])) := fun j hj => by
              have hc := hown.cells (g := g) rfl j (.string (nd L[j])) (by rw [List.getElem?_map, List.getElem?_eq_getElem hj]; rfl)
              rw [Addr.add_mid, Nat.zero_add] at hc
              exact hc
            have hbX : Below wr.heap.size wr (wr.drew.alloc (.cells #[.int .u8 (97 + (u : Int))] 5)) := (Below.refl wr.heap.size wr).drew.alloc (Nat.le_refl _) _
            have hSX := hS6.mono hbX
            have hzX : (wr.drew.alloc (.cells #[.int .u8 (97 + (u : Int))] 5)).heap.size = wr.heap.size + 1 := by simp
            have hQ8 : Q.length ≤ 100 := by
              have h1 := psn_len f len u
              rw [← A1.out.2, List.length_map] at h1
              omega
            obtain ⟨v', w4, hap, hcv, hfv, h1c, ⟨g', cap', rfl⟩, hS4⟩ := hSX.push (B := wb.heap.size) (u := u) (g := g) (cap := cx) (ws := L) (fun k hk => (A1.out.1.own.lt k hk).2) ⟨hg1, by omega⟩ A1.out.1.size (fun j hj => (hbX.cell (World.block_lt_of_cell? _ _ (hrow j hj))).trans (hrow j hj)) hQ8
            rw [hzX, ← hll] at hap
            obtain ⟨Av, cv, rfl, _, _, _⟩ := own_form A1.out.1.own
            have hcw : wr.cell? ⟨N + 1, 0, none⟩ = some (.slice Av Q.length cv) := hS6.cell
            have hcX : (wr.alloc (.cells #[.int .u8 (97 + (u : Int))] 5)).cell? ⟨N + 1, 0, none⟩ = some (.slice Av Q.length cv) := hSX.cell
            have hcY : ((wr.alloc (.cells #[.int .u8 (97 + (u : Int))] 5)).alloc (.cells #[.string (nd u), .string ⟨#[]⟩, .slice (some ⟨g, 0, none⟩) ll cx, .pointer none, .int .i64 0, .int .i64 0] 72)).cell? ⟨N + 1, 0, none⟩ = some (.slice Av Q.length cv) := (World.cell?_alloc_lt _ _ _ (World.block_lt_of_cell? _ _ hcX)).trans hcX
            have HAP := hide hap
            have A2 := hide (And.intro hS4 hpos)
            clear hown hS6 hbl hpos hL hll hLn hc1 hc2 hAx hie hv hg1 hg2 hrow hbX hSX hzX hQ8 hap h1c hS4
            go_wp2_with fail
            go_region_law (first | refine step_append_run rfl _ _ 53 rfl _ _ _ (by rfl) (by rfl) HAP.out ?_ | (go_simp; go_at_call 10; refine (node_at u (by omega) _).mono ?_; rintro e w' ⟨rfl, rfl⟩; dsimp only))
            all_goals (
              go_wp2_with fail
              go_roundg (8 - (u + 1))
              case measure => omega
              case rel => exact ⟨u + 1, _, _, by omega, rfl, by go_num, A2.out.1, by rw [List.map_append, A1.out.2, A2.out.2]; rfl⟩)
    · have hnlt : ¬ (u : Int) < 8 := by omega
      have hue : u = 8 := by omega
      rw [hue] at hQ
      obtain ⟨Av, cv, rfl, _, _, _⟩ := own_form hS.own
      have hc1 := hS.cell
      have hc2 := hS.res
      have hc3 := hS.rfz
      have A1 := hide (And.intro hS hQ)
      clear hS hQ hue
      go_wp2_with fail
      have hce : (wr.setCell ⟨N, 0, none⟩ (.slice Av Q.length cv)).cell? ⟨N, 0, none⟩ = some (.slice Av Q.length cv) := World.cell?_setCell_same _ _ _ hc2
      refine bodyPost_ret (v := .agg #[.slice Av Q.length cv]) ?_ rfl ⟨Q, _, rfl, ?_, ?_, A1.out.2⟩
      · have hld := run_loadVar_mid (P := Try.prog) (wr.setCell ⟨N, 0, none⟩ (.slice Av Q.length cv)) N 0 55 [.slice Av Q.length cv] _ (fun j x hx => by
          match j, hx with
          | 0, hx => simp at hx; subst hx; exact hce) Try.underlying55 rfl info55
        simp [results, asAddr, hld]
      · rw [← A0.out.2.2.1]
        exact A1.out.1.below.setCell (Nat.le_refl _) _
      · rw [← A0.out.2.2.1]
        exact A1.out.1.done _

theorem size72 (wx : World) : (sizeOf 72).run Try.prog wx = .ok 6 wx := by kernel_rfl
theorem size9 (wx : World) : (sizeOf 9).run Try.prog wx = .ok 1 wx := by kernel_rfl

theorem SR.snap {wr : World} {N cap : Nat} {A : Option Addr} {Q : List Pr} (h : SR wr N Q (.slice A Q.length cap)) : SnapIs wr A cap (Q.map (fun p => (p.u, p.ws))) := by
  unfold SnapIs
  by_cases h0 : Q.length = 0
  · refine ⟨0, fun _ i hi => absurd hi (by simp; omega), fun i hi => absurd hi (by simp; omega)⟩
  · obtain ⟨g, c, hv, _, _⟩ := h.own.form (by omega)
    injection hv with hA _ hc
    subst hA
    subst hc
    refine ⟨g, fun wx i hi => ?_, fun i hi => ?_⟩
    · rw [List.length_map] at hi ⊢
      have e : Try.prog.elem 53 = 72 := by simp [Program.elem, Try.underlying53]
      rw [run_indexAt_slice wx 53 _ Q.length cap .i64 (i : Int) (by rw [e]; exact Try.underlying53), if_pos ⟨by omega, by omega⟩, e, size72]
      simp only [Result.andThen_ok, Int.toNat_natCast, Addr.add_mid, Nat.zero_add]
    · have hi' : i < Q.length := by simpa using hi
      have hc := h.own.cells (g := g) rfl
      have hcell : ∀ k, k < 6 → ∀ x, (pc6 Q[i])[k]? = some x → wr.cell? ⟨g, i * 6 + k, none⟩ = some x := fun k hk x hx => by
        have := hc (i * 6 + k) x (by rw [pcs_at Q i hi' k hk]; exact hx)
        rw [Addr.add_mid, Nat.zero_add] at this
        exact this
      have hg : (Q.map (fun p => (p.u, p.ws)))[i] = (Q[i].u, Q[i].ws) := by simp
      simp only [hg]
      refine ⟨some ⟨Q[i].g, 0, none⟩, Q[i].cap, Q[i].g, hcell 0 (by omega) _ rfl, hcell 1 (by omega) _ rfl, hcell 2 (by omega) _ rfl, hcell 3 (by omega) _ rfl, hcell 4 (by omega) _ rfl, hcell 5 (by omega) _ rfl, fun wx j hj => ?_, fun j hj => h.rows _ (List.getElem_mem hi') j hj⟩
      have e : Try.prog.elem 69 = 9 := by simp [Program.elem, Try.underlying69]
      rw [run_indexAt_slice wx 69 _ _ _ .i64 (j : Int) (by rw [e]; exact Try.underlying69), if_pos ⟨by omega, by omega⟩, e, size9]
      simp only [Result.andThen_ok, Int.toNat_natCast, Addr.add_mid, Nat.zero_add, Nat.mul_one]

/-! the snapshot, plain -/
theorem mem_psn {f : Nat → Int} {len n : Nat} {p : Nat × List Nat} (h : p ∈ psn f len n) : p.1 < n ∧ p.2 = wsn f len p.1 := by
  unfold psn at h
  obtain ⟨k, hk, hp⟩ := List.mem_flatMap.1 h
  split at hp
  · cases hp
  · rw [List.mem_singleton.1 hp]
    exact ⟨List.mem_range.1 hk, rfl⟩
theorem mem_wsn {f : Nat → Int} {len u v : Nat} : v ∈ wsn f len u ↔ (u, v) ∈ egs f len := by
  unfold wsn
  simp only [List.mem_map, List.mem_filter, beq_iff_eq]
  constructor
  · rintro ⟨⟨a, b⟩, ⟨h1, h2⟩, h3⟩
    simp only at h2 h3
    rw [← h2, ← h3]
    exact h1
  · intro h
    exact ⟨(u, v), ⟨h, rfl⟩, rfl⟩
theorem egs_lt {f : Nat → Int} {n : Nat} {e : Nat × Nat} (h : e ∈ egs f n) : e.1 < 8 ∧ e.2 < 8 := by
  unfold egs at h
  obtain ⟨i, _, rfl⟩ := List.mem_map.1 h
  exact eg_lt f i
theorem mem_flat_psn {f : Nat → Int} {len : Nat} {e : Nat × Nat} : e ∈ flat (psn f len 8) ↔ e ∈ egs f len := by
  obtain ⟨u, v⟩ := e
  unfold flat
  simp only [List.mem_flatMap, List.mem_map]
  constructor
  · rintro ⟨p, hp, x, hx, he⟩
    obtain ⟨h1, h2⟩ := mem_psn hp
    rw [h2] at hx
    have := mem_wsn.1 hx
    rw [he] at this
    exact this
  · intro h
    have hw := mem_wsn.2 h
    refine ⟨(u, wsn f len u), ?_, v, hw, rfl⟩
    unfold psn
    refine List.mem_flatMap.2 ⟨u, List.mem_range.2 (egs_lt h).1, ?_⟩
    have hne : wsn f len u ≠ [] := fun e => by rw [e] at hw; cases hw
    rw [if_neg hne]
    exact List.mem_singleton.2 rfl
theorem psn_sorted (f : Nat → Int) (len n : Nat) : (psn f len n).Pairwise (fun a b => a.1 ≤ b.1) := by
  induction n with
  | zero => simp [psn]
  | succ k ih =>
    rw [psn_succ, List.pairwise_append]
    refine ⟨ih, ?_, fun a ha b hb => ?_⟩
    · split <;> simp
    · have h1 := (mem_psn ha).1
      split at hb
      · cases hb
      · rw [List.mem_singleton.1 hb]
        show a.1 ≤ k
        omega
theorem flat_psn_len (f : Nat → Int) (len n : Nat) : (flat (psn f len n)).length ≤ n * len := by
  induction n with
  | zero => simp [psn, flat]
  | succ k ih =>
    have e : flat (psn f len k ++ (if wsn f len k = [] then [] else [(k, wsn f len k)])) = flat (psn f len k) ++ flat (if wsn f len k = [] then [] else [(k, wsn f len k)]) := by
      unfold flat
      rw [List.flatMap_append]
    rw [psn_succ, e, List.length_append]
    have h1 : (flat (if wsn f len k = [] then [] else [(k, wsn f len k)])).length ≤ len := by
      split
      · simp [flat]
      · have := wsn_len f len k
        simp [flat]
        omega
    have := Nat.add_mul k 1 len
    omega

end Go.Proofs.Qxb6003670a.st
