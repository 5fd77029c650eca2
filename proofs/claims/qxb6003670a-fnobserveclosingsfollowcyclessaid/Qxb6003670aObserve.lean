/-
  THE WALK OF 'observe'.
-/
import Derived.Test.Qxb6003670aObs4
import Derived.Deep.RegionHeld3
import Derived.Deep.DrawnRows
namespace Go.Proofs.Qxb6003670a.st
open Go.RowKit
open Go.Proofs.Qxb6003670a.sm Go.Proofs.Qxb6003670a.mp Go.Proofs.Qxb6003670a.pl Go.Proofs.Qxb6003670a.rc
open Go.ChangeMaps (setBlock)
attribute [local go_sem ↓] Go.wp_at_zero Go.wp_at_succ

theorem flat_len (PS : List (Nat × List Nat)) (k : Nat) : (flat (PS.take k)).length ≤ (flat PS).length := by
  have : flat PS = flat (PS.take k) ++ flat (PS.drop k) := by
    unfold flat
    rw [← List.flatMap_append, List.take_append_drop]
  rw [this, List.length_append]
  omega

theorem flat_mem {PS : List (Nat × List Nat)} {e : Nat × Nat} (h : e ∈ flat PS) : ∃ i, ∃ h : i < PS.length, e.1 = PS[i].1 ∧ e.2 ∈ PS[i].2 := by
  unfold flat at h
  obtain ⟨p, hp, he⟩ := List.mem_flatMap.1 h
  obtain ⟨i, hi, rfl⟩ := List.getElem_of_mem hp
  obtain ⟨v, hv, rfl⟩ := List.mem_map.1 he
  exact ⟨i, hi, rfl, hv⟩
theorem flat_sorted (PS : List (Nat × List Nat)) (h : PS.Pairwise (fun a b => a.1 ≤ b.1)) : (flat PS).Pairwise (fun a b => a.1 ≤ b.1) := by
  unfold flat
  rw [List.pairwise_flatMap]
  refine ⟨fun p _ => ?_, h.imp (fun {a b} hab x hx y hy => ?_)⟩
  · rw [List.pairwise_map]
    exact List.pairwise_of_forall (fun _ _ => Nat.le_refl _)
  · obtain ⟨v, _, rfl⟩ := List.mem_map.1 hx
    obtain ⟨v', _, rfl⟩ := List.mem_map.1 hy
    exact hab
theorem newC_bnd {C : Nat → Nat → Int} {T : Nat × Nat → Option Int} {X : List (Nat × Nat)} (hC : ∀ u v, -1000 ≤ C u v ∧ C u v ≤ 1000) (u v : Nat) : -1000000 ≤ newC C T X u v ∧ newC C T X u v ≤ 1000000 := by
  have := hC u v
  unfold newC b2i
  split <;> split <;> omega

set_option maxRecDepth 40000 in
set_option maxHeartbeats 8000000 in
theorem observe_any (tb bw bo bk bs s cap : Nat) (M W : Nat → Option Nat) (C : Nat → Nat → Int) (TT : Nat → Nat × Nat → Option Int) (cl now : Int) (A : Option Addr) (PS : List (Nat × List Nat)) (w : World)
    (hP : OPre w tb bw bo bk bs s cap M W C TT cl now A PS) (hs : s < 4) (hpl : PS.length ≤ 1000) :
    Calls Try.prog 36 #[.pointer (some ⟨tb, 0, none⟩), .string (sn s), .agg #[.slice A PS.length cap], .int .i64 now] w fun e w' => e = .returned (.tuple #[]) ∧
      ∃ (M' W' : Nat → Option Nat) (TT' : Nat → Nat × Nat → Option Int) (d : Nat), TI w' tb bw bo bk bs M' (newC C (TT s) (flat PS)) W' TT' (cl + d) ∧ Fr w w' (OT tb bw bo bs M W) (OT tb bw bo bs M' W') ∧
        (∀ e, (TT' s e).isSome = decide (e ∈ flat PS)) ∧ (∀ s', s' ≠ s → TT' s' = TT s') ∧ CI (newC C (TT s) (flat PS)) (stf (TT s) C (flat PS)) [] d := by
  obtain ⟨n, hn⟩ : ∃ n, n = PS.length := ⟨_, rfl⟩
  have hb2 : Below w.heap.size w ((w.alloc (.cells #[.slice A PS.length cap] 55)).alloc (.map #[] 0)) := ((Below.refl _ _).alloc (Nat.le_refl _) _).alloc (by simp) _
  have hz2 : ((w.alloc (.cells #[.slice A PS.length cap] 55)).alloc (.map #[] 0)).heap.size = w.heap.size + 2 := by simp
  have hm2 : IsMap edV DE intV ((w.alloc (.cells #[.slice A PS.length cap] 55)).alloc (.map #[] 0)) (w.heap.size + 1) (fun _ => none) := by
    have := IsMap.made edV DE intV (w.alloc (.cells #[.slice A PS.length cap] 55))
    rw [show (w.alloc (.cells #[.slice A PS.length cap] 55)).heap.size = w.heap.size + 1 by simp] at this
    exact this
  have hb1 : Below w.heap.size w (w.alloc (.cells #[.slice A PS.length cap] 55)) := (Below.refl _ _).alloc (Nat.le_refl _) _
  have hlk := look73 (hP.ti.below hb1).waits hs
  have htb0 := (hP.ti.below hb1).tb_.c0
  rw [← hn] at hpl hb2 hz2 hm2 hlk htb0 ⊢
  have hmm := @run_makeMap Try.prog
  have A0 := hide (And.intro hP (And.intro hn (And.intro hb2 hm2)))
  clear hP hb2 hm2 hb1 hn
  go_enter Try.func36, Try.ntmps36
  go_wp2_with fail
  obtain ⟨w2, hw2⟩ : ∃ w2, w2 = (w.alloc (.cells #[.slice A n cap] 55)).alloc (.map #[] 0) := ⟨_, rfl⟩
  obtain ⟨N, hN⟩ : ∃ N, N = w.heap.size := ⟨_, rfl⟩
  have A2 : Hid (OPre w tb bw bo bk bs s cap M W C TT cl now A PS ∧ n = PS.length ∧ Below N w w2 ∧ IsMap edV DE intV w2 (N + 1) (fun _ => none) ∧ w2.heap.size = N + 2 ∧ N = w.heap.size) := by
    rw [hN, hw2]
    exact ⟨A0.out.1, A0.out.2.1, A0.out.2.2.1, A0.out.2.2.2, hz2, rfl⟩
  rw [← hw2, ← hN]
  clear hw2 hN A0 hz2 hlk htb0 hmm
  go_loopg [10, 36] n (fun m s10 s36 wr => ∃ (i : Nat) (v : Value), i ≤ n ∧ m = n - i ∧ s10 = v ∧ s36 = .int .i64 (i : Int) ∧ O1 w2 wr N (TT s) now C (flat (PS.take i)) v)
  case atStart =>
    refine ⟨0, _, by omega, rfl, rfl, rfl, ⟨?_, ?_, Below.refl _ _, by have := A2.out.2.2.2.2.1; omega⟩⟩
    · exact World.ownsRow_nil _ _ _ _
    · exact A2.out.2.2.2.1
  case round =>
    obtain ⟨i, v, hi, hm, rfl, rfl, hO⟩ := hrel
    by_cases hlt : i < n
    · have hlt' : (i : Int) < (n : Int) := by omega
      have hiL : i < PS.length := by rw [← A2.out.2.1]; exact hlt
      obtain ⟨u, hu⟩ : ∃ u, u = PS[i].1 := ⟨_, rfl⟩
      obtain ⟨ln, hln⟩ : ∃ ln, ln = PS[i].2.length := ⟨_, rfl⟩
      have hfl := flat_snoc PS i hiL
      obtain ⟨gp, hix, hcs⟩ := A2.out.1.snap
      have hix := hix wr i hiL
      rw [← A2.out.2.1] at hix
      obtain ⟨Ai, ci, gi, h0, h1, h2, h3, h4, h5, hjx, hjc⟩ := hcs i hiL
      have h0 := hO.cell A2.out.2.2.1 A2.out.2.2.2.2.2 h0
      have h1 := hO.cell A2.out.2.2.1 A2.out.2.2.2.2.2 h1
      have h2 := hO.cell A2.out.2.2.1 A2.out.2.2.2.2.2 h2
      have h3 := hO.cell A2.out.2.2.1 A2.out.2.2.2.2.2 h3
      have h4 := hO.cell A2.out.2.2.1 A2.out.2.2.2.2.2 h4
      have h5 := hO.cell A2.out.2.2.1 A2.out.2.2.2.2.2 h5
      rw [← hu] at h0
      rw [← hln] at h2
      have hln0 : ln ≤ 1000 := by rw [hln]; exact (A2.out.1.ps8 i hiL).2.1
      have hu8 : u < 8 := by rw [hu]; exact (A2.out.1.ps8 i hiL).1
      have hpc : (wr.alloc (.cells #[.string (nd u), .string ⟨#[]⟩, .slice Ai ln ci, .pointer none, .int .i64 0, .int .i64 0] 72)).cell? ⟨wr.heap.size, 0, none⟩ = some (.string (nd u)) := by go_simp
      obtain ⟨wp, hwp⟩ : ∃ wp, wp = wr.alloc (.cells #[.string (nd u), .string ⟨#[]⟩, .slice Ai ln ci, .pointer none, .int .i64 0, .int .i64 0] 72) := ⟨_, rfl⟩
      obtain ⟨pb, hpb⟩ : ∃ pb, pb = wr.heap.size := ⟨_, rfl⟩
      have hIn : In w2 wp N (TT s) now C (flat (PS.take i)) u10 pb u := by
        refine ⟨by rw [hwp]; exact hO.alloc _, by rw [hwp, hpb]; exact hpc, fun e => ?_, by rw [hpb]; exact hO.size⟩
        have := (hO.own.lt _ e).2
        omega
      have hsz : wp.heap.size = pb + 1 := by rw [hwp, hpb]; simp
      have A3 := hide (And.intro hIn (And.intro hu (And.intro hln (And.intro hfl (And.intro hjx (And.intro hjc hO))))))
      clear hu hln hfl hcs hjx hjc hO hpc hIn hsz
      go_wp2_with fail
      rw [← hwp, ← hpb]
      clear hwp hpb hix h0 h1 h2 h3 h4 h5
      go_loopg [10, 43] ln (fun m s10 s43 wq => ∃ (j : Nat) (v : Value), j ≤ ln ∧ m = ln - j ∧ s10 = v ∧ s43 = .int .i64 (j : Int) ∧ In w2 wq N (TT s) now C (flat (PS.take i) ++ (PS[i].2.take j).map (fun y => (u, y))) v pb u)
      case atStart => exact ⟨0, _, by omega, rfl, rfl, rfl, by simpa using A3.out.1⟩
      case round =>
        obtain ⟨j, v, hj, hmj, rfl, rfl, hI⟩ := hrel
        by_cases hlt2 : j < ln
        · have hlt2' : (j : Int) < (ln : Int) := by omega
          have hjL : j < PS[i].2.length := by rw [← A3.out.2.2.1]; exact hlt2
          obtain ⟨x, hx⟩ : ∃ x, x = PS[i].2[j] := ⟨_, rfl⟩
          have hx8 : x < 8 := by rw [hx]; exact (A2.out.1.ps8 i hiL).2.2 j hjL
          have hjx := A3.out.2.2.2.2.1 wr j hjL
          rw [← A3.out.2.2.1] at hjx
          have hjc := hI.o1.cell A2.out.2.2.1 A2.out.2.2.2.2.2 (A3.out.2.2.2.2.2.1 j hjL)
          rw [← hx] at hjc
          have hX := map_snoc u PS[i].2 j hjL
          rw [← hx] at hX
          obtain ⟨X, hXe⟩ : ∃ X, X = flat (PS.take i) ++ (PS[i].2.take j).map (fun y => (u, y)) := ⟨_, rfl⟩
          have hX1 : flat (PS.take i) ++ (PS[i].2.take (j + 1)).map (fun y => (u, y)) = X ++ [(u, x)] := by rw [hX, hXe, List.append_assoc]
          rw [← hXe] at hI
          have hI1 := hI.alloc (.cells #[.string (nd u), .string (nd x)] 65)
          have hti := hI1.o1.ti A2.out.1.ti A2.out.2.2.1 A2.out.2.2.2.2.2
          have hlk := look79 (hti.opt (s := s)) (show u < 10 by omega) (show x < 10 by omega)
          have hpc := hI.cell
          have hXl : X.length ≤ 1000 := by
            rw [hXe]
            have h1 := flat_len PS (i + 1)
            rw [A3.out.2.2.2.1] at h1
            have h2 := A2.out.1.few
            simp only [List.length_append, List.length_map, List.length_take] at h1 ⊢
            omega
          cases hT : TT s (u, x) with
          | some t =>
            rw [hT] at hlk
            obtain ⟨w4, hup, hI4⟩ := hI1.put (x := x) (show u < 10 by omega) (show x < 10 by omega) (by rw [hT]; rfl) (z := t) (by rw [hT]; rfl)
            have A4 := hide (And.intro hI4 hX1)
            simp only [Option.getD_some, Option.isSome_some] at hlk
            clear hI hI1 hti hX hXe hX1 hI4 hT hx
            go_wp2_with fail
            go_roundg (ln - (j + 1))
            case measure => omega
            case rel => exact ⟨j + 1, _, by omega, rfl, rfl, by go_num, by rw [A4.out.2]; exact A4.out.1⟩
          | none =>
            rw [hT] at hlk
            simp only [Option.getD_none, Option.isSome_none] at hlk
            have hI2 := hI1.drew
            have hti2 := hI2.o1.ti A2.out.1.ti A2.out.2.2.1 A2.out.2.2.2.2.2
            have hk27 := look27 hti2.stand.graph.1 (show u < 10 by omega)
            have hk30 := look30opt (u := u) hti2.stand (show x < 10 by omega)
            have htb := hti2.tb_.c1
            have he0 : (wr.alloc (.cells #[.string (nd u), .string (nd x)] 65)).drew.cell? ⟨wr.heap.size, 0, none⟩ = some (.string (nd u)) := by go_simp
            have he1 : (wr.alloc (.cells #[.string (nd u), .string (nd x)] 65)).drew.cell? ⟨wr.heap.size, 1, none⟩ = some (.string (nd x)) := by go_simp
            have hvn : u10.ownBlock ≠ some wr.heap.size := fun e => by have := (hI.o1.own.lt _ e).2; omega
            obtain ⟨wa, hwa⟩ : ∃ wa, wa = wr.alloc (.cells #[.string (nd u), .string (nd x)] 65) := ⟨_, rfl⟩
            obtain ⟨eb, heb⟩ : ∃ eb, eb = wr.heap.size := ⟨_, rfl⟩
            have A4 := hide (And.intro hI2 (And.intro hX1 (And.intro hT hvn)))
            clear hI hI1 hti hX hXe hX1 hT hx hI2 hti2 hvn
            go_wp2_with fail
            rw [← hwa, ← heb]
            rw [← hwa] at hk27 hk30 htb he0 he1
            rw [← heb] at he0 he1
            have A5 : Hid (In w2 wa.drew N (TT s) now C X u10 pb u ∧ flat (PS.take i) ++ (PS[i].2.take (j + 1)).map (fun y => (u, y)) = X ++ [(u, x)] ∧ TT s (u, x) = none ∧ u10.ownBlock ≠ some eb) := by
              have := A4.out
              rw [← hwa, ← heb] at this
              exact this
            clear A4 hwa heb hlk hpc hjc hjx
            go_region_held3 (fun w' => w'.cell? ⟨tb, 1, none⟩ = some (.map (some bo)) ∧ w'.cell? ⟨eb, 0, none⟩ = some (.string (nd u)) ∧ w'.cell? ⟨eb, 1, none⟩ = some (.string (nd x)) ∧ (Instr.lookup 27 (.map (some bo)) (.string (nd u)) false).run Try.prog w' = .ok (.map (M u)) w' ∧ (Instr.lookup 30 (.map (M u)) (.string (nd x)) false).run Try.prog w' = .ok (.int .i64 (C u x)) w')
              (exact ⟨htb, he0, he1, hk27, hk30⟩) (fail)
            obtain ⟨wb, hwb⟩ : ∃ wb, wb = wa.drew := ⟨_, rfl⟩
            rw [← hwb]
            rw [← hwb] at hk27 hk30 htb he0 he1
            have A6 : Hid (In w2 wb N (TT s) now C X u10 pb u ∧ flat (PS.take i) ++ (PS[i].2.take (j + 1)).map (fun y => (u, y)) = X ++ [(u, x)] ∧ TT s (u, x) = none ∧ u10.ownBlock ≠ some eb) := by
              have := A5.out
              rw [← hwb] at this
              exact this
            clear A5 hwb hk27 hk30 htb
            by_cases hC : C u x = 0
            · obtain ⟨g', cap', k', w4, w5, hap, hup, hI5, hf0, hf1⟩ := A6.out.1.putNew (x := x) (eb := eb) (show u < 10 by omega) (show x < 10 by omega) (by rw [A6.out.2.2.1, hC]; rfl) (by have : (stf (TT s) C X).length ≤ X.length := List.length_filter_le _ _; omega) he0 he1 A6.out.2.2.2
              have HAP := hide hap
              have A7 := hide hI5
              clear hap hI5
              rw [hC]
              go_wp2_with (at_builtin; refine wpList_append_run (by rfl) _ _ 80 (by rfl) _ _ _ (by rfl) (by rfl) HAP.out ?_)
              go_roundg (ln - (j + 1))
              case measure => omega
              case rel => exact ⟨j + 1, _, by omega, rfl, rfl, by go_num, by rw [A6.out.2.1]; exact A7.out⟩
            · obtain ⟨w4, hup, hI4⟩ := A6.out.1.put (x := x) (show u < 10 by omega) (show x < 10 by omega) (by rw [A6.out.2.2.1]; simp [hC]) (z := now) (by rw [A6.out.2.2.1]; rfl)
              have A7 := hide hI4
              clear hI4
              go_wp2_with fail
              go_roundg (ln - (j + 1))
              case measure => omega
              case rel => exact ⟨j + 1, _, by omega, rfl, rfl, by go_num, by rw [A6.out.2.1]; exact A7.out⟩
        · have hlt2' : ¬ (j : Int) < (ln : Int) := by omega
          have hje : j = ln := by omega
          have hI2 : O1 w2 wr N (TT s) now C (flat (PS.take (i + 1))) u10 := by
            rw [A3.out.2.2.2.1, ← A3.out.2.1]
            have ht : PS[i].2.take j = PS[i].2 := List.take_of_length_le (by rw [hje, A3.out.2.2.1]; exact Nat.le_refl _)
            have := hI.o1
            rw [ht] at this
            exact this
          have A4 := hide hI2
          clear hI hI2 hje
          go_wp2_with fail
          go_roundg (n - (i + 1))
          case measure => omega
          case rel => exact ⟨i + 1, _, by omega, rfl, rfl, by go_num, A4.out⟩
    · have hnlt : ¬ (i : Int) < (n : Int) := by omega
      have hie : i = n := by omega
      have hO1 : O1 w2 wr N (TT s) now C (flat PS) u10 := by
        rw [List.take_of_length_le (by rw [hie, A2.out.2.1]; exact Nat.le_refl _)] at hO
        exact hO
      obtain ⟨hP, hnP, hb2, hm2, hz2, hN⟩ := A2.out
      have t := hO1.ti hP.ti hb2 hN
      have hbo0 : bo < w.heap.size := hP.ti.stand.graph.1.lt
      have hn1 : ∀ c, W s = some c → c ≠ bo ∧ ∀ u, M u ≠ some c := fun c hc => ⟨(hP.ti.Wne s c hc).1, (hP.ti.Wne s c hc).2.2.2⟩
      have hn2 : ∀ c, some (N + 1) = some c → c ≠ bo ∧ ∀ u, M u ≠ some c := fun c hc => by
        cases hc
        exact ⟨by omega, fun u hu => by have := (hP.ti.stand.graph.2 u _ hu).lt; omega⟩
      obtain ⟨n3, w6, hrg, hR3⟩ := R3.start (tb := tb) t.stand (t.opt (s := s)) (Or.inr ⟨_, rfl, hO1.st⟩) t.tb_.c1 hn1 hn2 (-1)
      obtain ⟨Av, cpv, rfl, hcp1, hcp2, hAv⟩ := own_form hO1.own
      obtain ⟨L, hL⟩ : ∃ L, L = stf (TT s) C (flat PS) := ⟨_, rfl⟩
      obtain ⟨ll, hll⟩ : ∃ ll, ll = L.length := ⟨_, rfl⟩
      have hll0 : ll ≤ 1000 := by
        rw [hll, hL]
        have h1 : (stf (TT s) C (flat PS)).length ≤ (flat PS).length := List.length_filter_le _ _
        have := hP.few
        omega
      rw [← hL, ← hll] at hO1 hcp1 hAv
      obtain ⟨w5, rfl⟩ : ∃ w5, w5 = wr := ⟨_, rfl⟩
      obtain ⟨it, hit⟩ : ∃ it, it = w5.heap.size := ⟨_, rfl⟩
      rw [← hit] at hrg hR3
      rw [← hL, ← hll]
      have A3 := hide (And.intro hO1 (And.intro hR3 (And.intro hL (And.intro hll (And.intro hcp1 (And.intro hcp2 hAv))))))
      clear hO hO1 hie hP hnP hb2 hm2 hz2 hN t hn1 hn2 hR3 hL hll hit hcp1 hcp2 hAv hbo0
      go_wp2_with fail
      go_loopg [] n3 (fun m w3 => ∃ (M3 : Nat → Option Nat) (left : Nat × Nat → Bool), R3 w5 w3 bo tb (W s) (some (N + 1)) it (TT s) (tsf (TT s) now (flat PS)) (-1) C M M3 left m)
      case atStart => exact ⟨_, _, A3.out.2.1⟩
      case round =>
        obtain ⟨M3, left, hR⟩ := hrel
        rcases hR.next 0 with ⟨hl, hnx⟩ | ⟨u, x, z, w4, n', hu, hx, hlt, hnx, hen, hlk, hin, hout⟩
        · obtain ⟨hP, hnP, hb2, hm2, hz2, hN⟩ := A2.out
          have t := A3.out.1.ti hP.ti hb2 hN
          have hop : OptMap wr (W s) (TT s) := (t.opt (s := s)).kept (fun c hc => hR.stp.block c ((t.inner s c hc).lt) (hP.ti.Wne s c hc).1 (hP.ti.Wne s c hc).2.2.2)
          obtain ⟨n4, w7, hrg4, hR4⟩ := R3.start (tb := tb) hR.stand hR.m2 hop hR.tb_ hR.ne2 hR.ne1 1
          obtain ⟨w6, rfl⟩ : ∃ w6, w6 = wr := ⟨_, rfl⟩
          obtain ⟨it4, hit4⟩ : ∃ it4, it4 = w6.heap.size := ⟨_, rfl⟩
          rw [← hit4] at hrg4 hR4
          have A4 := hide (And.intro hR (And.intro hl hR4))
          clear hP hnP hb2 hm2 hz2 hN t hop hR4 hit4 hR hl
          go_wp2_with fail
          go_loopg [] n4 (fun m w3 => ∃ (M4 : Nat → Option Nat) (left4 : Nat × Nat → Bool), R3 w6 w3 bo tb (some (N + 1)) (W s) it4 (tsf (TT s) now (flat PS)) (TT s) 1 (cmod C (TT s) (tsf (TT s) now (flat PS)) (-1) left) M3 M4 left4 m)
          case atStart => exact ⟨_, _, A4.out.2.2⟩
          case round =>
            obtain ⟨M4, left4, hR⟩ := hrel
            rcases hR.next 0 with ⟨hl, hnx⟩ | ⟨u, x, z, w4, n', hu, hx, hlt, hnx, hen, hlk, hin, hout⟩
            · obtain ⟨hP, hnP, hb2, hm2, hz2, hN⟩ := A2.out
              have hS7 := hR.stand
              rw [cmod_both A4.out.2.1 hl] at hS7
              obtain ⟨htb0, w8, hup, hK5⟩ := store_waits hP.ti hN hb2 hs (v := .slice Av ll cpv) (X := flat PS) (now := now) (by
                have := A3.out.1
                rw [A3.out.2.2.2.1, A3.out.2.2.1] at this
                rw [A3.out.2.2.2.1, A3.out.2.2.1]
                exact this) (A4.out.1.stp.trans hR.stp) hS7
              rw [← A3.out.2.2.1] at hK5
              have A5 := hide hK5
              clear hP hnP hb2 hm2 hz2 hN hS7 hR hl hK5
              go_wp2_with fail
              have AL : Hid (∀ e ∈ L, e.1 < 8 ∧ e.2 < 8) := fun e he => by
                rw [A3.out.2.2.1] at he
                obtain ⟨i, hi, h1, h2⟩ := flat_mem (stf_one he).2
                have := A2.out.1.ps8 i hi
                obtain ⟨j, hj, h3⟩ := List.getElem_of_mem h2
                exact ⟨by rw [h1]; exact this.1, by rw [← h3]; exact this.2.2 j hj⟩
              go_loopg [122] ll (fun m s122 wq => ∃ k : Nat, k ≤ ll ∧ m = ll - k ∧ s122 = .int .i64 (k : Int) ∧ K5 w wq tb bw bo bk bs N M W M4 (put W s (N + 1)) (newC C (TT s) (flat PS)) (fun s' => if s' = s then tsf (TT s) now (flat PS) else TT s') cl (.slice Av ll cpv) L)
              case atStart => exact ⟨0, by omega, rfl, rfl, A5.out⟩
              case round =>
                obtain ⟨k, hk, hmk, rfl, hK5⟩ := hrel
                by_cases hkl : k < ll
                · have hkl' : (k : Int) < (ll : Int) := by omega
                  have hkL : k < L.length := by rw [← A3.out.2.2.2.1]; exact hkl
                  obtain ⟨g, cp', hv, _, _⟩ := hK5.own.form (by omega)
                  have hav : Av = some ⟨g, 0, none⟩ := by
                    have := A3.out.2.2.2.2.2.2 g (by rw [hv]; rfl)
                    exact this
                  clear hv
                  subst hav
                  have hrow : ERow wr g L := own_row (cap := cpv) (N := N + 2) (by
                    have := hK5.own
                    rw [A3.out.2.2.2.1] at this
                    exact this)
                  obtain ⟨hc0, hc1⟩ := hrow k hkL
                  have hb8 := AL.out L[k] (List.getElem_mem hkL)
                  obtain ⟨u, hu⟩ : ∃ u, u = L[k].1 := ⟨_, rfl⟩
                  obtain ⟨x, hx⟩ : ∃ x, x = L[k].2 := ⟨_, rfl⟩
                  rw [← hu] at hc0 hb8
                  rw [← hx] at hc1 hb8
                  clear hu hx hrow
                  obtain ⟨hu8, hx8⟩ := hb8
                  have hK6 := (hK5.alloc (.cells #[.string (nd u), .string (nd x)] 65)).drew
                  obtain ⟨w9, hup9, hK9, hcl9⟩ := hK6.mark (show u < 10 by omega) (show x < 10 by omega)
                  have htb3 := hK6.ti.tb_.c3
                  have he0 : (wr.alloc (.cells #[.string (nd u), .string (nd x)] 65)).drew.cell? ⟨wr.heap.size, 0, none⟩ = some (.string (nd u)) := by go_simp
                  have he1 : (wr.alloc (.cells #[.string (nd u), .string (nd x)] 65)).drew.cell? ⟨wr.heap.size, 1, none⟩ = some (.string (nd x)) := by go_simp
                  have htb3' := hcl9 _ _ htb3
                  have he0' := hcl9 _ _ he0
                  have he1' := hcl9 _ _ he1
                  obtain ⟨wa, hwa⟩ : ∃ wa, wa = wr.alloc (.cells #[.string (nd u), .string (nd x)] 65) := ⟨_, rfl⟩
                  obtain ⟨eb, heb⟩ : ∃ eb, eb = wr.heap.size := ⟨_, rfl⟩
                  rw [← hwa] at hup9 htb3 he0 he1
                  rw [← heb] at he0 he1 he0' he1'
                  have A6 := hide hK9
                  clear hK5 hK6 hK9 hcl9
                  go_wp2_with fail
                  rw [← hwa, ← heb]
                  clear hwa heb hc0 hc1
                  go_region_held3 (fun w' => w'.cell? ⟨tb, 3, none⟩ = some (.map (some bs)) ∧ w'.cell? ⟨eb, 0, none⟩ = some (.string (nd u)) ∧ w'.cell? ⟨eb, 1, none⟩ = some (.string (nd x)))
                    (first | exact ⟨htb3, he0, he1⟩ | exact ⟨htb3', he0', he1'⟩) (fail)
                  go_wp2_with fail
                  go_roundg (ll - (k + 1))
                  case measure => omega
                  case rel => exact ⟨k + 1, by omega, rfl, by go_num, A6.out⟩
                · have hkl' : ¬ (k : Int) < (ll : Int) := by omega
                  have A6 := hide hK5
                  clear hK5
                  go_wp2_with fail
                  by_cases hl0 : ll = 0
                  · subst hl0
                    refine (closings_nil _ Av cpv wr).mono ?_
                    rintro e w9 ⟨rfl, rfl⟩
                    go_wp2_with fail
                    go_end0
                    have hLn : L = [] := List.eq_nil_of_length_eq_zero A3.out.2.2.2.1.symm
                    refine ⟨rfl, M4, put W s (N + 1), _, 0, by simpa using A6.out.ti, A6.out.fr, fun e => ?_, fun s' hs' => by simp [hs'], ?_⟩
                    · simp only [if_true]
                      exact tsf_isSome _ _ _ _
                    · rw [← A3.out.2.2.1, hLn]
                      exact CI.start _ _
                  · obtain ⟨g, cp', hv, _, _⟩ := A6.out.own.form (by rw [← A3.out.2.2.2.1]; omega)
                    have hav : Av = some ⟨g, 0, none⟩ := A3.out.2.2.2.2.2.2 g (by rw [hv]; rfl)
                    clear hv
                    subst hav
                    have hK7 := A6.out
                    rw [A3.out.2.2.2.1] at hK7
                    have hclos := closings_some tb bw bo bk bs g cpv M4 (newC C (TT s) (flat PS)) cl L wr hK7.kc (by rw [← A3.out.2.2.2.1]; exact hll0) (by rw [← A3.out.2.2.2.1]; exact A3.out.2.2.2.2.1) A3.out.2.2.2.2.2.1 AL.out
                      (fun e he => by rw [A3.out.2.2.1] at he; exact (stf_one he).1) (by rw [A3.out.2.2.1]; exact (flat_sorted PS A2.out.1.sorted).sublist List.filter_sublist) (newC_bnd A2.out.1.cb) (by have := A2.out.1.clb; omega)
                    rw [← A3.out.2.2.2.1] at hclos
                    refine hclos.mono ?_
                    rintro e w9 ⟨rfl, M9, d, hKC, hCI⟩
                    have A7 := hide (And.intro hKC hCI)
                    clear hclos hK7 hKC hCI
                    go_wp2_with fail
                    go_end0
                    obtain ⟨ht9, hf9⟩ := A6.out.done A7.out.1
                    refine ⟨rfl, M9, put W s (N + 1), _, d, ht9, hf9, fun e => ?_, fun s' hs' => by simp [hs'], ?_⟩
                    · simp only [if_true]
                      exact tsf_isSome _ _ _ _
                    · rw [← A3.out.2.2.1]
                      exact A7.out.2
            · cases hT : (TT s (u, x)).isSome with
              | false =>
                obtain ⟨hS, htb, hK⟩ := hout hT
                rw [hT] at hlk
                have A5 := hide (And.intro hS (And.intro htb hK))
                clear hR hin hout hS htb hK hT
                go_wp2_with fail
                have hbd := cmod_bnd (T1 := tsf (TT s) now (flat PS)) (T2 := TT s) (k := 1) (left := left4) (C := cmod C (TT s) (tsf (TT s) now (flat PS)) (-1) left) (fun u v => by
                  have h1 := A2.out.1.cb u v
                  unfold cmod
                  split <;> omega) (by omega) u x
                refine (count_any tb bo u x 1 M4 _ _ (by omega) (by omega) A5.out.1 A5.out.2.1 (by omega) (by omega) (by omega) (by omega)).mono ?_
                rintro e w9 ⟨rfl, M9, hS9, hst9⟩
                have A6 := hide (A5.out.2.2 w9 M9 hS9 hst9)
                clear hS9 hst9
                go_wp2_with fail
                go_roundg n'
                case measure => omega
                case rel => exact ⟨M9, _, A6.out⟩
              | true =>
                rw [hT] at hlk
                have A5 := hide (hin hT)
                clear hR hin hout hT
                go_wp2_with fail
                go_roundg n'
                case measure => omega
                case rel => exact ⟨M4, _, A5.out⟩
        · cases hT : (tsf (TT s) now (flat PS) (u, x)).isSome with
          | false =>
            obtain ⟨hS, htb, hK⟩ := hout hT
            rw [hT] at hlk
            have A4 := hide (And.intro hS (And.intro htb hK))
            clear hR hin hout hS htb hK hT
            go_wp2_with fail
            have hbd := cmod_bnd (T1 := TT s) (T2 := tsf (TT s) now (flat PS)) (k := -1) (left := left) (C := C) (fun u v => by have := A2.out.1.cb u v; omega) (by omega) u x
            refine (count_any tb bo u x (-1) M3 _ _ (by omega) (by omega) A4.out.1 A4.out.2.1 (by omega) (by omega) (by omega) (by omega)).mono ?_
            rintro e w9 ⟨rfl, M9, hS9, hst9⟩
            have A5 := hide (A4.out.2.2 w9 M9 hS9 hst9)
            clear hS9 hst9
            go_wp2_with fail
            go_roundg n'
            case measure => omega
            case rel => exact ⟨M9, _, A5.out⟩
          | true =>
            rw [hT] at hlk
            have A4 := hide (hin hT)
            clear hR hin hout hT
            go_wp2_with fail
            go_roundg n'
            case measure => omega
            case rel => exact ⟨M3, _, A4.out⟩

end Go.Proofs.Qxb6003670a.st
