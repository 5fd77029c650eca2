/-
  THE WALK OF zzCyclic.
-/
import Derived.Test.Qxb6003670aCyc
namespace Go.Proofs.Qxb6003670a.st
open Go.RowKit
open Go.Proofs.Qxb6003670a.sm Go.Proofs.Qxb6003670a.mp Go.Proofs.Qxb6003670a.pl Go.Proofs.Qxb6003670a.rc
attribute [local go_sem ↓] Go.wp_at_zero Go.wp_at_succ

/-- What zzCyclic keeps. -/
structure CY (w wr : World) (N : Nat) (a : Nat → Nat → Bool) (k i j : Nat) : Prop where
  ex : ∃ r, B8 wr (N + 1) r ∧ WI a r k i j
  below : Below N w wr

def CycPost (w : World) (a : Nat → Nat → Bool) (e : Ending) (w' : World) : Prop := ∃ b, e = .returned (.bool b) ∧ (b = true ↔ Cyc (WA a)) ∧ Below w.heap.size w w'

set_option maxRecDepth 20000 in
set_option maxHeartbeats 4000000 in
theorem cyclic_any (a : Nat → Nat → Bool) (w : World) (T : Array Value) (hT : T = Bl8 a) : Calls Try.prog 30 #[.agg T] w (CycPost w a) := by
  have hz49 := zero49
  have hTi : (Try.prog.info? 49).map (·.size) = some T.size := by rw [hT, Bl8_size]; exact info49
  have hTs : ZB64.size = T.size := by rw [hT, Bl8_size]; rfl
  have hT1 : T.all (·.oneCell') = true := by rw [hT]; exact Bl8_one _
  have hg1 : (w.alloc (.cells T 49)).heap[w.heap.size]? = some (.cells T 49 (0, 0)) := heap_alloc_last w _
  have hg2 : ((w.alloc (.cells T 49)).alloc (.cells ZB64 49)).heap[w.heap.size + 1]? = some (.cells ZB64 49 (0, 0)) := by
    have := heap_alloc_last (w.alloc (.cells T 49)) (.cells ZB64 49)
    rw [show (w.alloc (.cells T 49)).heap.size = w.heap.size + 1 by simp] at this
    exact this
  have hset : ((w.alloc (.cells T 49)).alloc (.cells ZB64 49)).setRow (w.heap.size + 1) T = (w.alloc (.cells T 49)).alloc (.cells T 49) := by
    have := World.setRow_alloc_new (w.alloc (.cells T 49)) ZB64 T 49
    rw [show (w.alloc (.cells T 49)).heap.size = w.heap.size + 1 by simp] at this
    exact this
  have hC : CY w ((w.alloc (.cells T 49)).alloc (.cells T 49)) w.heap.size a 0 0 0 := by
    refine ⟨⟨a, ?_, WI.start a⟩, ((Below.refl _ _).alloc (Nat.le_refl _) _).alloc (by simp) _⟩
    have := heap_alloc_last (w.alloc (.cells T 49)) (.cells T 49)
    rw [show (w.alloc (.cells T 49)).heap.size = w.heap.size + 1 by simp] at this
    rw [hT] at this ⊢
    exact B8.of_block this
  have HT := hide (And.intro hg1 (And.intro hg2 (And.intro hTi (And.intro hTs (And.intro hT1 (And.intro hset hC))))))
  clear hT hTi hTs hT1 hg1 hg2 hset hC
  go_enter Try.func30, Try.ntmps30
  go_wp2_with (first | refine wpList_load_row rfl 49 _ rfl w.heap.size rfl 49 T (0, 0) _ HT.out.1 Try.underlying49 rfl HT.out.2.2.1 ?_ | refine wpList_store_row rfl 49 _ _ rfl (w.heap.size + 1) T rfl rfl 49 ZB64 HT.out.2.1 HT.out.2.2.1 HT.out.2.2.2.1 HT.out.2.2.2.2.1 ?_)
  rw [HT.out.2.2.2.2.2.1]
  obtain ⟨w2, hw2⟩ : ∃ w2, w2 = (w.alloc (.cells T 49)).alloc (.cells T 49) := ⟨_, rfl⟩
  obtain ⟨N, hN⟩ : ∃ N, N = w.heap.size := ⟨_, rfl⟩
  have A0 : Hid (CY w w2 N a 0 0 0 ∧ N = w.heap.size) := by rw [hw2, hN]; exact ⟨HT.out.2.2.2.2.2.2, rfl⟩
  rw [← hw2, ← hN]
  clear hw2 hN HT hz49
  go_loopg [4] 8 (fun m s4 wr => ∃ k : Nat, k ≤ 8 ∧ m = 8 - k ∧ s4 = .int .i64 (k : Int) ∧ CY w wr N a k 0 0)
  case atStart => exact ⟨0, by omega, rfl, rfl, A0.out.1⟩
  case round =>
    obtain ⟨k, hk, hm, rfl, hC⟩ := hrel
    by_cases hlt : k < 8
    · have hlt' : (k : Int) < 8 := by omega
      have A1 := hide hC
      clear hC
      go_wp2_with fail
      go_loopg [5] 8 (fun m s5 wr => ∃ i : Nat, i ≤ 8 ∧ m = 8 - i ∧ s5 = .int .i64 (i : Int) ∧ CY w wr N a k i 0)
      case atStart => exact ⟨0, by omega, rfl, rfl, A1.out⟩
      case round =>
        obtain ⟨i, hi, hmi, rfl, hC⟩ := hrel
        by_cases hlti : i < 8
        · have hlti' : (i : Int) < 8 := by omega
          have A2 := hide hC
          clear hC
          go_wp2_with fail
          go_loopg [6] 8 (fun m s6 wr => ∃ j : Nat, j ≤ 8 ∧ m = 8 - j ∧ s6 = .int .i64 (j : Int) ∧ CY w wr N a k i j)
          case atStart => exact ⟨0, by omega, rfl, rfl, A2.out⟩
          case round =>
            obtain ⟨j, hj, hmj, rfl, hC⟩ := hrel
            by_cases hltj : j < 8
            · have hltj' : (j : Int) < 8 := by omega
              obtain ⟨⟨r, hB, hW⟩, hbl⟩ := hC
              have c1 := hB.cell hlti hlt
              have c2 := hB.cell hlt hltj
              have c3 := hB.cell hlti hltj
              have hfz := World.rowIs.frozen hB (i * 8 + j)
              cases h1 : r i k with
              | false =>
                rw [h1] at c1
                have hW' := hW.miss hlti hltj hlt (fun h _ => by rw [h1] at h; cases h)
                have A3 := hide (And.intro hB (And.intro hW' hbl))
                clear hB hW hW' hbl h1 c2 c3
                go_wp2_with fail
                go_roundg (8 - (j + 1))
                case measure => omega
                case rel => exact ⟨j + 1, by omega, rfl, by go_num, ⟨⟨r, A3.out.1, A3.out.2.1⟩, A3.out.2.2⟩⟩
              | true =>
                rw [h1] at c1
                cases h2 : r k j with
                | false =>
                  rw [h2] at c2
                  have hW' := hW.miss hlti hltj hlt (fun _ h => by rw [h2] at h; cases h)
                  have A3 := hide (And.intro hB (And.intro hW' hbl))
                  clear hB hW hW' hbl h1 h2 c3
                  go_wp2_with fail
                  go_roundg (8 - (j + 1))
                  case measure => omega
                  case rel => exact ⟨j + 1, by omega, rfl, by go_num, ⟨⟨r, A3.out.1, A3.out.2.1⟩, A3.out.2.2⟩⟩
                | true =>
                  rw [h2] at c2
                  have hW' := hW.hit hlti hltj hlt h1 h2
                  have A3 := hide (And.intro hB (And.intro hW' hbl))
                  clear hB hW hW' hbl h1 h2
                  go_wp2_with fail
                  go_roundg (8 - (j + 1))
                  case measure => omega
                  case rel => exact ⟨j + 1, by omega, rfl, by go_num, ⟨⟨_, A3.out.1.set hltj, A3.out.2.1⟩, A3.out.2.2.setCell (by show N ≤ N + 1; omega) _⟩⟩
            · have hj8 : j = 8 := by omega
              have hnj : ¬ (j : Int) < 8 := by omega
              rw [hj8] at hC
              have A3 := hide hC
              clear hC hj8
              go_wp2_with fail
              go_roundg (8 - (i + 1))
              case measure => omega
              case rel =>
                obtain ⟨⟨r, hB, hW⟩, hbl⟩ := A3.out
                exact ⟨i + 1, by omega, rfl, by go_num, ⟨⟨r, hB, hW.row⟩, hbl⟩⟩
        · have hi8 : i = 8 := by omega
          have hni : ¬ (i : Int) < 8 := by omega
          rw [hi8] at hC
          have A2 := hide hC
          clear hC hi8
          go_wp2_with fail
          go_roundg (8 - (k + 1))
          case measure => omega
          case rel =>
            obtain ⟨⟨r, hB, hW⟩, hbl⟩ := A2.out
            exact ⟨k + 1, by omega, rfl, by go_num, ⟨⟨r, hB, hW.phase⟩, hbl⟩⟩
    · have hk8 : k = 8 := by omega
      have hnk : ¬ (k : Int) < 8 := by omega
      rw [hk8] at hC
      obtain ⟨⟨r, hB, hW⟩, hbl⟩ := hC
      have hdone := hW.done
      obtain ⟨w5, rfl⟩ : ∃ w5, w5 = wr := ⟨_, rfl⟩
      have A1 := hide (And.intro hB (And.intro hdone hbl))
      clear hB hW hbl hdone hk8 hk hm
      go_wp2_with fail
      go_loopg [7] 8 (fun m s7 wr => ∃ x : Nat, x ≤ 8 ∧ m = 8 - x ∧ s7 = .int .i64 (x : Int) ∧ wr = w5 ∧ ∀ y, y < x → r y y = false)
      case atStart => exact ⟨0, by omega, rfl, rfl, rfl, fun y hy => by omega⟩
      case round =>
        obtain ⟨x, hx, hmx, rfl, rfl, hno⟩ := hrel
        by_cases hltx : x < 8
        · have hltx' : (x : Int) < 8 := by omega
          have c1 := A1.out.1.cell hltx hltx
          cases h1 : r x x with
          | true =>
            rw [h1] at c1
            have H1 := hide h1
            clear h1 hno
            go_wp2_with fail
            go_ret
            unfold CycPost
            exact ⟨true, rfl, ⟨fun _ => A1.out.2.1.1 ⟨x, hltx, H1.out⟩, fun _ => rfl⟩, by rw [← A0.out.2]; exact A1.out.2.2⟩
          | false =>
            rw [h1] at c1
            have H1 := hide (And.intro h1 hno)
            clear h1 hno
            go_wp2_with fail
            go_roundg (8 - (x + 1))
            case measure => omega
            case rel =>
              refine ⟨x + 1, by omega, rfl, by go_num, rfl, fun y hy => ?_⟩
              by_cases e : y = x
              · rw [e]; exact H1.out.1
              · exact H1.out.2 y (by omega)
        · have hnx : ¬ (x : Int) < 8 := by omega
          have hx8 : x = 8 := by omega
          have H1 := hide (And.intro hno hx8)
          clear hno hx8
          go_wp2_with fail
          go_ret
          unfold CycPost
          refine ⟨false, rfl, ⟨fun h => (by cases h), fun h => ?_⟩, by rw [← A0.out.2]; exact A1.out.2.2⟩
          obtain ⟨y, hy, hr⟩ := A1.out.2.1.2 h
          rw [H1.out.1 y (by rw [H1.out.2]; exact hy)] at hr
          cases hr

end Go.Proofs.Qxb6003670a.st
