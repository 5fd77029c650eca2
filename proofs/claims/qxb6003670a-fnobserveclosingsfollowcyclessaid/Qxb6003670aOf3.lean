/-
  zzSetOf.
-/
import Derived.Test.Qxb6003670aOf2
import Derived.Test.Qxb6003670aGraph
import Derived.Deep.RegionHeld3
namespace Go.Proofs.Qxb6003670a.st
open Go.RowKit
open Go.Proofs.Qxb6003670a.sm Go.Proofs.Qxb6003670a.mp Go.Proofs.Qxb6003670a.pl Go.Proofs.Qxb6003670a.rc
attribute [local go_sem ↓] Go.wp_at_zero Go.wp_at_succ

/-- The edge that byte i says. -/
def eg (f : Nat → Int) (i : Nat) : Nat × Nat := ((f i % 8).toNat, (f i / 8 % 8).toNat)
/-- The first n edges. -/
def egs (f : Nat → Int) (n : Nat) : List (Nat × Nat) := (List.range n).map (eg f)
theorem egs_succ (f : Nat → Int) (n : Nat) : egs f (n + 1) = egs f n ++ [eg f n] := by simp [egs, List.range_succ]
theorem eg_lt (f : Nat → Int) (i : Nat) : (eg f i).1 < 8 ∧ (eg f i).2 < 8 := by unfold eg; simp only; omega

/-- The bit at a. -/
def bitAt (w : World) (a : Addr) : Bool := match w.cell? a with | some (.bool b) => b | _ => false
theorem bitAt_of {w : World} {a : Addr} {b : Bool} (h : w.cell? a = some (.bool b)) : w.cell? a = some (.bool (bitAt w a)) := by unfold bitAt; rw [h]

def setOf (f : Nat → Int) (n : Nat) (x y : Nat) : Bool := decide ((x, y) ∈ egs f n)
theorem setOf_step (f : Nat → Int) (n x y : Nat) : mark8 (setOf f n) (eg f n).1 (eg f n).2 x y = setOf f (n + 1) x y := by
  unfold mark8 setOf
  rw [egs_succ, Bool.eq_iff_iff]
  simp only [Bool.or_eq_true, Bool.and_eq_true, decide_eq_true_iff, List.mem_append, List.mem_singleton]
  constructor
  · rintro (h | ⟨h1, h2⟩)
    · exact Or.inl h
    · exact Or.inr (by rw [h1, h2])
  · rintro (h | h)
    · exact Or.inl h
    · exact Or.inr ⟨by rw [← h], by rw [← h]⟩

set_option maxRecDepth 20000 in
set_option maxHeartbeats 4000000 in
theorem setof_any (a : Option Addr) (len cap : Nat) (f : Nat → Int) (w : World) (hl : len ≤ 1000) (hs : Src 22 .u8 w a len cap f) (hf : ∀ i, 0 ≤ f i ∧ f i < 256) :
    Calls Try.prog 22 #[.slice a len cap] w fun e w' => e = .returned (.agg (Bl8 (setOf f len))) ∧ Below w.heap.size w w' := by
  have hz49 := zero49
  have hU : US w ((w.alloc (.cells ZB64 49)).alloc (.cells ZB64 49)) w.heap.size (setOf f 0) := by
    refine ⟨?_, ?_, ((Below.refl _ _).alloc (Nat.le_refl _) _).alloc (by simp) _⟩
    · have := zb64 (w.alloc (.cells ZB64 49))
      rw [show (w.alloc (.cells ZB64 49)).heap.size = w.heap.size + 1 by simp] at this
      exact this.congr (fun x y _ _ => by simp [setOf, egs])
    · rw [heap_alloc_old _ _ (by simp)]
      exact heap_alloc_last w _
  obtain ⟨sb, off, hix, hce⟩ := hs
  have HC := hide (And.intro hce (And.intro hU hf))
  clear hce hU hf
  go_enter Try.func22, Try.ntmps22
  go_wp2_with fail
  obtain ⟨w2, hw2⟩ : ∃ w2, w2 = (w.alloc (.cells ZB64 49)).alloc (.cells ZB64 49) := ⟨_, rfl⟩
  obtain ⟨N, hN⟩ : ∃ N, N = w.heap.size := ⟨_, rfl⟩
  have A0 : Hid ((∀ i, i < len → w.cell? ⟨sb, off + i, none⟩ = some (.int .u8 (f i))) ∧ US w w2 N (setOf f 0) ∧ N = w.heap.size ∧ ∀ i, 0 ≤ f i ∧ f i < 256) := by rw [hw2, hN]; exact ⟨HC.out.1, HC.out.2.1, rfl, HC.out.2.2⟩
  rw [← hw2, ← hN]
  clear hw2 hN HC hz49
  go_loopg [8] len (fun m s8 wr => ∃ i : Nat, i ≤ len ∧ m = len - i ∧ s8 = .int .i64 (i : Int) ∧ US w wr N (setOf f i))
  case atStart => exact ⟨0, by omega, rfl, rfl, A0.out.2.1⟩
  case round =>
    obtain ⟨i, hi, hm, rfl, hU⟩ := hrel
    by_cases hlt : i < len
    · have hlt' : (i : Int) < (len : Int) := by omega
      have hx := hix wr i hlt
      have hcs := A0.out.1 i hlt
      have hsl : sb < N := by rw [A0.out.2.2.1]; exact World.block_lt_of_cell? _ _ hcs
      have hc : wr.cell? ⟨sb, off + i, none⟩ = some (.int .u8 (f i)) := (World.cell?_of_block (w := w) (a := ⟨sb, off + i, none⟩) (hU.below.block sb hsl)).trans hcs
      obtain ⟨hf0, hf1⟩ := A0.out.2.2.2 i
      obtain ⟨u, hu⟩ : ∃ u : Nat, f i % 8 = (u : Int) := ⟨(f i % 8).toNat, by omega⟩
      obtain ⟨v, hv⟩ : ∃ v : Nat, f i / 8 % 8 = (v : Int) := ⟨(f i / 8 % 8).toNat, by omega⟩
      have hu8 : u < 8 := by omega
      have hv8 : v < 8 := by omega
      have hu8' : (u : Int) < 8 := by omega
      have hv8' : (v : Int) < 8 := by omega
      have he : eg f i = (u, v) := by unfold eg; rw [hu, hv]; rfl
      have hcb := bitAt_of (hU.tab.cell hu8 hv8)
      have hfz := World.rowIs.frozen hU.tab (u * 8 + v)
      have hcb' : (wr.setCell ⟨N + 1, u * 8 + v, none⟩ (.bool true)).drew.cell? ⟨N + 1, u * 8 + v, none⟩ = some (.bool (bitAt (wr.setCell ⟨N + 1, u * 8 + v, none⟩ (.bool true)).drew ⟨N + 1, u * 8 + v, none⟩)) := bitAt_of (w := (wr.setCell ⟨N + 1, u * 8 + v, none⟩ (.bool true)).drew) ((hU.tab.set (p := u) hv8).cell hu8 hv8)
      have hfz' : (wr.setCell ⟨N + 1, u * 8 + v, none⟩ (.bool true)).drew.frozen? ⟨N + 1, u * 8 + v, none⟩ = false := World.rowIs.frozen (hU.tab.set (p := u) hv8) (u * 8 + v)
      have HS := hide (And.intro hcb' hfz')
      clear hcb' hfz'
      have HU := hide (And.intro hu hv)
      have A1 := hide (And.intro hU he)
      clear hU he hu hv hcs
      go_wp2_with fail
      obtain ⟨fi, hfi⟩ : ∃ fi, fi = f i := ⟨_, rfl⟩
      rw [← hfi] at hf0 hf1 HU
      rw [← hfi]
      clear hx hc hix hfi
      go_region_held3 (fun w' => w'.cell? ⟨N + 1, u * 8 + v, none⟩ = some (.bool (bitAt w' ⟨N + 1, u * 8 + v, none⟩)) ∧ w'.frozen? ⟨N + 1, u * 8 + v, none⟩ = false)
        (first | exact ⟨hcb, hfz⟩ | exact HS.out | assumption)
        (first
          | (go_at_call 11; refine (from_n _ u hf0 hf1 HU.out.1 _).mono ?_; rintro e w' ⟨rfl, hwx⟩; subst hwx)
          | (go_at_call 12; refine (to_n _ v hf0 hf1 HU.out.2 _).mono ?_; rintro e w' ⟨rfl, hwx⟩; subst hwx))
      go_wp2_with fail
      go_roundg (len - (i + 1))
      case measure => omega
      case rel =>
        refine ⟨i + 1, by omega, rfl, by go_num, ?_⟩
        have hk := A1.out.1.set (p := u) hv8
        have hk2 : US w (wr.setCell ⟨N + 1, u * 8 + v, none⟩ (.bool true)).drew N (mark8 (setOf f i) u v) := ⟨hk.tab, hk.res, hk.below.drew⟩
        exact hk2.congr (fun x y _ _ => by rw [← setOf_step, A1.out.2])
    · have hnlt : ¬ (i : Int) < (len : Int) := by omega
      have hie : i = len := by omega
      rw [hie] at hU
      have A1 := hide hU
      clear hU hie hi hm
      obtain ⟨T, hT⟩ : ∃ T, T = Bl8 (setOf f len) := ⟨_, rfl⟩
      have hg : wr.heap[N + 1]? = some (.cells T 49 (0, 0)) := by rw [hT]; exact A1.out.tab.whole
      have hg0 := A1.out.res
      have hi : (Try.prog.info? 49).map (·.size) = some T.size := by rw [hT, Bl8_size]; exact info49
      have hTs : ZB64.size = T.size := by rw [hT, Bl8_size]; rfl
      have hT1 : T.all (·.oneCell') = true := by rw [hT]; exact Bl8_one _
      have HT := hide (And.intro hT (And.intro hg (And.intro hg0 (And.intro hi (And.intro hTs hT1)))))
      clear hT hg hg0 hi hTs hT1
      go_wp2_with (first | refine wpList_load_row rfl 49 _ rfl (N + 1) rfl 49 T (0, 0) _ HT.out.2.1 Try.underlying49 rfl HT.out.2.2.2.1 ?_ | refine wpList_store_row rfl 49 _ _ rfl N T rfl rfl 49 ZB64 HT.out.2.2.1 HT.out.2.2.2.1 HT.out.2.2.2.2.1 HT.out.2.2.2.2.2 ?_)
      refine bodyPost_ret (v := .agg T) (results_cell_row rfl _ _ N 49 T (0, 0) _ rfl (setRow_heap wr N ZB64 T 49 (0, 0) HT.out.2.2.1) Try.underlying49 rfl HT.out.2.2.2.1) rfl ⟨by rw [HT.out.1], ?_⟩
      exact below_setRow A1.out.below (by rw [A0.out.2.2.1]; exact Nat.le_refl _) (by rw [A0.out.2.2.1]; exact Nat.le_refl _) T

end Go.Proofs.Qxb6003670a.st
