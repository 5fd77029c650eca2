/-
  zzCloneSnaps.
-/
import Derived.Test.Qxb6003670aOf5
namespace Go.Proofs.Qxb6003670a.st
open Go.RowKit
open Go.Proofs.Qxb6003670a.sm Go.Proofs.Qxb6003670a.mp Go.Proofs.Qxb6003670a.pl Go.Proofs.Qxb6003670a.rc
attribute [local go_sem ↓] Go.wp_at_zero Go.wp_at_succ

theorem arr_src {t : TypeId} {N : Nat} {k : IntKind} {w : World} {a : Option Addr} {len cap : Nat} {f : Nat → Int} (h : Arr t N k w a len cap f) : Src t k w a len cap f := by
  obtain ⟨g, h1, h2, h3⟩ := h
  exact ⟨g, 0, fun wx i hi => by rw [Nat.zero_add]; exact h1 wx i hi, fun i hi => by rw [Nat.zero_add]; exact h3 i hi⟩
theorem arr_mono {t : TypeId} {N N' : Nat} {k : IntKind} {w : World} {a : Option Addr} {len cap : Nat} {f : Nat → Int} (h : Arr t N k w a len cap f) (hN : N' ≤ N) : Arr t N' k w a len cap f := by
  obtain ⟨g, h1, h2, h3⟩ := h
  exact ⟨g, h1, fun hl => ⟨by have := (h2 hl).1; omega, (h2 hl).2⟩, h3⟩
theorem arr_set {t : TypeId} {N : Nat} {k : IntKind} {w : World} {a : Option Addr} {len cap : Nat} {f : Nat → Int} (h : Arr t N k w a len cap f) {R j : Nat} (hR : R < N) (v : Value) : Arr t N k (w.setCell ⟨R, j, none⟩ v) a len cap f := by
  obtain ⟨g, h1, h2, h3⟩ := h
  refine ⟨g, h1, fun hl => ⟨(h2 hl).1, by have := (h2 hl).2; simpa [World.setCell] using this⟩, fun i hi => ?_⟩
  have := (h2 (by omega)).1
  exact (World.cell?_of_block (w := w) (a := ⟨g, i, none⟩) (Below.heap_setCell w ⟨R, j, none⟩ v g (by show g ≠ R; omega))).trans (h3 i hi)

theorem info22 : (Try.prog.info? 22).map (fun i => (i.zero, i.size, i.bytes)) = some (some (.slice none 0 0), 1, 24) := by kernel_rfl

def upd {α : Type} (g : Nat → α) (j : Nat) (x : α) (i : Nat) : α := if i = j then x else g i

set_option maxRecDepth 20000 in
set_option maxHeartbeats 2000000 in
theorem clonesnaps_some (x : Addr) (len cap : Nat) (A : Nat → Option Addr) (L K : Nat → Nat) (f : Nat → Nat → Int) (w : World) (hl : len ≤ 64) (hs : SrcR w (some x) len cap A L K)
    (hL : ∀ i, i < len → L i ≤ 64) (hn : ∀ i, i < len → A i = none → L i = 0 ∧ K i = 0) (hr : ∀ i, i < len → Src 22 .u8 w (A i) (L i) (K i) (f i)) :
    Calls Try.prog 21 #[.slice (some x) len cap] w fun e w' => ∃ B c, e = .returned (.slice B len c) ∧ Below w.heap.size w w' ∧ ∃ A' K', SrcR w' B len c A' L K' ∧ ∀ i, i < len → Src 22 .u8 w' (A' i) (L i) (K' i) (f i) := by
  obtain ⟨b, off, hix, hce⟩ := hs
  have hmk := run_make_row' (P := Try.prog) 45 22 (.slice none 0 0) 24 Try.underlying45 info22 rfl .i64 .i64 len (by omega) (by omega)
  have hnil := fun wx => Lib.run_eql_slice_nil (P := Try.prog) wx 45 22 (some x) len cap 0 0 Try.underlying45
  have H := hide (And.intro hce (And.intro hL (And.intro hn hr)))
  clear hce hL hn hr
  go_enter Try.func21, Try.ntmps21
  go_wp2_with fail
  go_loopg [4] len (fun n s wr => ∃ (j : Nat) (A' : Nat → Option Addr) (K' : Nat → Nat), j ≤ len ∧ n = len - j ∧ s = .int .i64 (j : Int) ∧ Below w.heap.size w wr ∧ wr.rowIs w.heap.size 22 len (fun i => if i < j then .slice (A' i) (L i) (K' i) else .slice none 0 0) ∧ ∀ i, i < j → Arr 22 (w.heap.size + 1) .u8 wr (A' i) (L i) (K' i) (f i))
  case atStart => exact ⟨0, fun _ => none, fun _ => 0, Nat.zero_le _, by omega, rfl, (Below.refl _ _).alloc (Nat.le_refl _) _, (World.rowIs_made w _ len 22).congr (fun i _ => by simp), fun i hi => by omega⟩
  case round =>
    obtain ⟨j, A', K', hj, hm, rfl, hb, hr, hrows⟩ := hrel
    by_cases hlt : j < len
    · have hlt' : (j : Int) < (len : Int) := by omega
      have hx := hix wr j hlt
      have hb0 : b < w.heap.size := World.block_lt_of_cell? _ _ (H.out.1 j hlt)
      have hc : wr.cell? ⟨b, off + j, none⟩ = some (.slice (A j) (L j) (K j)) := (hb.cell hb0).trans (H.out.1 j hlt)
      have hsz := World.rowIs.lt hr
      have hsrc : Src 22 .u8 wr (A j) (L j) (K j) (f j) := by
        obtain ⟨sb, so, s1, s2⟩ := H.out.2.2.2 j hlt
        exact ⟨sb, so, s1, fun i hi => (hb.cell (World.block_lt_of_cell? _ _ (s2 i hi))).trans (s2 i hi)⟩
      have A1 := hide (And.intro hb (And.intro hr (And.intro hrows hsrc)))
      obtain ⟨l, hl'⟩ : ∃ l, l = L j := ⟨_, rfl⟩
      have hl64 : l ≤ 64 := by rw [hl']; exact H.out.2.1 j hlt
      rw [← hl'] at hc
      have HL := hide hl'
      clear hb hr hrows hsrc hl'
      go_wp2_with fail
      refine (clone8_any (A j) l (K j) (f j) _ (by omega) (by rw [HL.out]; exact H.out.2.2.1 j hlt) (by rw [HL.out]; exact A1.out.2.2.2)).mono ?_
      rintro e w5 ⟨A5, c5, rfl, hb5, hA5⟩
      have hr5 := World.rowIs.of_block A1.out.2.1 (hb5.block _ hsz)
      obtain ⟨v0, hd⟩ : ∃ v, w5.cell? ⟨w.heap.size, j, none⟩ = some v := ⟨_, hr5.cell hlt⟩
      have hfz := hr5.frozen j
      have hbw : Below w.heap.size w w5 := A1.out.1.trans (hb5.mono (by omega))
      have A2 := hide (And.intro hr5 (And.intro hbw (And.intro hb5 hA5)))
      clear hr5 hbw hb5 hA5 hx hc
      go_wp2_with fail
      go_roundg (len - (j + 1))
      case measure => omega
      case rel =>
        obtain ⟨hr5, hbw, hb5, hA5⟩ := A2.out
        refine ⟨j + 1, upd A' j A5, upd K' j c5, by omega, rfl, by go_num, hbw.setCell (Nat.le_refl _) _, (hr5.set j _).congr (fun i hi => ?_), fun i hi => ?_⟩
        · unfold upd
          by_cases e : i = j
          · subst e; rw [HL.out]; simp
          · by_cases h2 : i < j
            · have h3 : i < j + 1 := by omega
              simp [e, h2, h3]
            · have h3 : ¬ i < j + 1 := by omega
              simp [e, h2, h3]
        · unfold upd
          by_cases e : i = j
          · subst e
            rw [if_pos rfl, if_pos rfl, ← HL.out]
            exact arr_set (arr_mono hA5 (by omega)) (by omega) _
          · rw [if_neg e, if_neg e]
            exact arr_set ((A1.out.2.2.1 i (by omega)).below hb5) (by omega) _
    · have hnlt : ¬ (j : Int) < (len : Int) := by omega
      have hje : j = len := by omega
      have A1 := hide (And.intro hb (And.intro hr (And.intro hrows hje)))
      clear hb hr hrows hje
      go_wp2_with fail
      go_ret
      obtain ⟨hb, hr, hrows, rfl⟩ := A1.out
      refine ⟨_, _, rfl, hb, A', K', ⟨w.heap.size, 0, fun wx i hi => ?_, fun i hi => ?_⟩, fun i hi => arr_src (hrows i hi)⟩
      · have e : Try.prog.elem 45 = 22 := by simp [Program.elem, Try.underlying45]
        have hz : (sizeOf 22).run Try.prog wx = .ok 1 wx := by kernel_rfl
        rw [run_indexAt_slice wx 45 _ _ _ .i64 (i : Int) (by rw [e]; exact Try.underlying45), if_pos ⟨by omega, by omega⟩, e, hz]
        simp only [Result.andThen_ok, Int.toNat_natCast, Addr.add_mid, Nat.zero_add, Nat.mul_one]
      · rw [Nat.zero_add]
        have := hr.cell hi
        rw [this]
        simp [hi]

theorem clonesnaps_any (a : Option Addr) (len cap : Nat) (A : Nat → Option Addr) (L K : Nat → Nat) (f : Nat → Nat → Int) (w : World) (hl : len ≤ 64) (hna : a = none → len = 0 ∧ cap = 0) (hs : SrcR w a len cap A L K)
    (hL : ∀ i, i < len → L i ≤ 64) (hn : ∀ i, i < len → A i = none → L i = 0 ∧ K i = 0) (hr : ∀ i, i < len → Src 22 .u8 w (A i) (L i) (K i) (f i)) :
    Calls Try.prog 21 #[.slice a len cap] w fun e w' => ∃ B c, e = .returned (.slice B len c) ∧ Below w.heap.size w w' ∧ ∃ A' K', SrcR w' B len c A' L K' ∧ ∀ i, i < len → Src 22 .u8 w' (A' i) (L i) (K' i) (f i) := by
  cases a with
  | some x => exact clonesnaps_some x len cap A L K f w hl hs hL hn hr
  | none =>
    obtain ⟨rfl, rfl⟩ := hna rfl
    have hnil := fun wx => Lib.run_eql_slice_nil (P := Try.prog) wx 45 22 none 0 0 0 0 Try.underlying45
    clear hs hL hn hr
    go_enter Try.func21, Try.ntmps21
    go_wp2_with fail
    go_ret
    refine ⟨none, 0, rfl, Below.refl _ _, ?_⟩
    first | exact ⟨fun _ => none, fun _ => 0, ⟨0, 0, fun _ i hi => by omega, fun i hi => by omega⟩, fun i hi => by omega⟩ | exact ⟨fun _ => none, ⟨fun _ => 0, ⟨0, 0, fun _ i hi => by omega, fun i hi => by omega⟩⟩⟩

end Go.Proofs.Qxb6003670a.st
