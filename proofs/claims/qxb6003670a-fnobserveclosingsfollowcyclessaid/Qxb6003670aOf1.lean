/-
  THE LAWS' SMALL HELPERS: zzBytes (19, 27), zzSnapsFit, zzSite, ZZObserve, ZZClosings.
-/
import Derived.Test.Qxb6003670aObserve
import Derived.Test.Qxb6003670aCLaw
namespace Go.Proofs.Qxb6003670a.st
open Go.RowKit
open Go.Proofs.Qxb6003670a.sm Go.Proofs.Qxb6003670a.mp Go.Proofs.Qxb6003670a.pl Go.Proofs.Qxb6003670a.rc
attribute [local go_sem ↓] Go.wp_at_zero Go.wp_at_succ

/-- A slice of slices that can be read. -/
def SrcR (w : World) (a : Option Addr) (len cap : Nat) (A : Nat → Option Addr) (L K : Nat → Nat) : Prop :=
  ∃ b off, (∀ (wx : World) (i : Nat), i < len → (Instr.indexAt 45 (.slice a len cap) (.int .i64 (i : Int))).run Try.prog wx = .ok (.pointer (some ⟨b, off + i, none⟩)) wx) ∧
    ∀ i, i < len → w.cell? ⟨b, off + i, none⟩ = some (.slice (A i) (L i) (K i))

theorem SrcR.below {w w' : World} {a : Option Addr} {len cap : Nat} {A : Nat → Option Addr} {L K : Nat → Nat} (h : SrcR w a len cap A L K) (hb : Below w.heap.size w w') : SrcR w' a len cap A L K := by
  obtain ⟨b, off, h1, h2⟩ := h
  exact ⟨b, off, h1, fun i hi => (hb.cell (World.block_lt_of_cell? _ _ (h2 i hi))).trans (h2 i hi)⟩

set_option maxRecDepth 20000 in
set_option maxHeartbeats 2000000 in
theorem bytes19_any (a0 : Option Addr) (l0 c0 : Nat) (a1 : Option Addr) (l1 c1 : Nat) (A : Nat → Option Addr) (L K : Nat → Nat) (w : World) (hs : SrcR w a1 l1 c1 A L K) :
    Calls Try.prog 19 #[.slice a0 l0 c0, .slice a1 l1 c1] w fun e w' => ∃ b, e = .returned (.bool b) ∧ w' = w := by
  obtain ⟨b, off, hix, hce⟩ := hs
  by_cases k0 : l0 > 1048576
  · go_enter Try.func19, Try.ntmps19
    go_wp2_with fail
    go_ret
    exact ⟨_, rfl, rfl⟩
  by_cases k1 : l1 > 1048576
  · go_enter Try.func19, Try.ntmps19
    go_wp2_with fail
    go_ret
    exact ⟨_, rfl, rfl⟩
  by_cases k2 : l0 + l1 > 1048576
  · go_enter Try.func19, Try.ntmps19
    go_wp2_with fail
    go_ret
    exact ⟨_, rfl, rfl⟩
  go_enter Try.func19, Try.ntmps19
  go_wp2_with fail
  go_loopg [5, 6] l1 (fun m s5 s6 wr => ∃ i z : Nat, i ≤ l1 ∧ m = l1 - i ∧ s5 = .int .i64 (z : Int) ∧ s6 = .int .i64 (i : Int) ∧ z ≤ 1048576 ∧ wr = w)
  case atStart => exact ⟨0, l0 + l1, by omega, rfl, by go_num, rfl, by omega, rfl⟩
  case round =>
    obtain ⟨i, z, hi, hm, rfl, rfl, hz, rfl⟩ := hrel
    by_cases hlt : i < l1
    · have hx := hix wr i hlt
      have hc := hce i hlt
      obtain ⟨l, hl⟩ : ∃ l, l = L i := ⟨_, rfl⟩
      rw [← hl] at hc
      clear hix hce hl
      by_cases hL : l > 1048576
      · go_wp2_with fail
        go_ret
        exact ⟨_, rfl, rfl⟩
      · by_cases hL2 : z + l > 1048576
        · go_wp2_with fail
          go_ret
          exact ⟨_, rfl, rfl⟩
        · go_wp2_with fail
          go_roundg (l1 - (i + 1))
          case measure => omega
          case rel => exact ⟨i + 1, z + l, by omega, rfl, by go_num, by go_num, by omega, rfl⟩
    · go_wp2_with fail
      go_ret
      exact ⟨_, rfl, rfl⟩

set_option maxRecDepth 20000 in
set_option maxHeartbeats 2000000 in
theorem bytes27_any (a0 : Option Addr) (l0 c0 : Nat) (a1 : Option Addr) (l1 c1 : Nat) (A : Nat → Option Addr) (L K : Nat → Nat) (w : World) (hs : SrcR w a1 l1 c1 A L K) :
    Calls Try.prog 27 #[.slice a0 l0 c0, .slice a1 l1 c1] w fun e w' => ∃ b, e = .returned (.bool b) ∧ w' = w := by
  obtain ⟨b, off, hix, hce⟩ := hs
  by_cases k0 : l0 > 1048576
  · go_enter Try.func27, Try.ntmps27
    go_wp2_with fail
    go_ret
    exact ⟨_, rfl, rfl⟩
  by_cases k1 : l1 > 1048576
  · go_enter Try.func27, Try.ntmps27
    go_wp2_with fail
    go_ret
    exact ⟨_, rfl, rfl⟩
  by_cases k2 : l0 + l1 > 1048576
  · go_enter Try.func27, Try.ntmps27
    go_wp2_with fail
    go_ret
    exact ⟨_, rfl, rfl⟩
  go_enter Try.func27, Try.ntmps27
  go_wp2_with fail
  go_loopg [5, 6] l1 (fun m s5 s6 wr => ∃ i z : Nat, i ≤ l1 ∧ m = l1 - i ∧ s5 = .int .i64 (z : Int) ∧ s6 = .int .i64 (i : Int) ∧ z ≤ 1048576 ∧ wr = w)
  case atStart => exact ⟨0, l0 + l1, by omega, rfl, by go_num, rfl, by omega, rfl⟩
  case round =>
    obtain ⟨i, z, hi, hm, rfl, rfl, hz, rfl⟩ := hrel
    by_cases hlt : i < l1
    · have hx := hix wr i hlt
      have hc := hce i hlt
      obtain ⟨l, hl⟩ : ∃ l, l = L i := ⟨_, rfl⟩
      rw [← hl] at hc
      clear hix hce hl
      by_cases hL : l > 1048576
      · go_wp2_with fail
        go_ret
        exact ⟨_, rfl, rfl⟩
      · by_cases hL2 : z + l > 1048576
        · go_wp2_with fail
          go_ret
          exact ⟨_, rfl, rfl⟩
        · go_wp2_with fail
          go_roundg (l1 - (i + 1))
          case measure => omega
          case rel => exact ⟨i + 1, z + l, by omega, rfl, by go_num, by go_num, by omega, rfl⟩
    · go_wp2_with fail
      go_ret
      exact ⟨_, rfl, rfl⟩

def FitPost (w : World) (l0 l1 : Nat) (L : Nat → Nat) (e : Ending) (w' : World) : Prop := w' = w ∧ ∃ b, e = .returned (.bool b) ∧ (b = true → l0 ≤ 64 ∧ l1 ≤ 64 ∧ ∀ i, i < l1 → L i ≤ 64)
set_option maxRecDepth 20000 in
set_option maxHeartbeats 2000000 in
theorem fit_any (a0 : Option Addr) (l0 c0 : Nat) (a1 : Option Addr) (l1 c1 : Nat) (A : Nat → Option Addr) (L K : Nat → Nat) (w : World) (hs : SrcR w a1 l1 c1 A L K) :
    Calls Try.prog 20 #[.slice a0 l0 c0, .slice a1 l1 c1] w (FitPost w l0 l1 L) := by
  obtain ⟨b, off, hix, hce⟩ := hs
  by_cases k0 : (l0 : Int) > 64
  · go_enter Try.func20, Try.ntmps20
    go_wp2_with fail
    go_ret
    unfold FitPost
    exact ⟨rfl, false, rfl, fun h => by cases h⟩
  by_cases k1 : (l1 : Int) > 64
  · go_enter Try.func20, Try.ntmps20
    go_wp2_with fail
    go_ret
    unfold FitPost
    exact ⟨rfl, false, rfl, fun h => by cases h⟩
  go_enter Try.func20, Try.ntmps20
  go_wp2_with fail
  go_loopg [5, 6] l1 (fun m s5 s6 wr => ∃ i z : Nat, i ≤ l1 ∧ m = l1 - i ∧ s5 = .int .i64 (z : Int) ∧ s6 = .int .i64 (i : Int) ∧ z ≤ 10000 + 64 * i ∧ wr = w ∧ ∀ k, k < i → L k ≤ 64)
  case atStart => exact ⟨0, l0 + 24 * l1, by omega, rfl, by go_num, rfl, by omega, rfl, fun k hk => by omega⟩
  case round =>
    obtain ⟨i, z, hi, hm, rfl, rfl, hz, rfl, hall⟩ := hrel
    by_cases hlt : i < l1
    · have hx := hix wr i hlt
      have hc := hce i hlt
      obtain ⟨l, hl⟩ : ∃ l, l = L i := ⟨_, rfl⟩
      rw [← hl] at hc
      have HA := hide (And.intro hall hl)
      clear hix hce hl hall
      by_cases hL : (l : Int) > 64
      · go_wp2_with fail
        go_ret
        unfold FitPost
        exact ⟨rfl, false, rfl, fun h => by cases h⟩
      · go_wp2_with fail
        go_roundg (l1 - (i + 1))
        case measure => omega
        case rel =>
          refine ⟨i + 1, z + l, by omega, rfl, by go_num, by go_num, by omega, rfl, fun k hk => ?_⟩
          by_cases e : k = i
          · subst e; rw [← HA.out.2]; omega
          · exact HA.out.1 k (by omega)
    · have HA := hide hall
      clear hall
      go_wp2_with fail
      go_ret
      unfold FitPost
      exact ⟨rfl, _, rfl, fun _ => ⟨by omega, by omega, fun k hk => HA.out k (by omega)⟩⟩

/-- 'string([]byte{x, y})'. -/
theorem conv2 (x y : Int) (w : World) : (convert 22 9 (.slice (some ⟨w.heap.size, 0, none⟩) 2 2)).run Try.prog (w.alloc (.cells #[.int .u8 x, .int .u8 y] 5)) = .ok (.string ⟨#[UInt8.ofNat x.toNat, UInt8.ofNat y.toNat]⟩) (w.alloc (.cells #[.int .u8 x, .int .u8 y] 5)) := by
  rw [run_convert_bytes_string _ 22 9 5 _ _ _ Try.underlying22 Try.underlying5 Try.underlying9]
  rw [run_bytesToString _ _ 2 2 [x, y] (by go_simp)]
  rfl
theorem site_any (i : Nat) (h : i < 100) (w : World) :
    Calls Try.prog 24 #[.int .i64 i] w fun e w' => e = .returned (.string (sn i)) ∧ Below w.heap.size w w' := by
  have hc : (convert 22 9 (.slice (some ⟨w.heap.size, 0, none⟩) 2 2)).run Try.prog (w.alloc (.cells #[.int .u8 115, .int .u8 (48 + (i : Int))] 5)) = .ok (.string (sn i)) (w.alloc (.cells #[.int .u8 115, .int .u8 (48 + (i : Int))] 5)) := by
    rw [conv2]
    unfold sn
    rw [show (48 + (i : Int)).toNat = 48 + i by omega]
    rfl
  go_enter Try.func24, Try.ntmps24
  go_wp2
  go_ret
  exact ⟨rfl, (Below.refl _ _).alloc (Nat.le_refl _) _⟩

theorem closings_read (tb bw bo bk bs : Nat) (cl : Int) (w : World) (h : TB w tb bw bo bk bs cl) : Calls Try.prog 29 #[.pointer (some ⟨tb, 0, none⟩)] w fun e w' => e = .returned (.int .i64 cl) ∧ w' = w := by
  have h4 := h.c4
  clear h
  go_enter Try.func29, Try.ntmps29
  go_wp2
  go_ret
  exact ⟨rfl, rfl⟩

theorem OPre.below {w w' : World} {tb bw bo bk bs s cap : Nat} {M W : Nat → Option Nat} {C : Nat → Nat → Int} {TT : Nat → Nat × Nat → Option Int} {cl now : Int} {A : Option Addr} {PS : List (Nat × List Nat)} (h : OPre w tb bw bo bk bs s cap M W C TT cl now A PS) (hb : Below w.heap.size w w') : OPre w' tb bw bo bk bs s cap M W C TT cl now A PS := by
  obtain ⟨gp, h1, h2⟩ := h.snap
  have hc : ∀ {b o : Nat} {x : Value}, w.cell? ⟨b, o, none⟩ = some x → w'.cell? ⟨b, o, none⟩ = some x := fun hx => (hb.cell (World.block_lt_of_cell? _ _ hx)).trans hx
  refine ⟨h.ti.below hb, ⟨gp, h1, fun i hi => ?_⟩, h.ps8, h.sorted, h.few, h.cb, h.clb⟩
  obtain ⟨Ai, ci, gi, c0, c1, c2, c3, c4, c5, hx, hj⟩ := h2 i hi
  exact ⟨Ai, ci, gi, hc c0, hc c1, hc c2, hc c3, hc c4, hc c5, hx, fun j h' => hc (hj j h')⟩

set_option maxRecDepth 20000 in
theorem zzobserve_any (tb bw bo bk bs s cap : Nat) (M W : Nat → Option Nat) (C : Nat → Nat → Int) (TT : Nat → Nat × Nat → Option Int) (cl now : Int) (A : Option Addr) (PS : List (Nat × List Nat)) (w : World)
    (hP : OPre w tb bw bo bk bs s cap M W C TT cl now A PS) (hs : s < 4) (n : Nat) (hn : n = PS.length) (hpl : n ≤ 1000) :
    Calls Try.prog 23 #[.pointer (some ⟨tb, 0, none⟩), .string (sn s), .agg #[.slice A n cap], .int .i64 now] w fun e w' => e = .returned (.tuple #[]) ∧
      ∃ (M' W' : Nat → Option Nat) (TT' : Nat → Nat × Nat → Option Int) (d : Nat), TI w' tb bw bo bk bs M' (newC C (TT s) (flat PS)) W' TT' (cl + d) ∧ Fr w w' (OT tb bw bo bs M W) (OT tb bw bo bs M' W') ∧
        (∀ e, (TT' s e).isSome = decide (e ∈ flat PS)) ∧ (∀ s', s' ≠ s → TT' s' = TT s') ∧ CI (newC C (TT s) (flat PS)) (stf (TT s) C (flat PS)) [] d := by
  have H := hide (And.intro hP hn)
  clear hP hn
  go_enter Try.func23, Try.ntmps23
  go_wp2_with fail
  have hb : Below w.heap.size w (w.alloc (.cells #[.slice A n cap] 55)) := (Below.refl _ _).alloc (Nat.le_refl _) _
  have hO := observe_any tb bw bo bk bs s cap M W C TT cl now A PS _ (H.out.1.below hb) hs (by rw [← H.out.2]; exact hpl)
  rw [← H.out.2] at hO
  refine hO.mono ?_
  rintro e w' ⟨rfl, M', W', TT', d, h1, h2, h3⟩
  have A1 := hide (And.intro h1 (And.intro h2 h3))
  clear h1 h2 h3 hO
  go_wp2_with fail
  go_end0
  exact ⟨rfl, M', W', TT', d, A1.out.1, (Fr.of_below hb _).trans A1.out.2.1, A1.out.2.2⟩

end Go.Proofs.Qxb6003670a.st
