/-
  THE WALKS OF 'ZZStanding', 'ZZHasWaiter', 'zzStandingAgrees', 'ZZCount', 'newTruth'.
-/
import Derived.Test.Qxb6003670aCount
namespace Go.Proofs.Qxb6003670a.st
open Go.RowKit
open Go.Proofs.Qxb6003670a.sm Go.Proofs.Qxb6003670a.mp Go.Proofs.Qxb6003670a.pl Go.Proofs.Qxb6003670a.rc
open Go.ChangeMaps (setBlock)
attribute [local go_sem ↓] Go.wp_at_zero Go.wp_at_succ

theorem ret_int {k : IntKind} {a b : Int} (h : a = b) : Ending.returned (.int k a) = .returned (.int k b) := by rw [h]

theorem standing_any (tb bo u v : Nat) (M : Nat → Option Nat) (C : Nat → Nat → Int) (w : World) (hu : u < 10) (hv : v < 10) (hSt : Stand w bo M C) (htb : w.cell? ⟨tb, 1, none⟩ = some (.map (some bo))) :
    Calls Try.prog 34 #[.pointer (some ⟨tb, 0, none⟩), .string (nd u), .string (nd v)] w fun e w' => e = .returned (.int .i64 (C u v)) ∧ w' = w := by
  have hlk := look27 hSt.graph.1 hu
  cases hM : M u with
  | none =>
    rw [hM] at hlk
    have hlk2 := look30nil w hv
    have h0 := hide (hSt.dead u hM v)
    clear hSt hM
    go_enter Try.func34, Try.ntmps34
    go_wp2
    go_ret
    exact ⟨ret_int h0.out.symm, rfl⟩
  | some c =>
    rw [hM] at hlk
    have hlk2 := look30 (hSt.graph.2 u c hM) hv
    rw [toS_getD] at hlk2
    clear hSt hM
    go_enter Try.func34, Try.ntmps34
    go_wp2
    go_ret
    exact ⟨rfl, rfl⟩

theorem waiter_any (tb bo u : Nat) (M : Nat → Option Nat) (C : Nat → Nat → Int) (w : World) (hu : u < 10) (hSt : Stand w bo M C) (htb : w.cell? ⟨tb, 1, none⟩ = some (.map (some bo))) :
    Calls Try.prog 35 #[.pointer (some ⟨tb, 0, none⟩), .string (nd u)] w fun e w' => e = .returned (.bool (M u).isSome) ∧ w' = w := by
  have hlk : (Instr.lookup 27 (.map (some bo)) (.string (nd u)) true).run Try.prog w = .ok (.tuple #[.map (M u), .bool (M u).isSome]) w := by
    have k := hSt.graph.1.look keyN Try.underlying27 (zero30 w) hu true
    cases hm : M u <;> rw [hm] at k <;> exact k
  clear hSt
  go_enter Try.func35, Try.ntmps35
  go_wp2
  go_ret
  exact ⟨rfl, rfl⟩

/-- Is f true below n? -/
def anyB (f : Nat → Bool) : Nat → Bool
  | 0 => false
  | n + 1 => anyB f n || f n
theorem anyB_iff (f : Nat → Bool) : ∀ n, anyB f n = true ↔ ∃ i, i < n ∧ f i = true
  | 0 => by simp [anyB]
  | n + 1 => by
    unfold anyB
    rw [Bool.or_eq_true, anyB_iff f n]
    constructor
    · rintro (⟨i, h1, h2⟩ | h)
      · exact ⟨i, by omega, h2⟩
      · exact ⟨n, by omega, h⟩
    · rintro ⟨i, h1, h2⟩
      by_cases e : i = n
      · subst e; exact Or.inr h2
      · exact Or.inl ⟨i, by omega, h2⟩

/-- Block sb holds the 8 by 8 numbers C. -/
def Num8 (w : World) (sb : Nat) (C : Nat → Nat → Int) : Prop := w.rowIs sb 40 64 (fun i => .int .i64 (C (i / 8) (i % 8)))
theorem Num8.cell {w : World} {sb : Nat} {C : Nat → Nat → Int} (h : Num8 w sb C) {p q : Nat} (hp : p < 8) (hq : q < 8) : w.cell? ⟨sb, p * 8 + q, none⟩ = some (.int .i64 (C p q)) := by
  have := World.rowIs.cell h (i := p * 8 + q) (by omega)
  rw [this]
  have e1 : (p * 8 + q) / 8 = p := by omega
  have e2 : (p * 8 + q) % 8 = q := by omega
  simp only [e1, e2]

/-- What the comparison reads. -/
structure Reads (w0 w : World) (tb bo sb : Nat) (M : Nat → Option Nat) (C : Nat → Nat → Int) : Prop where
  stand : Stand w bo M C
  cell : w.cell? ⟨tb, 1, none⟩ = some (.map (some bo))
  num : Num8 w sb C
  below : Below w0.heap.size w0 w
theorem Reads.keep {w0 w w' : World} {tb bo sb : Nat} {M : Nat → Option Nat} {C : Nat → Nat → Int} (h : Reads w0 w tb bo sb M C) (hb : Below w.heap.size w w') : Reads w0 w' tb bo sb M C :=
  ⟨h.stand.below hb, (hb.cell (World.block_lt_of_cell? _ _ h.cell)).trans h.cell, World.rowIs.of_block h.num (hb.block _ (World.rowIs.lt h.num)), h.below.trans (hb.mono h.below.size)⟩
theorem Reads.drew {w0 w : World} {tb bo sb : Nat} {M : Nat → Option Nat} {C : Nat → Nat → Int} (h : Reads w0 w tb bo sb M C) : Reads w0 w.drew tb bo sb M C :=
  ⟨⟨h.stand.graph, h.stand.sep, h.stand.live, h.stand.dead⟩, h.cell, h.num, h.below.drew⟩
theorem Reads.at_ {w0 w : World} {tb bo sb p q : Nat} {M : Nat → Option Nat} {C : Nat → Nat → Int} (h : Reads w0 w tb bo sb M C) (hp : p < 8) (hq : q < 8) : w.cell? ⟨sb, p * 8 + q, none⟩ = some (.int .i64 (C p q)) ∧ Reads w0 w tb bo sb M C := ⟨h.num.cell hp hq, h⟩

set_option maxRecDepth 20000 in
set_option maxHeartbeats 2000000 in
theorem agrees_any (tb bo sb : Nat) (M : Nat → Option Nat) (C : Nat → Nat → Int) (w : World) (hSt : Stand w bo M C) (htb : w.cell? ⟨tb, 1, none⟩ = some (.map (some bo))) (hN : Num8 w sb C) (h8 : ∀ u v, C u v ≠ 0 → v < 8) :
    Calls Try.prog 18 #[.pointer (some ⟨tb, 0, none⟩), .pointer (some ⟨sb, 0, none⟩)] w fun e w' => e = .returned (.bool true) ∧ Below w.heap.size w w' := by
  have A := hide (And.intro (show Reads w w tb bo sb M C from ⟨hSt, htb, hN, Below.refl _ _⟩) h8)
  clear hSt htb hN h8
  go_enter Try.func18, Try.ntmps18
  go_wp2_with fail
  go_loopg [5] 8 (fun n s wr => ∃ u : Nat, u ≤ 8 ∧ n = 8 - u ∧ s = .int .i64 (u : Int) ∧ Reads w wr tb bo sb M C)
  case atStart => exact ⟨0, by omega, rfl, rfl, A.out.1⟩
  case round =>
    obtain ⟨u, hu, hn, rfl, hR⟩ := hrel
    by_cases hu8 : u < 8
    · have hu8' : (u : Int) < 8 := by omega
      have AR := hide hR
      clear hR
      go_wp2_with fail
      go_loopg [6, 7] 8 (fun n s6 s wr => ∃ v : Nat, v ≤ 8 ∧ n = 8 - v ∧ s = .int .i64 (v : Int) ∧ s6 = .bool (anyB (fun y => C u y != 0) v) ∧ Reads w wr tb bo sb M C)
      case atStart => exact ⟨0, by omega, rfl, rfl, rfl, AR.out⟩
      case round =>
        obtain ⟨v, hv, hn2, rfl, rfl, hR⟩ := hrel
        by_cases hv8 : v < 8
        · have hv8' : (v : Int) < 8 := by omega
          have hv0 : (0 : Int) ≤ (v : Int) := by omega
          have hu0 : (0 : Int) ≤ (u : Int) := by omega
          go_wp2_with fail
          go_region_held3 (fun w' => w'.cell? ⟨sb, u * 8 + v, none⟩ = some (.int .i64 (C u v)) ∧ Reads w w' tb bo sb M C) (first | exact hR.drew.at_ hu8 hv8 | exact (Reads.keep (And.right ‹_ ∧ Reads w _ tb bo sb M C›) ‹_›).at_ hu8 hv8 | exact ‹_ ∧ Reads w _ tb bo sb M C›)
            (first
              | (go_at_call 10; refine (node_any _ (by omega) _).mono ?_; rintro e w' ⟨rfl, hb⟩)
              | (go_at_call 34; refine (standing_any tb bo u v M C _ (by omega) (by omega) ?qG ?qH).mono ?_; (case qG => exact (And.right ‹_ ∧ Reads w _ tb bo sb M C›).stand); (case qH => exact (And.right ‹_ ∧ Reads w _ tb bo sb M C›).cell); rintro e w' ⟨rfl, rfl⟩))
          have hRf := And.right ‹_ ∧ Reads w _ tb bo sb M C›
          have hce := hRf.num.cell hu8 hv8
          have AF := hide hRf
          clear hRf hR AR
          cases hz : (C u v != 0) with
          | false =>
            go_wp2
            go_roundg (8 - (v + 1))
            case measure => omega
            case rel => exact ⟨v + 1, by omega, rfl, by go_num, by simp [anyB, hz], AF.out⟩
          | true =>
            go_wp2
            go_roundg (8 - (v + 1))
            case measure => omega
            case rel => exact ⟨v + 1, by omega, rfl, by go_num, by simp [anyB, hz], AF.out⟩
        · have hv9 : v = 8 := by omega
          subst hv9
          have hsome : ((M u).isSome == anyB (fun y => C u y != 0) 8) = true := by
            have h1 : (M u).isSome = true ↔ anyB (fun y => C u y != 0) 8 = true := by
              rw [anyB_iff]
              constructor
              · intro h
                obtain ⟨c, hc⟩ := Option.isSome_iff_exists.1 h
                obtain ⟨y, hy⟩ := hR.stand.live u c hc
                exact ⟨y, A.out.2 u y hy, by simpa using hy⟩
              · rintro ⟨y, _, hy⟩
                cases hM : M u with
                | some c => rfl
                | none => rw [hR.stand.dead u hM y] at hy; simp at hy
            cases h2 : (M u).isSome <;> cases h3 : anyB (fun y => C u y != 0) 8 <;> simp [h2, h3] at h1 ⊢
          have AF := hide hR
          clear hR AR
          go_wp2_with fail
          refine (node_any _ (by omega) _).mono ?_
          rintro e w5 ⟨rfl, hb5⟩
          have hR5 := AF.out.keep hb5
          clear hb5 AF
          go_wp2_with fail
          refine (waiter_any tb bo u M C _ (by omega) hR5.stand hR5.cell).mono ?_
          rintro e w6 ⟨rfl, hw6⟩
          subst hw6
          have AF := hide hR5
          clear hR5
          go_wp2_with fail
          go_roundg (8 - (u + 1))
          case measure => omega
          case rel => exact ⟨u + 1, by omega, rfl, by go_num, AF.out⟩
    · have AR := hide hR
      clear hR
      go_wp2_with fail
      go_ret
      exact ⟨rfl, AR.out.below⟩

end Go.Proofs.Qxb6003670a.st
