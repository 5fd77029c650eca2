import Derived.Test.Qxb6003668aProg
import Derived.WalkKit
import Derived.WalkLawsBesides
import Derived.WalkSpells
import Derived.Outline
import Derived.Deep.RegionHeld3
import Derived.Below
namespace Go.Proofs.Qxb6003668a.gf
open Go.RowKit

/-- What 'cmp.Compare' gives on strings. -/
def cmpS (a b : ByteArray) : Int := if Op.bytesLess a.toList b.toList = true then -1 else if (!a.toList == b.toList) = true then 1 else 0
/-- .. and on numbers. -/
def cmpN (a b : Int) : Int := if a < b then -1 else if b < a then 1 else 0
/-- What 'cmp.Or' gives at two. -/
def or2 (x y : Int) : Int := if (x != 0) = true then x else y

theorem nanS (a : ByteArray) (w : World) : Calls Try.prog 67 #[.string a] w fun e w' => e = .returned (.bool false) ∧ w' = w := by
  go_enter Try.func67, Try.ntmps67
  go_wp2
  go_ret
  exact ⟨by simp, rfl⟩
theorem nanN (a : Int) (w : World) : Calls Try.prog 68 #[.int .u64 a] w fun e w' => e = .returned (.bool false) ∧ w' = w := by
  go_enter Try.func68, Try.ntmps68
  go_wp2
  go_ret
  exact ⟨by simp, rfl⟩
theorem ret_int {k : IntKind} {a b : Int} (h : a = b) : Ending.returned (.int k a) = .returned (.int k b) := by rw [h]
theorem compareN (a b : Int) (w : World) : Calls Try.prog 53 #[.int .u64 a, .int .u64 b] w fun e w' => e = .returned (.int .i64 (cmpN a b)) ∧ w' = w := by
  go_enter Try.func53, Try.ntmps53
  go_wp2_with (go_at_call 68; refine (nanN _ _).mono ?_; rintro e w' ⟨rfl, rfl⟩)
  all_goals
    go_ret
    refine ⟨ret_int ?_, rfl⟩
    unfold cmpN
    first | rw [if_pos (by omega)] | rw [if_neg (by omega), if_pos (by omega)] | rw [if_neg (by omega), if_neg (by omega)]
theorem compareS (a b : ByteArray) (w : World) : Calls Try.prog 52 #[.string a, .string b] w fun e w' => e = .returned (.int .i64 (cmpS a b)) ∧ w' = w := by
  go_enter Try.func52, Try.ntmps52
  go_wp2_with (go_at_call 67; refine (nanS _ _).mono ?_; rintro e w' ⟨rfl, rfl⟩)
  all_goals
    go_ret
    refine ⟨ret_int ?_, rfl⟩
    unfold cmpS
    simp_all
theorem or2_walk (x y : Int) (g o : Nat) (w : World) (hx : w.cell? ⟨g, o, none⟩ = some (.int .i64 x)) (hy : w.cell? ⟨g, o + 1, none⟩ = some (.int .i64 y)) :
    Calls Try.prog 51 #[.slice (some ⟨g, o, none⟩) 2 2] w fun e w' => e = .returned (.int .i64 (or2 x y)) ∧ w' = w := by
  go_enter Try.func51, Try.ntmps51
  go_wp2
  refine wp_loop_rounds 3 ?_
  rw [rounds_succ]
  go_wp2
  · have h1 : (x != 0) = true := by assumption
    go_ret
    exact ⟨ret_int (by unfold or2; rw [if_pos h1]), rfl⟩
  · have h1 : (x != 0) = false := by assumption
    have e1 : y = or2 x y := by unfold or2; rw [h1]; simp
    rw [rounds_succ]
    have E : Hid (y = or2 x y) := e1
    clear e1
    go_wp2
    · go_ret
      exact ⟨ret_int E.out, rfl⟩
    · have h2 : (y != 0) = false := by assumption
      rw [rounds_succ]
      go_wp2
      go_ret
      exact ⟨ret_int (by rw [← E.out]; exact (by simpa using h2 : y = 0).symm), rfl⟩

/-! ### Victim, at two members -/
theorem victim_lt (aT : ByteArray) (aP : Int) (bT : ByteArray) (bP : Int) (g : Nat) (w : World)
    (h0 : w.cell? ⟨g, 0, none⟩ = some (.string aT)) (h1 : w.cell? ⟨g, 1, none⟩ = some (.int .i64 aP)) (h2 : w.cell? ⟨g, 2, none⟩ = some (.string bT)) (h3 : w.cell? ⟨g, 3, none⟩ = some (.int .i64 bP)) (c : bP < aP) :
    Calls Try.prog 50 #[.slice (some ⟨g, 0, none⟩) 2 2] w fun e w' => e = .returned (.agg #[.string bT, .int .i64 bP]) ∧ Below w.heap.size w w' := by
  have hg : g < w.heap.size := World.block_lt_of_cell? _ _ h0
  go_enter Try.func50, Try.ntmps50
  go_wp2
  refine wp_loop_rounds 2 ?_
  rw [rounds_succ]
  go_wp2
  rw [rounds_succ]
  go_wp2
  exact bodyPost_ret (v := .agg #[.string bT, .int .i64 bP]) (by simp [results, Try.results50, go_sem]) rfl ⟨rfl, (((Below.refl _ _).alloc (Nat.le_refl _) _).alloc (by simp) _).alloc (by simp; omega) _⟩

theorem victim_gt (aT : ByteArray) (aP : Int) (bT : ByteArray) (bP : Int) (g : Nat) (w : World)
    (h0 : w.cell? ⟨g, 0, none⟩ = some (.string aT)) (h1 : w.cell? ⟨g, 1, none⟩ = some (.int .i64 aP)) (h2 : w.cell? ⟨g, 2, none⟩ = some (.string bT)) (h3 : w.cell? ⟨g, 3, none⟩ = some (.int .i64 bP)) (c : aP < bP) :
    Calls Try.prog 50 #[.slice (some ⟨g, 0, none⟩) 2 2] w fun e w' => e = .returned (.agg #[.string aT, .int .i64 aP]) ∧ Below w.heap.size w w' := by
  have hg : g < w.heap.size := World.block_lt_of_cell? _ _ h0
  go_enter Try.func50, Try.ntmps50
  go_wp2
  refine wp_loop_rounds 2 ?_
  rw [rounds_succ]
  go_wp2
  rw [rounds_succ]
  go_wp2
  exact bodyPost_ret (v := .agg #[.string aT, .int .i64 aP]) (by simp [results, Try.results50, go_sem]) rfl ⟨rfl, (((Below.refl _ _).alloc (Nat.le_refl _) _).alloc (by simp) _).alloc (by simp; omega) _⟩

/-- 'Victim' takes the second of two members. -/
def secondB (aT : ByteArray) (aP : Int) (bT : ByteArray) (bP : Int) : Bool :=
  decide (bP < aP) || (decide (bP = aP) && !(Op.bytesLess bT.toList aT.toList || bT.toList == aT.toList))
theorem victim_eqs (aT : ByteArray) (aP : Int) (bT : ByteArray) (g : Nat) (w : World)
    (h0 : w.cell? ⟨g, 0, none⟩ = some (.string aT)) (h1 : w.cell? ⟨g, 1, none⟩ = some (.int .i64 aP)) (h2 : w.cell? ⟨g, 2, none⟩ = some (.string bT)) (h3 : w.cell? ⟨g, 3, none⟩ = some (.int .i64 aP)) (c1 : Op.bytesLess bT.toList aT.toList = false) (c2 : (bT.toList == aT.toList) = false) :
    Calls Try.prog 50 #[.slice (some ⟨g, 0, none⟩) 2 2] w fun e w' => e = .returned (.agg #[.string bT, .int .i64 aP]) ∧ Below w.heap.size w w' := by
  have hg : g < w.heap.size := World.block_lt_of_cell? _ _ h0
  go_enter Try.func50, Try.ntmps50
  go_wp2
  refine wp_loop_rounds 2 ?_
  rw [rounds_succ]
  go_wp2
  rw [rounds_succ]
  go_wp2
  exact bodyPost_ret (v := .agg #[.string bT, .int .i64 aP]) (by simp [results, Try.results50, go_sem]) rfl ⟨rfl, (((Below.refl _ _).alloc (Nat.le_refl _) _).alloc (by simp) _).alloc (by simp; omega) _⟩

theorem victim_eqf (aT : ByteArray) (aP : Int) (bT : ByteArray) (g : Nat) (w : World)
    (h0 : w.cell? ⟨g, 0, none⟩ = some (.string aT)) (h1 : w.cell? ⟨g, 1, none⟩ = some (.int .i64 aP)) (h2 : w.cell? ⟨g, 2, none⟩ = some (.string bT)) (h3 : w.cell? ⟨g, 3, none⟩ = some (.int .i64 aP)) (c1 : Op.bytesLess bT.toList aT.toList = true) :
    Calls Try.prog 50 #[.slice (some ⟨g, 0, none⟩) 2 2] w fun e w' => e = .returned (.agg #[.string aT, .int .i64 aP]) ∧ Below w.heap.size w w' := by
  have hg : g < w.heap.size := World.block_lt_of_cell? _ _ h0
  go_enter Try.func50, Try.ntmps50
  go_wp2
  refine wp_loop_rounds 2 ?_
  rw [rounds_succ]
  go_wp2
  rw [rounds_succ]
  go_wp2
  exact bodyPost_ret (v := .agg #[.string aT, .int .i64 aP]) (by simp [results, Try.results50, go_sem]) rfl ⟨rfl, (((Below.refl _ _).alloc (Nat.le_refl _) _).alloc (by simp) _).alloc (by simp; omega) _⟩

end Go.Proofs.Qxb6003668a.gf
