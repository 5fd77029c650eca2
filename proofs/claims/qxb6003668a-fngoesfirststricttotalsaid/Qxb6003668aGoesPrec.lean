import Derived.Test.Qxb6003668aGoesWalks
import Derived.Laws.StructEq
import Derived.Deep.DrawnRows
namespace Go.Proofs.Qxb6003668a.gf
open Go.RowKit
attribute [local go_sem ↓] Go.wp_at_zero Go.wp_at_succ

theorem bcell {W w1 : World} (hb : Below W.heap.size W w1) : (∀ b o, b < W.heap.size → w1.cell? ⟨b, o, none⟩ = W.cell? ⟨b, o, none⟩) ∧ (∀ b o, b < W.heap.size → w1.frozen? ⟨b, o, none⟩ = W.frozen? ⟨b, o, none⟩) :=
  ⟨fun b o h => hb.cell (p := ⟨b, o, none⟩) h, fun b o h => hb.frozen (p := ⟨b, o, none⟩) h⟩

theorem guard103 : Try.prog.eqGuardType Try.prog.depth 103 = false := by kernel_rfl

/-- '==' between two members. -/
theorem eq103 (aT : ByteArray) (aP : Int) (bT : ByteArray) (bP : Int) (w : World) : (binOp .eql 103 (.agg #[.string aT, .int .i64 aP]) (.agg #[.string bT, .int .i64 bP])).run Try.prog w = .ok (.bool (aT.toList == bT.toList && aP == bP)) w := by
  have u2 := Try.underlying2
  have a2 := Try.isAgg2
  have z2 := Try.sizeOf2
  have u9 := Try.underlying9
  have a9 := Try.isAgg9
  have z9 := Try.sizeOf9
  have hS : Try.prog.underlying 103 = some (.struct (Try.prog.fieldsOf 103)) := by kernel_rfl
  have hp : Try.prog.stoodInHeld 103 = false := by kernel_rfl
  rw [run_eql_struct, show (10000 : Nat) = 9999 + 1 from rfl, run_equalIn_agg w 9999 103 _ _ hS hp]
  simp only [Program.fieldsOf, Try.underlying103]
  go_simp
  by_cases h1 : aT.toList = bT.toList <;> by_cases h2 : aP = bP <;> simp [h1, h2]

set_option maxHeartbeats 1000000 in
theorem prec_lt (aT : ByteArray) (aP : Int) (aS : ByteArray) (aN : Int) (bT : ByteArray) (bP : Int) (bS : ByteArray) (bN : Int) (w : World)
    (hne : (aT.toList == bT.toList) = false) (c : bP < aP) :
    Calls Try.prog 54 #[.agg #[.string aT, .int .i64 aP, .string aS, .int .u64 aN], .agg #[.string bT, .int .i64 bP, .string bS, .int .u64 bN]] w fun e w' => e = .returned (.bool false) ∧ Below w.heap.size w w' := by
  have hne2 : (bT.toList == aT.toList) = false := by rw [BEq.comm]; exact hne
  have heq : ∀ wx, (binOp .eql 103 (.agg #[.string bT, .int .i64 bP]) (.agg #[.string aT, .int .i64 aP])).run Try.prog wx = .ok (.bool false) wx := fun wx => by rw [eq103, hne2]; rfl
  have hgd := guard103
  go_enter Try.func54, Try.ntmps54
  go_wp2
  go_region_held3 (fun w' => w'.cell? ⟨w.heap.size, 0, none⟩ = some (.string aT) ∧ w'.cell? ⟨w.heap.size, 1, none⟩ = some (.int .i64 aP) ∧ w'.cell? ⟨w.heap.size + 1, 0, none⟩ = some (.string bT) ∧ w'.cell? ⟨w.heap.size + 1, 1, none⟩ = some (.int .i64 bP)
      ∧ w'.cell? ⟨w.heap.size + 1 + 1, 0, none⟩ = some (.string aT) ∧ w'.cell? ⟨w.heap.size + 1 + 1, 1, none⟩ = some (.int .i64 aP)) (first | (refine ⟨?_, ?_, ?_, ?_, ?_, ?_⟩ <;> (go_simp; done)) | (go_keep; done))
    (first | (go_at_call 50; refine (victim_lt aT aP bT bP _ _ ?qa ?qb ?qc ?qd c).mono ?_; (case qa => go_simp); (case qb => go_simp); (case qc => go_simp); (case qd => go_simp); rintro e w' ⟨rfl, hb⟩; obtain ⟨hc, hf⟩ := bcell hb))
  go_wp2
  go_ret
  refine ⟨rfl, Below.trans ?_ (hb.mono (B' := w.heap.size) (by simp; omega))⟩
  exact ((((Below.refl _ _).alloc (Nat.le_refl _) _).alloc (by simp) _).alloc (by simp; omega) _).alloc (by simp; omega) _ |>.drew

set_option maxHeartbeats 1000000 in
theorem prec_gt (aT : ByteArray) (aP : Int) (aS : ByteArray) (aN : Int) (bT : ByteArray) (bP : Int) (bS : ByteArray) (bN : Int) (w : World)
    (hne : (aT.toList == bT.toList) = false) (c : aP < bP) :
    Calls Try.prog 54 #[.agg #[.string aT, .int .i64 aP, .string aS, .int .u64 aN], .agg #[.string bT, .int .i64 bP, .string bS, .int .u64 bN]] w fun e w' => e = .returned (.bool true) ∧ Below w.heap.size w w' := by
  have heq : ∀ wx, (binOp .eql 103 (.agg #[.string aT, .int .i64 aP]) (.agg #[.string aT, .int .i64 aP])).run Try.prog wx = .ok (.bool true) wx := fun wx => by rw [eq103]; simp
  have hgd := guard103
  go_enter Try.func54, Try.ntmps54
  go_wp2
  go_region_held3 (fun w' => w'.cell? ⟨w.heap.size, 0, none⟩ = some (.string aT) ∧ w'.cell? ⟨w.heap.size, 1, none⟩ = some (.int .i64 aP) ∧ w'.cell? ⟨w.heap.size + 1, 0, none⟩ = some (.string bT) ∧ w'.cell? ⟨w.heap.size + 1, 1, none⟩ = some (.int .i64 bP)
      ∧ w'.cell? ⟨w.heap.size + 1 + 1, 0, none⟩ = some (.string aT) ∧ w'.cell? ⟨w.heap.size + 1 + 1, 1, none⟩ = some (.int .i64 aP)) (first | (refine ⟨?_, ?_, ?_, ?_, ?_, ?_⟩ <;> (go_simp; done)) | (go_keep; done))
    (first | (go_at_call 50; refine (victim_gt aT aP bT bP _ _ ?qa ?qb ?qc ?qd c).mono ?_; (case qa => go_simp); (case qb => go_simp); (case qc => go_simp); (case qd => go_simp); rintro e w' ⟨rfl, hb⟩; obtain ⟨hc, hf⟩ := bcell hb))
  go_wp2
  go_ret
  refine ⟨rfl, Below.trans ?_ (hb.mono (B' := w.heap.size) (by simp; omega))⟩
  exact ((((Below.refl _ _).alloc (Nat.le_refl _) _).alloc (by simp) _).alloc (by simp; omega) _).alloc (by simp; omega) _ |>.drew

set_option maxHeartbeats 1000000 in
theorem prec_eqs (aT : ByteArray) (aP : Int) (aS : ByteArray) (aN : Int) (bT : ByteArray) (bS : ByteArray) (bN : Int) (w : World)
    (hne : (aT.toList == bT.toList) = false) (c1 : Op.bytesLess bT.toList aT.toList = false) :
    Calls Try.prog 54 #[.agg #[.string aT, .int .i64 aP, .string aS, .int .u64 aN], .agg #[.string bT, .int .i64 aP, .string bS, .int .u64 bN]] w fun e w' => e = .returned (.bool false) ∧ Below w.heap.size w w' := by
  have hne2 : (bT.toList == aT.toList) = false := by rw [BEq.comm]; exact hne
  have heq : ∀ wx, (binOp .eql 103 (.agg #[.string bT, .int .i64 aP]) (.agg #[.string aT, .int .i64 aP])).run Try.prog wx = .ok (.bool false) wx := fun wx => by rw [eq103, hne2]; rfl
  have hgd := guard103
  go_enter Try.func54, Try.ntmps54
  go_wp2
  go_region_held3 (fun w' => w'.cell? ⟨w.heap.size, 0, none⟩ = some (.string aT) ∧ w'.cell? ⟨w.heap.size, 1, none⟩ = some (.int .i64 aP) ∧ w'.cell? ⟨w.heap.size + 1, 0, none⟩ = some (.string bT) ∧ w'.cell? ⟨w.heap.size + 1, 1, none⟩ = some (.int .i64 aP)
      ∧ w'.cell? ⟨w.heap.size + 1 + 1, 0, none⟩ = some (.string aT) ∧ w'.cell? ⟨w.heap.size + 1 + 1, 1, none⟩ = some (.int .i64 aP)) (first | (refine ⟨?_, ?_, ?_, ?_, ?_, ?_⟩ <;> (go_simp; done)) | (go_keep; done))
    (first | (go_at_call 50; refine (victim_eqs aT aP bT _ _ ?qa ?qb ?qc ?qd c1 hne2).mono ?_; (case qa => go_simp); (case qb => go_simp); (case qc => go_simp); (case qd => go_simp); rintro e w' ⟨rfl, hb⟩; obtain ⟨hc, hf⟩ := bcell hb))
  go_wp2
  go_ret
  refine ⟨rfl, Below.trans ?_ (hb.mono (B' := w.heap.size) (by simp; omega))⟩
  exact ((((Below.refl _ _).alloc (Nat.le_refl _) _).alloc (by simp) _).alloc (by simp; omega) _).alloc (by simp; omega) _ |>.drew

set_option maxHeartbeats 1000000 in
theorem prec_eqf (aT : ByteArray) (aP : Int) (aS : ByteArray) (aN : Int) (bT : ByteArray) (bS : ByteArray) (bN : Int) (w : World)
    (hne : (aT.toList == bT.toList) = false) (c1 : Op.bytesLess bT.toList aT.toList = true) :
    Calls Try.prog 54 #[.agg #[.string aT, .int .i64 aP, .string aS, .int .u64 aN], .agg #[.string bT, .int .i64 aP, .string bS, .int .u64 bN]] w fun e w' => e = .returned (.bool true) ∧ Below w.heap.size w w' := by
  have heq : ∀ wx, (binOp .eql 103 (.agg #[.string aT, .int .i64 aP]) (.agg #[.string aT, .int .i64 aP])).run Try.prog wx = .ok (.bool true) wx := fun wx => by rw [eq103]; simp
  have hgd := guard103
  go_enter Try.func54, Try.ntmps54
  go_wp2
  go_region_held3 (fun w' => w'.cell? ⟨w.heap.size, 0, none⟩ = some (.string aT) ∧ w'.cell? ⟨w.heap.size, 1, none⟩ = some (.int .i64 aP) ∧ w'.cell? ⟨w.heap.size + 1, 0, none⟩ = some (.string bT) ∧ w'.cell? ⟨w.heap.size + 1, 1, none⟩ = some (.int .i64 aP)
      ∧ w'.cell? ⟨w.heap.size + 1 + 1, 0, none⟩ = some (.string aT) ∧ w'.cell? ⟨w.heap.size + 1 + 1, 1, none⟩ = some (.int .i64 aP)) (first | (refine ⟨?_, ?_, ?_, ?_, ?_, ?_⟩ <;> (go_simp; done)) | (go_keep; done))
    (first | (go_at_call 50; refine (victim_eqf aT aP bT _ _ ?qa ?qb ?qc ?qd c1).mono ?_; (case qa => go_simp); (case qb => go_simp); (case qc => go_simp); (case qd => go_simp); rintro e w' ⟨rfl, hb⟩; obtain ⟨hc, hf⟩ := bcell hb))
  go_wp2
  go_ret
  refine ⟨rfl, Below.trans ?_ (hb.mono (B' := w.heap.size) (by simp; omega))⟩
  exact ((((Below.refl _ _).alloc (Nat.le_refl _) _).alloc (by simp) _).alloc (by simp; omega) _).alloc (by simp; omega) _ |>.drew

/-- 'precedes', where the two transactions differ. -/
def precB (aT : ByteArray) (aP : Int) (bT : ByteArray) (bP : Int) : Bool := decide (aP < bP) || (decide (bP = aP) && Op.bytesLess bT.toList aT.toList)

theorem prec_any (aT : ByteArray) (aP : Int) (aS : ByteArray) (aN : Int) (bT : ByteArray) (bP : Int) (bS : ByteArray) (bN : Int) (w : World)
    (hne : (aT.toList == bT.toList) = false) :
    Calls Try.prog 54 #[.agg #[.string aT, .int .i64 aP, .string aS, .int .u64 aN], .agg #[.string bT, .int .i64 bP, .string bS, .int .u64 bN]] w fun e w' => e = .returned (.bool (precB aT aP bT bP)) ∧ Below w.heap.size w w' := by
  unfold precB
  rcases Int.lt_trichotomy aP bP with c | c | c
  · rw [show (decide (aP < bP) || (decide (bP = aP) && Op.bytesLess bT.toList aT.toList)) = true by simp [c]]
    exact prec_gt aT aP aS aN bT bP bS bN w hne c
  · subst c
    rcases hb : Op.bytesLess bT.toList aT.toList with _ | _
    · rw [show (decide (aP < aP) || (decide (aP = aP) && false)) = false by simp]
      exact prec_eqs aT aP aS aN bT bS bN w hne hb
    · rw [show (decide (aP < aP) || (decide (aP = aP) && true)) = true by simp]
      exact prec_eqf aT aP aS aN bT bS bN w hne hb
  · rw [show (decide (aP < bP) || (decide (bP = aP) && Op.bytesLess bT.toList aT.toList)) = false by simp; omega]
    exact prec_lt aT aP aS aN bT bP bS bN w hne c

end Go.Proofs.Qxb6003668a.gf
