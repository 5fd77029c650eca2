import Derived.Test.Qxb6003668aGoesPrec
namespace Go.Proofs.Qxb6003668a.gf
open Go.RowKit
attribute [local go_sem ↓] Go.wp_at_zero Go.wp_at_succ

set_option maxHeartbeats 1000000 in
theorem goes_eq (aT : ByteArray) (aP : Int) (aS : ByteArray) (aN : Int) (bT : ByteArray) (bP : Int) (bS : ByteArray) (bN : Int) (w : World)
    (heq : (aT.toList == bT.toList) = true) :
    Calls Try.prog 41 #[.agg #[.string aT, .int .i64 aP, .string aS, .int .u64 aN], .agg #[.string bT, .int .i64 bP, .string bS, .int .u64 bN]] w fun e w' => e = .returned (.bool (decide (or2 (cmpS aS bS) (cmpN aN bN) < 0))) ∧ Below w.heap.size w w' := by
  go_enter Try.func41, Try.ntmps41
  go_wp2
  go_region_held3 (fun w' => w'.cell? ⟨w.heap.size, 2, none⟩ = some (.string aS) ∧ w'.cell? ⟨w.heap.size, 3, none⟩ = some (.int .u64 aN) ∧ w'.cell? ⟨w.heap.size + 1, 2, none⟩ = some (.string bS) ∧ w'.cell? ⟨w.heap.size + 1, 3, none⟩ = some (.int .u64 bN))
    (first | (refine ⟨?_, ?_, ?_, ?_⟩ <;> (go_simp; done)) | (go_keep; done))
    (first
      | (go_at_call 52; refine (compareS _ _ _).mono ?_; rintro e w' ⟨rfl, rfl⟩)
      | (go_at_call 53; refine (compareN _ _ _).mono ?_; rintro e w' ⟨rfl, rfl⟩)
      | (go_at_call 51; refine (or2_walk (cmpS aS bS) (cmpN aN bN) _ _ _ ?qa ?qb).mono ?_; (case qa => go_simp); (case qb => go_simp); rintro e w' ⟨rfl, rfl⟩))
  go_wp2
  go_ret
  exact ⟨rfl, (((Below.refl _ _).alloc (Nat.le_refl _) _).alloc (by simp) _).alloc (by simp; omega) _ |>.drew⟩

set_option maxHeartbeats 1000000 in
theorem goes_ne (aT : ByteArray) (aP : Int) (aS : ByteArray) (aN : Int) (bT : ByteArray) (bP : Int) (bS : ByteArray) (bN : Int) (w : World)
    (hne : (aT.toList == bT.toList) = false) :
    Calls Try.prog 41 #[.agg #[.string aT, .int .i64 aP, .string aS, .int .u64 aN], .agg #[.string bT, .int .i64 bP, .string bS, .int .u64 bN]] w fun e w' => e = .returned (.bool (precB aT aP bT bP)) ∧ Below w.heap.size w w' := by
  go_enter Try.func41, Try.ntmps41
  go_wp2_with (go_at_call 54; refine (prec_any _ _ _ _ _ _ _ _ _ hne).mono ?_; rintro e w' ⟨rfl, hb⟩)
  go_ret
  refine ⟨rfl, Below.trans ?_ (hb.mono (B' := w.heap.size) (by simp; omega))⟩
  exact ((Below.refl _ _).alloc (Nat.le_refl _) _).alloc (by simp) _

/-- 'goesFirst'. -/
def goesB (aT : ByteArray) (aP : Int) (aS : ByteArray) (aN : Int) (bT : ByteArray) (bP : Int) (bS : ByteArray) (bN : Int) : Bool :=
  if (aT.toList == bT.toList) = true then decide (or2 (cmpS aS bS) (cmpN aN bN) < 0) else precB aT aP bT bP

theorem goes_any (aT : ByteArray) (aP : Int) (aS : ByteArray) (aN : Int) (bT : ByteArray) (bP : Int) (bS : ByteArray) (bN : Int) (w : World) :
    Calls Try.prog 41 #[.agg #[.string aT, .int .i64 aP, .string aS, .int .u64 aN], .agg #[.string bT, .int .i64 bP, .string bS, .int .u64 bN]] w fun e w' => e = .returned (.bool (goesB aT aP aS aN bT bP bS bN)) ∧ Below w.heap.size w w' := by
  unfold goesB
  rcases h : (aT.toList == bT.toList) with _ | _
  · rw [if_neg (by simp)]
    exact goes_ne aT aP aS aN bT bP bS bN w h
  · rw [if_pos rfl]
    exact goes_eq aT aP aS aN bT bP bS bN w h

theorem zzgoes_any (aT : ByteArray) (aP : Int) (aS : ByteArray) (aN : Int) (bT : ByteArray) (bP : Int) (bS : ByteArray) (bN : Int) (w : World) :
    Calls Try.prog 21 #[.agg #[.string aT, .int .i64 aP, .string aS, .int .u64 aN], .agg #[.string bT, .int .i64 bP, .string bS, .int .u64 bN]] w fun e w' => e = .returned (.bool (goesB aT aP aS aN bT bP bS bN)) ∧ Below w.heap.size w w' := by
  go_enter Try.func21, Try.ntmps21
  go_wp2_with (go_at_call 41; refine (goes_any _ _ _ _ _ _ _ _ _).mono ?_; rintro e w' ⟨rfl, hb⟩)
  go_ret
  refine ⟨rfl, Below.trans ?_ (hb.mono (B' := w.heap.size) (by simp; omega))⟩
  exact ((Below.refl _ _).alloc (Nat.le_refl _) _).alloc (by simp) _

theorem cand_any (aT : ByteArray) (aP : Int) (aS : ByteArray) (aN : Int) (w : World) :
    Calls Try.prog 20 #[.string aT, .int .i64 aP, .string aS, .int .u64 aN] w fun e w' => e = .returned (.agg #[.string aT, .int .i64 aP, .string aS, .int .u64 aN]) ∧ w' = w.alloc (.cells #[.string aT, .int .i64 aP, .string aS, .int .u64 aN] 46) := by
  go_enter Try.func20, Try.ntmps20
  go_wp2
  exact bodyPost_ret (v := .agg #[.string aT, .int .i64 aP, .string aS, .int .u64 aN]) (by simp [results, Try.results20, go_sem]) rfl ⟨rfl, rfl⟩

theorem bytes_any (a0 : ByteArray) (a1 : Int) (a2 : ByteArray) (a3 : Int) (a4 : ByteArray) (a5 : Int) (a6 : ByteArray) (a7 : Int) (w : World) :
    Calls Try.prog 19 #[.string a0, .int .i64 a1, .string a2, .int .u64 a3, .string a4, .int .i64 a5, .string a6, .int .u64 a7] w fun e w' => ∃ b, e = .returned (.bool b) ∧ w' = w := by
  go_enter Try.func19, Try.ntmps19
  go_wp2
  all_goals (go_ret; exact ⟨_, rfl, rfl⟩)

/-! ### The plain law -/
theorem less_irr : ∀ a : List UInt8, Op.bytesLess a a = false
  | [] => rfl
  | x :: r => by simp [Op.bytesLess, less_irr r]
theorem less_tri : ∀ a b : List UInt8, a ≠ b → Op.bytesLess a b = !Op.bytesLess b a
  | [], [], h => absurd rfl h
  | [], _ :: _, _ => rfl
  | _ :: _, [], _ => rfl
  | x :: r, y :: s, h => by
    simp only [Op.bytesLess]
    by_cases e : x = y
    · subst e
      have := less_tri r s (fun e => h (by rw [e]))
      simp [this]
    · have e' : y ≠ x := fun k => e k.symm
      have e2 : x.toNat ≠ y.toNat := fun k => e (UInt8.toNat_inj.1 k)
      rcases Nat.lt_or_ge x.toNat y.toNat with l | l
      · have l1 : x < y := UInt8.lt_iff_toNat_lt.2 l
        have l2 : ¬ y < x := fun k => by have := UInt8.lt_iff_toNat_lt.1 k; omega
        simp [e', l1, l2]
      · have l1 : y < x := UInt8.lt_iff_toNat_lt.2 (by omega)
        have l2 : ¬ x < y := fun k => by have := UInt8.lt_iff_toNat_lt.1 k; omega
        simp [e, l1, l2]

theorem cmpS_eq (a b : ByteArray) (h : a.toList = b.toList) : cmpS a b = 0 := by
  unfold cmpS; rw [h]; simp [less_irr]
theorem cmpS_ne (a b : ByteArray) (h : a.toList ≠ b.toList) : (cmpS a b = -1 ∧ cmpS b a = 1) ∨ (cmpS a b = 1 ∧ cmpS b a = -1) := by
  unfold cmpS
  have t := less_tri _ _ h
  have h' : b.toList ≠ a.toList := fun k => h k.symm
  rcases l : Op.bytesLess b.toList a.toList with _ | _
  · rw [l] at t; left; simp [t, h']
  · rw [l] at t; right; simp [t, h]

theorem same_law (aT : ByteArray) (aP : Int) (aS : ByteArray) (aN : Int) (bT : ByteArray) (bP : Int) (bS : ByteArray) (bN : Int)
    (h1 : aT.toList = bT.toList) (h2 : aS.toList = bS.toList) (h3 : aN = bN) : goesB aT aP aS aN bT bP bS bN = false := by
  unfold goesB
  rw [if_pos (by simp [h1])]
  unfold or2
  rw [cmpS_eq _ _ h2]
  subst h3
  simp [cmpN]

theorem other_law (aT : ByteArray) (aP : Int) (aS : ByteArray) (aN : Int) (bT : ByteArray) (bP : Int) (bS : ByteArray) (bN : Int)
    (h : ¬ (aT.toList = bT.toList ∧ aS.toList = bS.toList ∧ aN = bN)) : goesB aT aP aS aN bT bP bS bN = !goesB bT bP bS bN aT aP aS aN := by
  unfold goesB
  by_cases h1 : aT.toList = bT.toList
  · rw [if_pos (by simp [h1]), if_pos (by simp [h1])]
    by_cases h2 : aS.toList = bS.toList
    · have h3 : aN ≠ bN := fun k => h ⟨h1, h2, k⟩
      unfold or2
      rw [cmpS_eq _ _ h2, cmpS_eq _ _ h2.symm]
      rw [if_neg (by simp), if_neg (by simp)]
      unfold cmpN
      rcases Int.lt_or_gt_of_ne h3 with l | l
      · rw [if_pos l, if_neg (by omega), if_pos l]; decide
      · rw [if_neg (by omega), if_pos l, if_pos l]; decide
    · unfold or2
      rcases cmpS_ne _ _ h2 with ⟨e1, e2⟩ | ⟨e1, e2⟩
      · rw [e1, e2]; simp
      · rw [e1, e2]; simp
  · rw [if_neg (by simp [h1]), if_neg (by simp; exact fun k => h1 k.symm)]
    unfold precB
    have t := less_tri _ _ h1
    rcases Int.lt_trichotomy aP bP with c | c | c
    · have c1 : ¬ bP < aP := by omega
      have c2 : ¬ aP = bP := by omega
      simp [c, c1, c2]
    · subst c; simp [t]
    · have c1 : ¬ aP < bP := by omega
      have c2 : ¬ bP = aP := by omega
      simp [c, c1, c2]

end Go.Proofs.Qxb6003668a.gf
