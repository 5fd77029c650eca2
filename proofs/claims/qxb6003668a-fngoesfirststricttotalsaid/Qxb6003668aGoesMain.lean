import Derived.Test.Qxb6003668aGoesFirst
namespace Go.Proofs.Qxb6003668a.gf
open Go.RowKit

set_option maxHeartbeats 2000000 in
/-- The walk behind the bounds, every test decided. -/
theorem core (a0 : ByteArray) (a1 : Int) (a2 : ByteArray) (a3 : Int) (a4 : ByteArray) (a5 : Int) (a6 : ByteArray) (a7 : Int) (w : World) (x y t1 t2 t3 : Bool)
    (s0 : ((a0.size : Nat) : Int) ≤ 262144) (s2 : ((a2.size : Nat) : Int) ≤ 262144) (s4 : ((a4.size : Nat) : Int) ≤ 262144) (s6 : ((a6.size : Nat) : Int) ≤ 262144)
    (hx : goesB a0 a1 a2 a3 a4 a5 a6 a7 = x) (hy : goesB a4 a5 a6 a7 a0 a1 a2 a3 = y) (e1 : (a0.toList == a4.toList) = t1) (e2 : (a2.toList == a6.toList) = t2) (e3 : (a3 == a7) = t3)
    (law : (x && y) = false ∧ ((x || y) == !(t1 && t2 && t3)) = true) :
    Calls Try.prog 4 #[.string a0, .int .i64 a1, .string a2, .int .u64 a3, .string a4, .int .i64 a5, .string a6, .int .u64 a7] w fun e w' => e = .returned (.bool true) ∧ Below w.heap.size w w' := by
  have HL : Hid _ := law
  have HX : Hid _ := hx
  have HY : Hid _ := hy
  clear law hx hy
  go_enter Try.func4, Try.ntmps4
  go_wp2_with fail
  refine (bytes_any _ _ _ _ _ _ _ _ _).mono ?_
  rintro e w' ⟨b, rfl, rfl⟩
  cases b
  · go_wp2
    go_ret
    exact ⟨rfl, Below.refl _ _⟩
  · go_wp2_with fail
    refine (cand_any _ _ _ _ _).mono ?_
    rintro e w'' ⟨rfl, rfl⟩
    go_wp2_with fail
    refine (cand_any _ _ _ _ _).mono ?_
    rintro e w'' ⟨rfl, rfl⟩
    go_wp2_with fail
    refine (zzgoes_any _ _ _ _ _ _ _ _ _).mono ?_
    rintro e w1 ⟨rfl, hb1⟩
    obtain ⟨hc1, hf1⟩ := bcell hb1
    rw [HX.out]
    go_wp2_with fail
    refine (zzgoes_any _ _ _ _ _ _ _ _ _).mono ?_
    rintro e w2 ⟨rfl, hb2⟩
    rw [HY.out]
    have hb : Below w'.heap.size w' w2 := by
      refine Below.trans (Below.trans ?_ (hb1.mono (B' := w'.heap.size) (by simp; omega))) (hb2.mono (B' := w'.heap.size) ?_)
      · exact ((((Below.refl _ _).alloc (Nat.le_refl _) _).alloc (by simp) _).alloc (by simp; omega) _).alloc (by simp; omega) _
      · have := hb1.size
        simp at this
        omega
    clear hb1 hb2 hc1 hf1
    clear HX HY
    cases x <;> cases y <;> cases t1 <;> cases t2 <;> cases t3 <;> first
      | (exact absurd HL.out (by decide))
      | (clear HL; go_wp2; go_ret; exact ⟨rfl, hb⟩)

set_option maxHeartbeats 2000000 in
/-- A string is too long. -/
theorem long (a0 : ByteArray) (a1 : Int) (a2 : ByteArray) (a3 : Int) (a4 : ByteArray) (a5 : Int) (a6 : ByteArray) (a7 : Int) (w : World)
    (s : 262144 < ((a0.size : Nat) : Int) ∨ 262144 < ((a2.size : Nat) : Int) ∨ 262144 < ((a4.size : Nat) : Int) ∨ 262144 < ((a6.size : Nat) : Int)) :
    Calls Try.prog 4 #[.string a0, .int .i64 a1, .string a2, .int .u64 a3, .string a4, .int .i64 a5, .string a6, .int .u64 a7] w fun e w' => e = .returned (.bool true) ∧ Below w.heap.size w w' := by
  by_cases s0 : 262144 < ((a0.size : Nat) : Int) <;> by_cases s2 : 262144 < ((a2.size : Nat) : Int) <;> by_cases s4 : 262144 < ((a4.size : Nat) : Int) <;> by_cases s6 : 262144 < ((a6.size : Nat) : Int) <;> first
    | (exfalso; omega)
    | (clear s
       go_enter Try.func4, Try.ntmps4
       go_wp2_with fail
       refine (bytes_any _ _ _ _ _ _ _ _ _).mono ?_
       rintro e w' ⟨b, rfl, rfl⟩
       cases b <;> (go_wp2; go_ret; exact ⟨rfl, Below.refl _ _⟩))

theorem walk_all (a0 : ByteArray) (a1 : Int) (a2 : ByteArray) (a3 : Int) (a4 : ByteArray) (a5 : Int) (a6 : ByteArray) (a7 : Int) (w : World) :
    Calls Try.prog 4 #[.string a0, .int .i64 a1, .string a2, .int .u64 a3, .string a4, .int .i64 a5, .string a6, .int .u64 a7] w fun e w' => e = .returned (.bool true) ∧ Below w.heap.size w w' := by
  by_cases s : 262144 < ((a0.size : Nat) : Int) ∨ 262144 < ((a2.size : Nat) : Int) ∨ 262144 < ((a4.size : Nat) : Int) ∨ 262144 < ((a6.size : Nat) : Int)
  · exact long _ _ _ _ _ _ _ _ w s
  · refine core a0 a1 a2 a3 a4 a5 a6 a7 w _ _ _ _ _ (by omega) (by omega) (by omega) (by omega) rfl rfl rfl rfl rfl ?_
    by_cases h : a0.toList = a4.toList ∧ a2.toList = a6.toList ∧ a3 = a7
    · obtain ⟨h1, h2, h3⟩ := h
      rw [same_law a0 a1 a2 a3 a4 a5 a6 a7 h1 h2 h3, same_law a4 a5 a6 a7 a0 a1 a2 a3 h1.symm h2.symm h3.symm, h1, h2, h3]
      simp
    · rw [other_law a0 a1 a2 a3 a4 a5 a6 a7 h]
      have hk : (a0.toList == a4.toList && a2.toList == a6.toList && a3 == a7) = false := by
        rw [Bool.eq_false_iff]
        intro k
        simp at k
        exact h ⟨k.1.1, k.1.2, k.2⟩
      rw [hk]
      cases goesB a4 a5 a6 a7 a0 a1 a2 a3 <;> decide

end Go.Proofs.Qxb6003668a.gf
