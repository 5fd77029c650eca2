import Derived.Test.Qxb6003720aFeed
namespace Go.Proofs.Qxb6003720a.fd
open Go.RowKit Go.Lib
set_option linter.unusedSimpArgs false

theorem strCells_at (s : ByteArray) (i : Nat) (h : i < s.size) : (strCells s)[i]? = some (.int .u8 (s[i].toNat : Int)) := by
  unfold strCells
  rw [List.getElem?_map, List.getElem?_eq_getElem (by simpa using h)]
  rfl

section
variable (u p a : ByteArray)
theorem line_u (i : Nat) (h : i < u.size) : (line u p a)[i]? = some (.int .u8 (u[i].toNat : Int)) := by
  unfold line
  simp only [List.append_assoc]
  rw [List.getElem?_append_left (by rw [strCells_length]; exact h)]
  exact strCells_at u i h
theorem line_1 : (line u p a)[u.size]? = some (.int .u8 44) := by
  unfold line
  simp only [List.append_assoc]
  rw [List.getElem?_append_right (by rw [strCells_length]; exact Nat.le_refl _), strCells_length, Nat.sub_self]
  rfl
theorem line_p (i : Nat) (h : i < p.size) : (line u p a)[u.size + 1 + i]? = some (.int .u8 (p[i].toNat : Int)) := by
  unfold line
  simp only [List.append_assoc]
  rw [List.getElem?_append_right (by rw [strCells_length]; omega), strCells_length, show u.size + 1 + i - u.size = i + 1 by omega]
  simp only [List.singleton_append, List.cons_append, List.getElem?_cons_succ, List.nil_append]
  rw [List.getElem?_append_left (by rw [strCells_length]; exact h)]
  exact strCells_at p i h
theorem line_2 : (line u p a)[u.size + 1 + p.size]? = some (.int .u8 44) := by
  unfold line
  simp only [List.append_assoc]
  rw [List.getElem?_append_right (by rw [strCells_length]; omega), strCells_length, show u.size + 1 + p.size - u.size = p.size + 1 by omega]
  simp only [List.singleton_append, List.cons_append, List.getElem?_cons_succ, List.nil_append]
  rw [List.getElem?_append_right (by rw [strCells_length]; exact Nat.le_refl _), strCells_length, Nat.sub_self]
  rfl
theorem line_a (i : Nat) (h : i < a.size) : (line u p a)[u.size + 1 + p.size + 1 + i]? = some (.int .u8 (a[i].toNat : Int)) := by
  unfold line
  simp only [List.append_assoc]
  rw [List.getElem?_append_right (by rw [strCells_length]; omega), strCells_length, show u.size + 1 + p.size + 1 + i - u.size = (p.size + 1 + i) + 1 by omega]
  simp only [List.singleton_append, List.cons_append, List.getElem?_cons_succ, List.nil_append]
  rw [List.getElem?_append_right (by rw [strCells_length]; omega), strCells_length, show p.size + 1 + i - p.size = i + 1 by omega]
  simp only [List.singleton_append, List.cons_append, List.getElem?_cons_succ, List.nil_append]
  rw [List.getElem?_append_left (by rw [strCells_length]; exact h)]
  exact strCells_at a i h
theorem line_n : (line u p a)[u.size + 1 + p.size + 1 + a.size]? = some (.int .u8 10) := by
  unfold line
  simp only [List.append_assoc]
  rw [List.getElem?_append_right (by rw [strCells_length]; omega), strCells_length, show u.size + 1 + p.size + 1 + a.size - u.size = (p.size + 1 + a.size) + 1 by omega]
  simp only [List.singleton_append, List.cons_append, List.getElem?_cons_succ, List.nil_append]
  rw [List.getElem?_append_right (by rw [strCells_length]; omega), strCells_length, show p.size + 1 + a.size - p.size = a.size + 1 by omega]
  simp only [List.singleton_append, List.cons_append, List.getElem?_cons_succ, List.nil_append]
  rw [List.getElem?_append_right (by rw [strCells_length]; exact Nat.le_refl _), strCells_length, Nat.sub_self]
  rfl
end

/-- Where the line lies. -/
structure Lies (w : World) (g : Nat) (u p a : ByteArray) : Prop where
  u_ : ∀ i (h : i < u.size), w.cell? ⟨g, i, none⟩ = some (.int .u8 (u[i].toNat : Int))
  one : w.cell? ⟨g, u.size, none⟩ = some (.int .u8 44)
  p_ : ∀ i (h : i < p.size), w.cell? ⟨g, u.size + 1 + i, none⟩ = some (.int .u8 (p[i].toNat : Int))
  two : w.cell? ⟨g, u.size + 1 + p.size, none⟩ = some (.int .u8 44)
  a_ : ∀ i (h : i < a.size), w.cell? ⟨g, u.size + 1 + p.size + 1 + i, none⟩ = some (.int .u8 (a[i].toNat : Int))
  nl : w.cell? ⟨g, u.size + 1 + p.size + 1 + a.size, none⟩ = some (.int .u8 10)

theorem Lies.of {w : World} {N g n cap : Nat} {u p a : ByteArray} (h : w.ownsRow N 5 1 (.slice (some ⟨g, 0, none⟩) n cap) n (line u p a)) : Lies w g u p a := by
  have hc : ∀ j x, (line u p a)[j]? = some x → w.cell? ⟨g, j, none⟩ = some x := fun j x hx => by
    have := h.cells (g := g) rfl j x hx
    simpa only [Addr.add_lit, Nat.zero_add] using this
  exact ⟨fun i hi => hc _ _ (line_u u p a i hi), hc _ _ (line_1 u p a), fun i hi => hc _ _ (line_p u p a i hi), hc _ _ (line_2 u p a), fun i hi => hc _ _ (line_a u p a i hi), hc _ _ (line_n u p a)⟩
theorem Lies.below {w w' : World} {g : Nat} {u p a : ByteArray} (h : Lies w g u p a) (hb : Below w.heap.size w w') : Lies w' g u p a := by
  have hg : g < w.heap.size := World.block_lt_of_cell? _ _ h.one
  have hc : ∀ j x, w.cell? ⟨g, j, none⟩ = some x → w'.cell? ⟨g, j, none⟩ = some x := fun j x hx => (hb.cell (p := ⟨g, j, none⟩) hg).trans hx
  exact ⟨fun i hi => hc _ _ (h.u_ i hi), hc _ _ h.one, fun i hi => hc _ _ (h.p_ i hi), hc _ _ h.two, fun i hi => hc _ _ (h.a_ i hi), hc _ _ h.nl⟩

set_option maxRecDepth 20000 in
set_option maxHeartbeats 4000000 in
theorem flaw (u p a : ByteArray) (w : World) (hu : u.size ≤ 1048576) (hp : p.size ≤ 1048576) (ha : a.size ≤ 1048576) :
    Calls Try.prog 5 #[.string u, .string p, .string a] w fun e w' => e = .returned (.bool true) ∧ Below w.heap.size w w' := by
  by_cases hsum : u.size + p.size + a.size ≤ 1048576
  · go_enter Try.func5, Try.ntmps5
    go_wp2_with fail
    refine (bytes_any _ _ _ _).mono ?_
    rintro e w' ⟨b, rfl, rfl⟩
    cases b
    · go_wp2
      go_ret
      exact ⟨rfl, Below.refl _ _⟩
    go_wp2_with fail
    refine (sep_any _ _ hu).mono ?_
    rintro e wx ⟨b, rfl, hcu, hwx⟩
    subst hwx
    have HU := hide hcu
    clear hcu
    cases b with
    | true =>
      go_wp2_with fail
      go_ret
      exact ⟨rfl, Below.refl _ _⟩
    | false =>
    go_wp2_with fail
    refine (sep_any _ _ hp).mono ?_
    rintro e wx ⟨b, rfl, hcp, hwx⟩
    subst hwx
    have HP := hide hcp
    clear hcp
    cases b with
    | true =>
      go_wp2_with fail
      go_ret
      exact ⟨rfl, Below.refl _ _⟩
    | false =>
    go_wp2_with fail
    refine (sep_any _ _ ha).mono ?_
    rintro e wx ⟨b, rfl, hca, hwx⟩
    subst hwx
    have HA := hide hca
    clear hca
    cases b with
    | true =>
      go_wp2_with fail
      go_ret
      exact ⟨rfl, Below.refl _ _⟩
    | false =>
    go_wp2_with fail
    refine (line_any u p a _ hu hp ha).mono ?_
    rintro e w1 ⟨g, cap, rfl, hown, hb1⟩
    have hL := Lies.of hown
    have hcap : u.size + 1 + p.size + 1 + a.size + 1 ≤ cap ∧ cap ≤ maxLen := by
      rcases hown.2 with ⟨h, _⟩ | ⟨_, _, _, h, _, _, h1, h2, _⟩
      · cases h
      · cases h; exact ⟨h1, h2⟩
    obtain ⟨hcap1, hcap2⟩ := hcap
    unfold maxLen at hcap2
    have hb : Below wx.heap.size wx w1 := ((Below.refl _ _).alloc (Nat.le_refl _) _).trans (hb1.mono (by simp))
    have hnl := hL.nl
    have A := hide (And.intro hL hb)
    clear hL hb hb1 hown
    go_wp2_with fail
    go_loopg [11, 12, 13, 14] (u.size + 1 + p.size + 1 + a.size) (fun n s11 s12 s13 s14 wr => ∃ i : Nat, i ≤ u.size + 1 + p.size + 1 + a.size ∧ n = u.size + 1 + p.size + 1 + a.size - i ∧ s14 = .int .i64 (i : Int) ∧ wr = w1 ∧
      ((i ≤ u.size ∧ s11 = .int .i64 (-1) ∧ s12 = .int .i64 (-1) ∧ s13 = .int .i64 0) ∨ (u.size < i ∧ i ≤ u.size + 1 + p.size ∧ s11 = .int .i64 (u.size : Int) ∧ s12 = .int .i64 (-1) ∧ s13 = .int .i64 1) ∨ (u.size + 1 + p.size < i ∧ s11 = .int .i64 (u.size : Int) ∧ s12 = .int .i64 ((u.size : Int) + 1 + (p.size : Int)) ∧ s13 = .int .i64 2)))
    case atStart => exact ⟨0, by omega, rfl, rfl, rfl, Or.inl ⟨by omega, rfl, rfl, rfl⟩⟩
    case round =>
      obtain ⟨i, hi, hn, rfl, rfl, hph⟩ := hrel
      rcases hph with ⟨h1, rfl, rfl, rfl⟩ | ⟨h0, h1, rfl, rfl, rfl⟩ | ⟨h0, rfl, rfl, rfl⟩
      · have hlt : (i : Int) < (u.size : Int) + 1 + (p.size : Int) + 1 + (a.size : Int) := by omega
        by_cases h2 : i < u.size
        · obtain ⟨B, hce, hB1, hB2⟩ : ∃ B : Int, wr.cell? ⟨g, i, none⟩ = some (.int .u8 B) ∧ (B == 44) = false ∧ (B == 10) = false := ⟨_, A.out.1.u_ i h2, by have := (HU.out (by simp) i h2).1; simp; omega, by have := (HU.out (by simp) i h2).2; simp; omega⟩
          go_wp2_with fail
          go_roundg (u.size + 1 + p.size + 1 + a.size - (i + 1))
          case measure => omega
          case rel => exact ⟨i + 1, by omega, rfl, by go_num, rfl, Or.inl ⟨by omega, rfl, rfl, rfl⟩⟩
        · have hiu : i = u.size := by omega
          have hce : wr.cell? ⟨g, i, none⟩ = some (.int .u8 44) := by rw [hiu]; exact A.out.1.one
          have HI := hide hiu
          clear hiu
          go_wp2_with fail
          go_roundg (u.size + 1 + p.size + 1 + a.size - (i + 1))
          case measure => omega
          case rel => exact ⟨i + 1, by omega, rfl, by go_num, rfl, Or.inr (Or.inl ⟨by omega, by have := HI.out; omega, by rw [HI.out], rfl, rfl⟩)⟩
      · have hlt : (i : Int) < (u.size : Int) + 1 + (p.size : Int) + 1 + (a.size : Int) := by omega
        by_cases h2 : i < u.size + 1 + p.size
        · obtain ⟨j, hj⟩ : ∃ j, i = u.size + 1 + j := ⟨i - (u.size + 1), by omega⟩
          have hjp : j < p.size := by omega
          obtain ⟨B, hce, hB1, hB2⟩ : ∃ B : Int, wr.cell? ⟨g, i, none⟩ = some (.int .u8 B) ∧ (B == 44) = false ∧ (B == 10) = false := ⟨_, by rw [hj]; exact A.out.1.p_ j hjp, by have := (HP.out (by simp) j hjp).1; simp; omega, by have := (HP.out (by simp) j hjp).2; simp; omega⟩
          clear hj
          go_wp2_with fail
          go_roundg (u.size + 1 + p.size + 1 + a.size - (i + 1))
          case measure => omega
          case rel => exact ⟨i + 1, by omega, rfl, by go_num, rfl, Or.inr (Or.inl ⟨by omega, by omega, rfl, rfl, rfl⟩)⟩
        · have hiu : i = u.size + 1 + p.size := by omega
          have hce : wr.cell? ⟨g, i, none⟩ = some (.int .u8 44) := by rw [hiu]; exact A.out.1.two
          have HI := hide hiu
          clear hiu
          go_wp2_with fail
          go_roundg (u.size + 1 + p.size + 1 + a.size - (i + 1))
          case measure => omega
          case rel => exact ⟨i + 1, by omega, rfl, by go_num, rfl, Or.inr (Or.inr ⟨by have := HI.out; omega, rfl, by rw [HI.out]; go_num, rfl⟩)⟩
      · by_cases h2 : i < u.size + 1 + p.size + 1 + a.size
        · have hlt : (i : Int) < (u.size : Int) + 1 + (p.size : Int) + 1 + (a.size : Int) := by omega
          obtain ⟨j, hj⟩ : ∃ j, i = u.size + 1 + p.size + 1 + j := ⟨i - (u.size + 1 + p.size + 1), by omega⟩
          have hjp : j < a.size := by omega
          obtain ⟨B, hce, hB1, hB2⟩ : ∃ B : Int, wr.cell? ⟨g, i, none⟩ = some (.int .u8 B) ∧ (B == 44) = false ∧ (B == 10) = false := ⟨_, by rw [hj]; exact A.out.1.a_ j hjp, by have := (HA.out (by simp) j hjp).1; simp; omega, by have := (HA.out (by simp) j hjp).2; simp; omega⟩
          clear hj
          go_wp2_with fail
          go_roundg (u.size + 1 + p.size + 1 + a.size - (i + 1))
          case measure => omega
          case rel => exact ⟨i + 1, by omega, rfl, by go_num, rfl, Or.inr (Or.inr ⟨by omega, rfl, rfl, rfl⟩)⟩
        · have hge : ¬ (i : Int) < (u.size : Int) + 1 + (p.size : Int) + 1 + (a.size : Int) := by omega
          go_wp2_with fail
          refine (same_any g 0 _ _ u _ rfl hu (fun i h => by rw [Nat.zero_add]; exact A.out.1.u_ i h)).mono ?_
          rintro e w2 ⟨rfl, hb2⟩
          have hL2 := A.out.1.below hb2
          have A2 := hide (And.intro hL2 (A.out.2.trans (hb2.mono A.out.2.size)))
          clear hb2 hL2
          go_wp2_with fail
          refine (same_any g (u.size + 1) _ _ p _ (by omega) hp (fun i h => A2.out.1.p_ i h)).mono ?_
          rintro e w3 ⟨rfl, hb3⟩
          have hL3 := A2.out.1.below hb3
          have A3 := hide (And.intro hL3 (A2.out.2.trans (hb3.mono A2.out.2.size)))
          clear hb3 hL3
          go_wp2_with fail
          refine (same_any g (u.size + 1 + p.size + 1) _ _ a _ (by omega) ha (fun i h => A3.out.1.a_ i h)).mono ?_
          rintro e w4 ⟨rfl, hb4⟩
          have A4 := hide (A3.out.2.trans (hb4.mono A3.out.2.size))
          clear hb4
          go_wp2_with fail
          go_ret
          exact ⟨rfl, A4.out⟩
  · have hgt : 1048576 < (u.size : Int) + (p.size : Int) + (a.size : Int) := by omega
    go_enter Try.func5, Try.ntmps5
    go_wp2_with fail
    refine (bytes_any _ _ _ _).mono ?_
    rintro e w' ⟨b, rfl, rfl⟩
    cases b <;> (go_wp2; go_ret; exact ⟨rfl, Below.refl _ _⟩)

set_option maxHeartbeats 2000000 in
theorem walk (u p a : ByteArray) (w : World) (w0 : u.size ≤ maxLen) (w1 : p.size ≤ maxLen) (w2 : a.size ≤ maxLen) :
    Calls Try.prog 5 #[.string u, .string p, .string a] w fun e w' => e = .returned (.bool true) ∧ Below w.heap.size w w' := by
  unfold maxLen at w0 w1 w2
  by_cases c0 : 1048576 < (u.size : Int)
  · go_enter Try.func5, Try.ntmps5
    go_wp2_with fail
    refine (bytes_any _ _ _ _).mono ?_
    rintro e w' ⟨b, rfl, rfl⟩
    cases b <;> (go_wp2; go_ret; exact ⟨rfl, Below.refl _ _⟩)
  by_cases c1 : 1048576 < (p.size : Int)
  · go_enter Try.func5, Try.ntmps5
    go_wp2_with fail
    refine (bytes_any _ _ _ _).mono ?_
    rintro e w' ⟨b, rfl, rfl⟩
    cases b <;> (go_wp2; go_ret; exact ⟨rfl, Below.refl _ _⟩)
  by_cases c2 : 1048576 < (a.size : Int)
  · go_enter Try.func5, Try.ntmps5
    go_wp2_with fail
    refine (bytes_any _ _ _ _).mono ?_
    rintro e w' ⟨b, rfl, rfl⟩
    cases b <;> (go_wp2; go_ret; exact ⟨rfl, Below.refl _ _⟩)
  exact flaw u p a w (by omega) (by omega) (by omega)

end Go.Proofs.Qxb6003720a.fd
