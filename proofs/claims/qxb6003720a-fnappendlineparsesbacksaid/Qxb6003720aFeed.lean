import Derived.Test.Qxb6003720aProg
import Derived.WalkKit
import Derived.WalkLawsBesides
import Derived.WalkSpells
import Derived.Outline
import Derived.Below
import Derived.Deep.LoopGhost
import Derived.Deep.AppendLies
import Derived.Lib.AppendStr
import Derived.RegionTactic
import Derived.BigRegion
namespace Go.Proofs.Qxb6003720a.fd
open Go.RowKit Go.Lib

theorem hide {p : Prop} (h : p) : Hid p := h

/-- 'append', its run known. -/
theorem wpList_append_run {P : Program} {w w' : World} {ops : Array Oper} {rest : List Oper} {o : Oper} {a : Act} {Q : Exit → Act → World → Prop} (hgd : o.guard = none) (s x : Operand) (t u : TypeId)
    (ho : o.op = .call { callee := .builtin .append, args := #[s, x], argTypes := #[t, u] }) (v1 v2 v' : Value) (hs : a.eval s = v1) (hx : a.eval x = v2)
    (hr : (Builtin.append_ #[t, u] o.type #[v1, v2]).run P w = .ok v' w') (h : wpList P ops Q rest (a.put o.dst v') w') : wpList P ops Q (o :: rest) a w := by
  refine wpList_plain hgd fun K hK => ?_
  unfold Oper.wp execOp
  simp only [ho, resolve, invoke, builtin, Sem.run_bind, Sem.run_pure, Result.andThen_ok, List.map_toArray, List.map_cons, List.map_nil, hs, hx, hr]
  exact hK _ _ h

theorem bytes_any (a0 a1 a2 : ByteArray) (w : World) : Calls Try.prog 8 #[.string a0, .string a1, .string a2] w fun e w' => ∃ b, e = .returned (.bool b) ∧ w' = w := by
  go_enter Try.func8, Try.ntmps8
  go_wp2
  all_goals (go_ret; exact ⟨_, rfl, rfl⟩)

/-- No comma, no newline. -/
def Clean (s : ByteArray) : Prop := ∀ i (h : i < s.size), s[i].toNat ≠ 44 ∧ s[i].toNat ≠ 10

theorem sep_any (s : ByteArray) (w : World) (hs : s.size ≤ 1048576) : Calls Try.prog 9 #[.string s] w fun e w' => ∃ b, e = .returned (.bool b) ∧ (b = false → Clean s) ∧ w' = w := by
  go_enter Try.func9, Try.ntmps9
  go_wp2
  go_loopg [3] s.size (fun n x wr => ∃ i : Nat, i ≤ s.size ∧ n = s.size - i ∧ x = .int .i64 (i : Int) ∧ (∀ j (h : j < s.size), j < i → s[j].toNat ≠ 44 ∧ s[j].toNat ≠ 10) ∧ wr = w)
  case atStart => exact ⟨0, by omega, rfl, rfl, fun j h hj => by omega, rfl⟩
  case round =>
    obtain ⟨i, hi, hn, rfl, hall, rfl⟩ := hrel
    have HA := hide hall
    clear hall
    by_cases hlt : i < s.size
    · have hlt' : (i : Int) < (s.size : Int) := by omega
      cases h1 : ((s[i].toNat : Int) == 44) with
      | true =>
        go_wp2
        go_ret
        exact ⟨true, rfl, fun h => (by cases h), rfl⟩
      | false =>
        cases h2 : ((s[i].toNat : Int) == 10) with
        | true =>
          go_wp2
          go_ret
          exact ⟨true, rfl, fun h => (by cases h), rfl⟩
        | false =>
          have HH := hide (And.intro h1 h2)
          go_wp2
          go_roundg (s.size - (i + 1))
          case measure => omega
          case rel =>
            refine ⟨i + 1, by omega, rfl, by go_num, fun j h hj => ?_, rfl⟩
            by_cases e : j = i
            · subst e
              have := HH.out
              simp at this
              exact ⟨by omega, by omega⟩
            · exact HA.out j h (by omega)
    · go_wp2
      go_ret
      exact ⟨false, rfl, fun _ j h => HA.out j h (by omega), rfl⟩

/-- 'sameAsString', where x holds s. -/
theorem same_any (g off len cap : Nat) (s : ByteArray) (w : World) (hl : len = s.size) (hs : s.size ≤ 1048576) (hc : ∀ i (h : i < s.size), w.cell? ⟨g, off + i, none⟩ = some (.int .u8 (s[i].toNat : Int))) :
    Calls Try.prog 11 #[.slice (some ⟨g, off, none⟩) len cap, .string s] w fun e w' => e = .returned (.bool true) ∧ Below w.heap.size w w' := by
  subst hl
  have HC := hide hc
  clear hc
  go_enter Try.func11, Try.ntmps11
  go_wp2
  go_loopg [5] s.size (fun n x wr => ∃ i : Nat, i ≤ s.size ∧ n = s.size - i ∧ x = .int .i64 (i : Int) ∧ Below w.heap.size w wr)
  case atStart => exact ⟨0, by omega, rfl, rfl, Below.refl _ _⟩
  case round =>
    obtain ⟨i, hi, hn, rfl, hb⟩ := hrel
    by_cases hlt : i < s.size
    · have hlt' : (i : Int) < (s.size : Int) := by omega
      have h0 := HC.out i hlt
      have hcell : wr.cell? ⟨g, off + i, none⟩ = some (.int .u8 (s[i].toNat : Int)) := (hb.cell (World.block_lt_of_cell? _ _ h0)).trans h0
      have HB := hide hb
      clear hb h0
      go_wp2
      go_region
      go_wp2
      go_roundg (s.size - (i + 1))
      case measure => omega
      case rel => exact ⟨i + 1, by omega, rfl, by go_num, HB.out.drew⟩
    · have HB := hide hb
      clear hb
      go_wp2
      go_ret
      exact ⟨rfl, HB.out⟩

theorem info5 : (Try.prog.info? 5).map (fun i => (i.zero, i.size, i.bytes)) = some (some (.int .u8 0), 1, 1) := by kernel_rfl

/-- 'b = append(b, s...)'. -/
theorem add_str (w : World) (N : Nat) (v : Value) (n : Nat) (xs : List Value) (s : ByteArray) (hown : w.ownsRow N 5 1 v n xs) (hn : n + s.size ≤ 100000000) (hN : N ≤ w.heap.size) :
    ∃ v' w', (Builtin.append_ #[29, 9] 29 #[v, .string s]).run Try.prog w = .ok v' w' ∧ w'.ownsRow N 5 1 v' (n + s.size) (xs ++ strCells s) ∧ w.grownBy w' v.ownBlock := by
  obtain ⟨i, hi, hzz⟩ := Option.map_eq_some_iff.1 info5
  simp only [Prod.mk.injEq] at hzz
  obtain ⟨hz, hs, hb⟩ := hzz
  obtain ⟨v', w', h1, h2, h3, _⟩ := run_append_own_string (P := Try.prog) w N 29 9 29 5 i Try.underlying29 Try.underlying9 hi hz hs hb v n xs hown s (by unfold maxLen; omega) (by omega) hN
  exact ⟨v', w', h1, h2, h3⟩

/-- 'b = append(b, c)'. -/
theorem add_byte (w : World) (N : Nat) (v : Value) (n : Nat) (xs : List Value) (c : Int) (hown : w.ownsRow N 5 1 v n xs) (hn : n + 1 ≤ 100000000) (hN : N ≤ w.heap.size) :
    ∃ g cap w', (Builtin.append_ #[29, 29] 29 #[v, .slice (some ⟨w.heap.size, 0, none⟩) 1 1]).run Try.prog (w.alloc (.cells #[.int .u8 c] 5)) = .ok (.slice (some ⟨g, 0, none⟩) (n + 1) cap) w' ∧
      w'.ownsRow N 5 1 (.slice (some ⟨g, 0, none⟩) (n + 1) cap) (n + 1) (xs ++ [.int .u8 c]) ∧ w.grownBy w' v.ownBlock := by
  obtain ⟨i, hi, hzz⟩ := Option.map_eq_some_iff.1 info5
  simp only [Prod.mk.injEq] at hzz
  obtain ⟨hz, hs, hb⟩ := hzz
  obtain ⟨g', cap', w', h1, h2, h3, _, _⟩ := run_append_lies (P := Try.prog) (w.alloc (.cells #[.int .u8 c] 5)) 29 29 N 5 i _ 1 1 Try.underlying29 hi hz hs hb rfl (by omega) v n xs (hown.alloc _)
    ⟨w.heap.size, 0, none⟩ 1 1 [.int .u8 c] rfl (cell_one_new w _ _) (by simp [Value.oneCell']) (by omega) (by unfold maxLen; omega) (by omega) (by simp; omega) _ rfl
  exact ⟨g', cap', w', h1, h2, (World.grownBy_alloc w _ v.ownBlock).trans h3⟩

/-- The line. -/
def line (u p a : ByteArray) : List Value := ((((strCells u ++ [.int .u8 44]) ++ strCells p) ++ [.int .u8 44]) ++ strCells a) ++ [.int .u8 10]

theorem grown_cell {w w' : World} {v : Value} {N e size n : Nat} {xs : List Value} (hown : w.ownsRow N e size v n xs) (hg : w.grownBy w' v.ownBlock) {b o : Nat} {x : Value} (h : w.cell? ⟨b, o, none⟩ = some x) (hb : b < N) : w'.cell? ⟨b, o, none⟩ = some x :=
  hg.cell h (fun e => by have := (hown.lt b e.symm).1; omega)

set_option maxRecDepth 20000 in
set_option maxHeartbeats 2000000 in
theorem line_any (u p a : ByteArray) (w : World) (hu : u.size ≤ 1048576) (hp : p.size ≤ 1048576) (ha : a.size ≤ 1048576) :
    Calls Try.prog 10 #[.agg #[.string u, .string p, .string a], .slice none 0 0] w fun e w' => ∃ g cap, e = .returned (.slice (some ⟨g, 0, none⟩) (u.size + 1 + p.size + 1 + a.size + 1) cap) ∧ w'.ownsRow w.heap.size 5 1 (.slice (some ⟨g, 0, none⟩) (u.size + 1 + p.size + 1 + a.size + 1) cap) (u.size + 1 + p.size + 1 + a.size + 1) (line u p a) ∧ Below w.heap.size w w' := by
  have hb1 : Below w.heap.size w (w.alloc (.cells #[.string u, .string p, .string a] 28)) := (Below.refl _ _).alloc (Nat.le_refl _) _
  have hz1 : (w.alloc (.cells #[.string u, .string p, .string a] 28)).heap.size = w.heap.size + 1 := by simp
  have c1 : (w.alloc (.cells #[.string u, .string p, .string a] 28)).cell? ⟨w.heap.size, 0, none⟩ = some (.string u) := by go_simp
  have c2 : (w.alloc (.cells #[.string u, .string p, .string a] 28)).cell? ⟨w.heap.size, 1, none⟩ = some (.string p) := by go_simp
  have c3 : (w.alloc (.cells #[.string u, .string p, .string a] 28)).cell? ⟨w.heap.size, 2, none⟩ = some (.string a) := by go_simp
  have o1 : (w.alloc (.cells #[.string u, .string p, .string a] 28)).ownsRow (w.heap.size + 1) 5 1 (.slice none 0 0) 0 [] := World.ownsRow_nil _ _ _ _
  obtain ⟨w1, hw1⟩ : ∃ w1, w1 = w.alloc (.cells #[.string u, .string p, .string a] 28) := ⟨_, rfl⟩
  rw [← hw1] at hb1 hz1 c1 c2 c3 o1
  obtain ⟨v2, w2, r2, o2, g2⟩ := add_str w1 (w.heap.size + 1) _ 0 _ u o1 (by omega) (by omega)
  have c22 := grown_cell o1 g2 c2 (by omega)
  have c32 := grown_cell o1 g2 c3 (by omega)
  have b2 := hb1.grown g2 (by omega) (fun k h => by have := (o1.lt k h).1; omega)
  obtain ⟨q3, k3, w3, r3, o3, g3⟩ := add_byte w2 (w.heap.size + 1) _ _ _ 44 o2 (by omega) (by have := g2.size; omega)
  have c23 := grown_cell o2 g3 c22 (by omega)
  have c33 := grown_cell o2 g3 c32 (by omega)
  have b3 := b2.grown g3 (by have := g2.size; omega) (fun k h => by have := (o2.lt k h).1; omega)
  obtain ⟨v4, w4, r4, o4, g4⟩ := add_str w3 (w.heap.size + 1) _ _ _ p o3 (by omega) (by have := g2.size; have := g3.size; omega)
  have c34 := grown_cell o3 g4 c33 (by omega)
  have b4 := b3.grown g4 (by have := g2.size; have := g3.size; omega) (fun k h => by have := (o3.lt k h).1; omega)
  obtain ⟨q5, k5, w5, r5, o5, g5⟩ := add_byte w4 (w.heap.size + 1) _ _ _ 44 o4 (by omega) (by have := g2.size; have := g3.size; have := g4.size; omega)
  have c35 := grown_cell o4 g5 c34 (by omega)
  have b5 := b4.grown g5 (by have := g2.size; have := g3.size; have := g4.size; omega) (fun k h => by have := (o4.lt k h).1; omega)
  obtain ⟨v6, w6, r6, o6, g6⟩ := add_str w5 (w.heap.size + 1) _ _ _ a o5 (by omega) (by have := b5.size; have := g2.size; have := g3.size; have := g4.size; have := g5.size; omega)
  have b6 := b5.grown g6 (by have := b5.size; omega) (fun k h => by have := (o5.lt k h).1; omega)
  obtain ⟨q7, k7, w7, r7, o7, g7⟩ := add_byte w6 (w.heap.size + 1) _ _ _ 10 o6 (by omega) (by have := g2.size; have := g3.size; have := g4.size; have := g5.size; have := g6.size; omega)
  have b7 := b6.grown g7 (by have := b6.size; omega) (fun k h => by have := (o6.lt k h).1; omega)
  simp only [Nat.zero_add] at r2 r3 r4 r5 r6 r7 o7
  have F := hide (And.intro o7 b7)
  have R2 := hide r2
  have R3 := hide r3
  have R4 := hide r4
  have R5 := hide r5
  have R6 := hide r6
  have R7 := hide r7
  clear r2 r3 r4 r5 r6 r7 o1 o2 o3 o4 o5 o6 o7 g2 g3 g4 g5 g6 g7 b2 b3 b4 b5 b6 b7 hb1 hz1
  subst hw1
  go_enter Try.func10, Try.ntmps10
  go_wp2_with (at_builtin; first
    | (refine wpList_append_run (by rfl) _ _ 29 9 (by rfl) _ _ _ (by rfl) (by rfl) R2.out ?_; clear R2)
    | (refine wpList_append_run (by rfl) _ _ 29 29 (by rfl) _ _ _ (by rfl) (by rfl) R3.out ?_; clear R3)
    | (refine wpList_append_run (by rfl) _ _ 29 9 (by rfl) _ _ _ (by rfl) (by rfl) R4.out ?_; clear R4)
    | (refine wpList_append_run (by rfl) _ _ 29 29 (by rfl) _ _ _ (by rfl) (by rfl) R5.out ?_; clear R5)
    | (refine wpList_append_run (by rfl) _ _ 29 9 (by rfl) _ _ _ (by rfl) (by rfl) R6.out ?_; clear R6)
    | (refine wpList_append_run (by rfl) _ _ 29 29 (by rfl) _ _ _ (by rfl) (by rfl) R7.out ?_; clear R7))
  go_ret
  refine ⟨q7, k7, rfl, ?_, F.out.2⟩
  obtain ⟨h1, h2⟩ := F.out.1
  refine ⟨h1, ?_⟩
  rcases h2 with ⟨h, _⟩ | ⟨g, cap, cur, h3, h4, h5⟩
  · cases h
  · exact .inr ⟨g, cap, cur, h3, by omega, h5⟩

end Go.Proofs.Qxb6003720a.fd
