import Derived.Test.Qxb6003670aSmall
import Derived.Deep.OwnRows
namespace Go.Proofs.Qxb6003670a.sm
open Go.RowKit

/-- A slice that can be read: index i leads to cell 'off + i' of block b, which holds 'f i'. -/
def Src (t : TypeId) (k : IntKind) (w : World) (a : Option Addr) (len cap : Nat) (f : Nat → Int) : Prop :=
  ∃ b off, (∀ (wx : World) (i : Nat), i < len → (Instr.indexAt t (.slice a len cap) (.int .i64 (i : Int))).run Try.prog wx = .ok (.pointer (some ⟨b, off + i, none⟩)) wx) ∧
    ∀ i, i < len → w.cell? ⟨b, off + i, none⟩ = some (.int k (f i))

/-- A slice of the call's own: index i leads to cell i of block g. -/
def Arr (t : TypeId) (N : Nat) (k : IntKind) (w : World) (a : Option Addr) (len cap : Nat) (f : Nat → Int) : Prop :=
  ∃ g, (∀ (wx : World) (i : Nat), i < len → (Instr.indexAt t (.slice a len cap) (.int .i64 (i : Int))).run Try.prog wx = .ok (.pointer (some ⟨g, i, none⟩)) wx) ∧
    (len ≠ 0 → N ≤ g ∧ g < w.heap.size) ∧ ∀ i, i < len → w.cell? ⟨g, i, none⟩ = some (.int k (f i))

theorem Src.below {t : TypeId} {k : IntKind} {w w' : World} {a : Option Addr} {len cap : Nat} {f : Nat → Int} (h : Src t k w a len cap f) (hb : Below w.heap.size w w') : Src t k w' a len cap f := by
  obtain ⟨b, off, h1, h2⟩ := h
  exact ⟨b, off, h1, fun i hi => (hb.cell (World.block_lt_of_cell? _ _ (h2 i hi))).trans (h2 i hi)⟩
theorem Arr.below {t : TypeId} {N : Nat} {k : IntKind} {w w' : World} {a : Option Addr} {len cap : Nat} {f : Nat → Int} (h : Arr t N k w a len cap f) (hb : Below w.heap.size w w') : Arr t N k w' a len cap f := by
  obtain ⟨g, h1, h2, h3⟩ := h
  exact ⟨g, h1, fun hl => ⟨(h2 hl).1, Nat.lt_of_lt_of_le (h2 hl).2 hb.size⟩, fun i hi => (hb.cell (World.block_lt_of_cell? _ _ (h3 i hi))).trans (h3 i hi)⟩

theorem info5_8 : (Try.prog.info? 5).map (fun i => (i.zero, i.size, i.bytes)) = some (some (.int .u8 0), 1, 1) := by kernel_rfl

set_option maxHeartbeats 400000 in
theorem clone8_some (x : Addr) (len cap : Nat) (f : Nat → Int) (w : World) (hl : len ≤ 1048576) (hs : Src 22 .u8 w (some x) len cap f) :
    Calls Try.prog 8 #[.slice (some x) len cap] w fun e w' => ∃ A c, e = .returned (.slice A len c) ∧ Below w.heap.size w w' ∧ Arr 22 w.heap.size .u8 w' A len c f := by
  obtain ⟨b, off, hix, hce⟩ := hs
  have hmk := run_make_row' (P := Try.prog) 22 5 (.int .u8 0) 1 Try.underlying22 info5_8 rfl .i64 .i64 len (by omega) (by omega)
  have hnil := fun wx => Lib.run_eql_slice_nil (P := Try.prog) wx 22 5 (some x) len cap 0 0 Try.underlying22
  go_enter Try.func8, Try.ntmps8
  go_wp2
  go_loopg [4] len (fun n s wr => ∃ j : Nat, j ≤ len ∧ n = len - j ∧ s = .int .i64 (j : Int) ∧ Below w.heap.size w wr ∧ wr.rowIs w.heap.size 5 len (fun i => if i < j then .int .u8 (f i) else .int .u8 0))
  case atStart => exact ⟨0, Nat.zero_le _, by omega, rfl, (Below.refl _ _).alloc (Nat.le_refl _) _, (World.rowIs_made w _ len 5).congr (fun i _ => by simp)⟩
  case round =>
    obtain ⟨j, hj, hn, rfl, hb, hr⟩ := hrel
    by_cases hlt : j < len
    · have hx := hix wr j hlt
      have hb0 : b < w.heap.size := World.block_lt_of_cell? _ _ (hce j hlt)
      have hc : wr.cell? ⟨b, off + j, none⟩ = some (.int .u8 (f j)) := (hb.cell hb0).trans (hce j hlt)
      obtain ⟨v0, hd⟩ : ∃ v, wr.cell? ⟨w.heap.size, j, none⟩ = some v := ⟨_, hr.cell hlt⟩
      have hfz := hr.frozen j
      have HR := hide hr
      have HB := hide hb
      clear hr hb hix hce hmk hnil
      go_wp2
      go_roundg (len - (j + 1))
      case measure => omega
      case rel =>
        refine ⟨j + 1, by omega, rfl, by go_num, HB.out.setCell (by simp) _, (HR.out.set j _).congr (fun i hi => ?_)⟩
        by_cases e : i = j
        · subst e; simp
        · by_cases h2 : i < j
          · have h3 : i < j + 1 := by omega
            simp [e, h2, h3]
          · have h3 : ¬ i < j + 1 := by omega
            simp [e, h2, h3]
    · have hjl : j = len := by omega
      subst hjl
      have HR := hide hr
      have HB := hide hb
      clear hr hb hix hce hmk hnil
      go_wp2
      go_ret
      refine ⟨_, _, rfl, HB.out, w.heap.size, fun wx i hi => ?_, fun _ => ⟨Nat.le_refl _, HR.out.lt⟩, fun i hi => ?_⟩
      · have h1 : (i : Int) < (j : Int) := by omega
        go_simp
      · rw [HR.out.cell hi]; simp [hi]

theorem clone8_nil (w : World) : Calls Try.prog 8 #[.slice none 0 0] w fun e w' => e = .returned (.slice none 0 0) ∧ w' = w := by
  have hnil := fun wx => Lib.run_eql_slice_nil (P := Try.prog) wx 22 5 none 0 0 0 0 Try.underlying22
  go_enter Try.func8, Try.ntmps8
  go_wp2
  go_ret
  exact ⟨rfl, rfl⟩

/-- The clone of whatever slice. -/
theorem clone8_any (a : Option Addr) (len cap : Nat) (f : Nat → Int) (w : World) (hl : len ≤ 1048576) (hn : a = none → len = 0 ∧ cap = 0) (hs : Src 22 .u8 w a len cap f) :
    Calls Try.prog 8 #[.slice a len cap] w fun e w' => ∃ A c, e = .returned (.slice A len c) ∧ Below w.heap.size w w' ∧ Arr 22 w.heap.size .u8 w' A len c f := by
  cases a with
  | none =>
    obtain ⟨rfl, rfl⟩ := hn rfl
    refine (clone8_nil w).mono ?_
    rintro e w' ⟨rfl, rfl⟩
    exact ⟨_, _, rfl, Below.refl _ _, 0, fun _ _ h => absurd h (by omega), fun h => absurd rfl h, fun _ h => absurd h (by omega)⟩
  | some x => exact clone8_some x len cap f w hl hs

theorem info3_9 : (Try.prog.info? 3).map (fun i => (i.zero, i.size, i.bytes)) = some (some (.int .i64 0), 1, 8) := by kernel_rfl

set_option maxHeartbeats 400000 in
theorem clone9_some (x : Addr) (len cap : Nat) (f : Nat → Int) (w : World) (hl : len ≤ 1048576) (hs : Src 23 .i64 w (some x) len cap f) :
    Calls Try.prog 9 #[.slice (some x) len cap] w fun e w' => ∃ A c, e = .returned (.slice A len c) ∧ Below w.heap.size w w' ∧ Arr 23 w.heap.size .i64 w' A len c f := by
  obtain ⟨b, off, hix, hce⟩ := hs
  have hmk := run_make_row' (P := Try.prog) 23 3 (.int .i64 0) 8 Try.underlying23 info3_9 rfl .i64 .i64 len (by omega) (by omega)
  have hnil := fun wx => Lib.run_eql_slice_nil (P := Try.prog) wx 23 3 (some x) len cap 0 0 Try.underlying23
  go_enter Try.func9, Try.ntmps9
  go_wp2
  go_loopg [4] len (fun n s wr => ∃ j : Nat, j ≤ len ∧ n = len - j ∧ s = .int .i64 (j : Int) ∧ Below w.heap.size w wr ∧ wr.rowIs w.heap.size 3 len (fun i => if i < j then .int .i64 (f i) else .int .i64 0))
  case atStart => exact ⟨0, Nat.zero_le _, by omega, rfl, (Below.refl _ _).alloc (Nat.le_refl _) _, (World.rowIs_made w _ len 3).congr (fun i _ => by simp)⟩
  case round =>
    obtain ⟨j, hj, hn, rfl, hb, hr⟩ := hrel
    by_cases hlt : j < len
    · have hx := hix wr j hlt
      have hb0 : b < w.heap.size := World.block_lt_of_cell? _ _ (hce j hlt)
      have hc : wr.cell? ⟨b, off + j, none⟩ = some (.int .i64 (f j)) := (hb.cell hb0).trans (hce j hlt)
      obtain ⟨v0, hd⟩ : ∃ v, wr.cell? ⟨w.heap.size, j, none⟩ = some v := ⟨_, hr.cell hlt⟩
      have hfz := hr.frozen j
      have HR := hide hr
      have HB := hide hb
      clear hr hb hix hce hmk hnil
      go_wp2
      go_roundg (len - (j + 1))
      case measure => omega
      case rel =>
        refine ⟨j + 1, by omega, rfl, by go_num, HB.out.setCell (by simp) _, (HR.out.set j _).congr (fun i hi => ?_)⟩
        by_cases e : i = j
        · subst e; simp
        · by_cases h2 : i < j
          · have h3 : i < j + 1 := by omega
            simp [e, h2, h3]
          · have h3 : ¬ i < j + 1 := by omega
            simp [e, h2, h3]
    · have hjl : j = len := by omega
      subst hjl
      have HR := hide hr
      have HB := hide hb
      clear hr hb hix hce hmk hnil
      go_wp2
      go_ret
      refine ⟨_, _, rfl, HB.out, w.heap.size, fun wx i hi => ?_, fun _ => ⟨Nat.le_refl _, HR.out.lt⟩, fun i hi => ?_⟩
      · have h1 : (i : Int) < (j : Int) := by omega
        go_simp
      · rw [HR.out.cell hi]; simp [hi]

theorem clone9_nil (w : World) : Calls Try.prog 9 #[.slice none 0 0] w fun e w' => e = .returned (.slice none 0 0) ∧ w' = w := by
  have hnil := fun wx => Lib.run_eql_slice_nil (P := Try.prog) wx 23 3 none 0 0 0 0 Try.underlying23
  go_enter Try.func9, Try.ntmps9
  go_wp2
  go_ret
  exact ⟨rfl, rfl⟩

/-- The clone of whatever slice. -/
theorem clone9_any (a : Option Addr) (len cap : Nat) (f : Nat → Int) (w : World) (hl : len ≤ 1048576) (hn : a = none → len = 0 ∧ cap = 0) (hs : Src 23 .i64 w a len cap f) :
    Calls Try.prog 9 #[.slice a len cap] w fun e w' => ∃ A c, e = .returned (.slice A len c) ∧ Below w.heap.size w w' ∧ Arr 23 w.heap.size .i64 w' A len c f := by
  cases a with
  | none =>
    obtain ⟨rfl, rfl⟩ := hn rfl
    refine (clone9_nil w).mono ?_
    rintro e w' ⟨rfl, rfl⟩
    exact ⟨_, _, rfl, Below.refl _ _, 0, fun _ _ h => absurd h (by omega), fun h => absurd rfl h, fun _ h => absurd h (by omega)⟩
  | some x => exact clone9_some x len cap f w hl hs

theorem info41_15 : (Try.prog.info? 41).map (fun i => (i.zero, i.size, i.bytes)) = some (some (.int .i8 0), 1, 1) := by kernel_rfl

set_option maxHeartbeats 400000 in
theorem clone15_some (x : Addr) (len cap : Nat) (f : Nat → Int) (w : World) (hl : len ≤ 1048576) (hs : Src 34 .i8 w (some x) len cap f) :
    Calls Try.prog 15 #[.slice (some x) len cap] w fun e w' => ∃ A c, e = .returned (.slice A len c) ∧ Below w.heap.size w w' ∧ Arr 34 w.heap.size .i8 w' A len c f := by
  obtain ⟨b, off, hix, hce⟩ := hs
  have hmk := run_make_row' (P := Try.prog) 34 41 (.int .i8 0) 1 Try.underlying34 info41_15 rfl .i64 .i64 len (by omega) (by omega)
  have hnil := fun wx => Lib.run_eql_slice_nil (P := Try.prog) wx 34 41 (some x) len cap 0 0 Try.underlying34
  go_enter Try.func15, Try.ntmps15
  go_wp2
  go_loopg [4] len (fun n s wr => ∃ j : Nat, j ≤ len ∧ n = len - j ∧ s = .int .i64 (j : Int) ∧ Below w.heap.size w wr ∧ wr.rowIs w.heap.size 41 len (fun i => if i < j then .int .i8 (f i) else .int .i8 0))
  case atStart => exact ⟨0, Nat.zero_le _, by omega, rfl, (Below.refl _ _).alloc (Nat.le_refl _) _, (World.rowIs_made w _ len 41).congr (fun i _ => by simp)⟩
  case round =>
    obtain ⟨j, hj, hn, rfl, hb, hr⟩ := hrel
    by_cases hlt : j < len
    · have hx := hix wr j hlt
      have hb0 : b < w.heap.size := World.block_lt_of_cell? _ _ (hce j hlt)
      have hc : wr.cell? ⟨b, off + j, none⟩ = some (.int .i8 (f j)) := (hb.cell hb0).trans (hce j hlt)
      obtain ⟨v0, hd⟩ : ∃ v, wr.cell? ⟨w.heap.size, j, none⟩ = some v := ⟨_, hr.cell hlt⟩
      have hfz := hr.frozen j
      have HR := hide hr
      have HB := hide hb
      clear hr hb hix hce hmk hnil
      go_wp2
      go_roundg (len - (j + 1))
      case measure => omega
      case rel =>
        refine ⟨j + 1, by omega, rfl, by go_num, HB.out.setCell (by simp) _, (HR.out.set j _).congr (fun i hi => ?_)⟩
        by_cases e : i = j
        · subst e; simp
        · by_cases h2 : i < j
          · have h3 : i < j + 1 := by omega
            simp [e, h2, h3]
          · have h3 : ¬ i < j + 1 := by omega
            simp [e, h2, h3]
    · have hjl : j = len := by omega
      subst hjl
      have HR := hide hr
      have HB := hide hb
      clear hr hb hix hce hmk hnil
      go_wp2
      go_ret
      refine ⟨_, _, rfl, HB.out, w.heap.size, fun wx i hi => ?_, fun _ => ⟨Nat.le_refl _, HR.out.lt⟩, fun i hi => ?_⟩
      · have h1 : (i : Int) < (j : Int) := by omega
        go_simp
      · rw [HR.out.cell hi]; simp [hi]

theorem clone15_nil (w : World) : Calls Try.prog 15 #[.slice none 0 0] w fun e w' => e = .returned (.slice none 0 0) ∧ w' = w := by
  have hnil := fun wx => Lib.run_eql_slice_nil (P := Try.prog) wx 34 41 none 0 0 0 0 Try.underlying34
  go_enter Try.func15, Try.ntmps15
  go_wp2
  go_ret
  exact ⟨rfl, rfl⟩

/-- The clone of whatever slice. -/
theorem clone15_any (a : Option Addr) (len cap : Nat) (f : Nat → Int) (w : World) (hl : len ≤ 1048576) (hn : a = none → len = 0 ∧ cap = 0) (hs : Src 34 .i8 w a len cap f) :
    Calls Try.prog 15 #[.slice a len cap] w fun e w' => ∃ A c, e = .returned (.slice A len c) ∧ Below w.heap.size w w' ∧ Arr 34 w.heap.size .i8 w' A len c f := by
  cases a with
  | none =>
    obtain ⟨rfl, rfl⟩ := hn rfl
    refine (clone15_nil w).mono ?_
    rintro e w' ⟨rfl, rfl⟩
    exact ⟨_, _, rfl, Below.refl _ _, 0, fun _ _ h => absurd h (by omega), fun h => absurd rfl h, fun _ h => absurd h (by omega)⟩
  | some x => exact clone15_some x len cap f w hl hs

end Go.Proofs.Qxb6003670a.sm
