import Derived.Test.Qxb6003670aGraph
import Derived.Deep.RegionHeld3
import Derived.Deep.DrawnRows
namespace Go.Proofs.Qxb6003670a.rc
open Go.RowKit
open Go.Proofs.Qxb6003670a.sm Go.Proofs.Qxb6003670a.mp Go.Proofs.Qxb6003670a.pl
open Go.ChangeMaps (setBlock)
attribute [local go_sem ↓] Go.wp_at_zero Go.wp_at_succ

theorem bit_fin : ∀ n : Fin 256, (bits .and .u8 ((n.val : Nat) : Int) 128 != 0) = decide (128 ≤ n.val) := by decide +kernel
theorem bit_128 (b : Int) (h0 : 0 ≤ b) (h1 : b < 256) : (bits .and .u8 b 128 != 0) = decide (128 ≤ b) := by
  have := bit_fin ⟨b.toNat, by omega⟩
  simp only [Int.toNat_of_nonneg h0] at this
  rw [this]
  by_cases h : 128 ≤ b
  · have : 128 ≤ b.toNat := by omega
    simp [h, this]
  · have : ¬ 128 ≤ b.toNat := by omega
    simp [h, this]

/-- The edges among the first n bytes. -/
def EdgeIn (f : Nat → Int) (n u v : Nat) : Prop := ∃ i, i < n ∧ f i < 128 ∧ f i % 8 = (u : Int) ∧ f i / 8 % 8 = (v : Int)
theorem EdgeIn.skip {f : Nat → Int} {n u v : Nat} (h : 128 ≤ f n) : EdgeIn f (n + 1) u v ↔ EdgeIn f n u v := by
  constructor
  · rintro ⟨i, hi, h1, h2⟩
    refine ⟨i, ?_, h1, h2⟩
    by_cases e : i = n
    · subst e; omega
    · omega
  · rintro ⟨i, hi, h1⟩
    exact ⟨i, by omega, h1⟩
theorem EdgeIn.more {f : Nat → Int} {n u v : Nat} (h : ¬ 128 ≤ f n) (hu : f n % 8 = (u : Int)) (hv : f n / 8 % 8 = (v : Int)) (x y : Nat) : EdgeIn f (n + 1) x y ↔ (EdgeIn f n x y ∨ (x = u ∧ y = v)) := by
  constructor
  · rintro ⟨i, hi, h1, h2, h3⟩
    by_cases e : i = n
    · subst e; right; omega
    · exact Or.inl ⟨i, by omega, h1, h2, h3⟩
  · rintro (⟨i, hi, h1⟩ | ⟨rfl, rfl⟩)
    · exact ⟨i, by omega, h1⟩
    · exact ⟨n, by omega, by omega, hu, hv⟩

def Z100 : Array Value := Array.replicate 100 (.bool false)
theorem zero32 (w : World) : (zeroValue 32).run Try.prog w = .ok (.agg Z100) w := by kernel_rfl
theorem row100 (w : World) : (w.alloc (.cells Z100 32)).rowIs w.heap.size 32 100 (fun _ => .bool false) :=
  World.rowIs_alloc w Z100 32 (fun _ => .bool false) (fun i hi => by
    unfold Z100 at hi ⊢
    simp at hi
    simp [hi])

/-- Block R holds the matrix r. -/
def Mat (w : World) (R : Nat) (r : Nat → Nat → Bool) : Prop := w.rowIs R 32 100 (fun i => .bool (r (i / 10) (i % 10)))
/-- r with (p, q) set. -/
def mark (r : Nat → Nat → Bool) (p q : Nat) : Nat → Nat → Bool := fun x y => r x y || (decide (x = p) && decide (y = q))
theorem Mat.cell {w : World} {R : Nat} {r : Nat → Nat → Bool} (h : Mat w R r) {p q : Nat} (hp : p < 10) (hq : q < 10) : w.cell? ⟨R, p * 10 + q, none⟩ = some (.bool (r p q)) := by
  have := World.rowIs.cell h (i := p * 10 + q) (by omega)
  rw [this]
  have e1 : (p * 10 + q) / 10 = p := by omega
  have e2 : (p * 10 + q) % 10 = q := by omega
  simp only [e1, e2]
theorem Mat.set {w : World} {R : Nat} {r : Nat → Nat → Bool} (h : Mat w R r) {p q : Nat} (hq : q < 10) : Mat (w.setCell ⟨R, p * 10 + q, none⟩ (.bool true)) R (mark r p q) := by
  refine (World.rowIs.set h (p * 10 + q) (.bool true)).congr (fun i hi => ?_)
  unfold mark
  by_cases e : i = p * 10 + q
  · have e1 : i / 10 = p := by omega
    have e2 : i % 10 = q := by omega
    rw [if_pos e, e1, e2]
    simp
  · rw [if_neg e]
    by_cases e1 : i / 10 = p
    · have e2 : ¬ i % 10 = q := by omega
      simp [e2]
    · simp [e1]

theorem zzreaches_any (bo i j : Nat) (M : Nat → Option Nat) (S : Nat → Nat → Option Int) (w : World) (hG : Graph w bo M S) (hi : i < 10) (hj : j < 10) :
    Calls Try.prog 13 #[.map (some bo), .string (nd i), .string (nd j)] w fun e w' => ∃ b, e = .returned (.bool b) ∧ (b = true ↔ Rch (Edge M S) i j) ∧ Below w.heap.size w w' := by
  go_enter Try.func13, Try.ntmps13
  go_wp2_with (go_at_call 31; refine (reaches_any bo i j M S _ hG hi hj).mono ?_; rintro e w' ⟨b, rfl, hb⟩)
  go_ret
  exact ⟨b, rfl, hb⟩

/-- What the last statement reads. -/
theorem last_keep {w0 w w' : World} {R x y bo : Nat} {v : Bool} {M : Nat → Option Nat} {S : Nat → Nat → Option Int} (h : w.cell? ⟨R, x * 10 + y, none⟩ = some (.bool v) ∧ Graph w bo M S ∧ Below w0.heap.size w0 w) (hb : Below w.heap.size w w') :
    w'.cell? ⟨R, x * 10 + y, none⟩ = some (.bool v) ∧ Graph w' bo M S ∧ Below w0.heap.size w0 w' :=
  ⟨(hb.cell (World.block_lt_of_cell? _ _ h.1)).trans h.1, h.2.1.below hb, h.2.2.trans (hb.mono h.2.2.size)⟩

theorem beq_of_iff {a b : Bool} (h : a = true ↔ b = true) : (a == b) = true := by cases a <;> cases b <;> simp at h ⊢
theorem ret_bool {a b : Bool} (h : a = b) : Ending.returned (.bool a) = .returned (.bool b) := by rw [h]

theorem nil30 (r : Option Nat) (w : World) : (binOp .eql 30 (.map r) (.map none)).run Try.prog w = .ok (.bool r.isNone) w := run_eql_map_nil w 30 9 3 r Try.underlying30


set_option maxRecDepth 20000 in
set_option maxHeartbeats 4000000 in
theorem rlaw (a0 : Option Addr) (len0 cap0 : Nat) (f : Nat → Int) (a1 : Option Addr) (len1 cap1 : Nat) (h : Nat → Int) (x y : Nat) (w : World)
    (hl0 : len0 ≤ 256) (hl1 : len1 ≤ 256) (hx : x < 10) (hy : y < 10)
    (hn0 : a0 = none → len0 = 0 ∧ cap0 = 0) (hs0 : Src 22 .u8 w a0 len0 cap0 f) (hf : ∀ i, 0 ≤ f i ∧ f i < 256)
    (hn1 : a1 = none → len1 = 0 ∧ cap1 = 0) (hs1 : Src 23 .i64 w a1 len1 cap1 h) :
    Calls Try.prog 3 #[.slice a0 len0 cap0, .slice a1 len1 cap1, .int .i64 (x : Int), .int .i64 (y : Int)] w fun e w' => e = .returned (.bool true) ∧ Below w.heap.size w w' := by
  have hmm := @run_makeMap Try.prog
  have H0 := hide (And.intro hn0 (And.intro hs0 hf))
  have H1 := hide (And.intro hn1 hs1)
  clear hn0 hs0 hn1 hs1 hf
  go_enter Try.func3, Try.ntmps3
  go_wp2_with fail
  refine (bytesR_any _ _ _ _ _ _ _ _ _).mono ?_
  rintro e w' ⟨b, rfl, rfl⟩
  cases b
  · go_wp2
    go_ret
    exact ⟨rfl, Below.refl _ _⟩
  go_wp2_with fail
  refine (clone8_any _ _ _ f _ (by omega) H0.out.1 H0.out.2.1).mono ?_
  rintro e w1 ⟨A0, c0, rfl, hb1, hA0⟩
  go_wp2_with fail
  refine (clone9_any _ _ _ h _ (by omega) H1.out.1 ?_).mono ?_
  · exact H1.out.2.below hb1
  rintro e w2 ⟨A1, c1, rfl, hb2, hA1⟩
  obtain ⟨g0, hix0, hg0, hc0⟩ := hA0.below hb2
  obtain ⟨g1, hix1, hg1, hc1⟩ := hA1
  have hb : Below w'.heap.size w' w2 := hb1.trans (hb2.mono hb1.size)
  have hf := H0.out.2.2
  clear H0 H1 hb1 hb2 hA0
  have HB := hide hb
  have HC := hide (And.intro hc0 hc1)
  clear hb hc0 hc1
  go_wp2_with fail
  go_loopg [10] len0 (fun n s wr => ∃ (j : Nat) (M : Nat → Option Nat) (S : Nat → Nat → Option Int), j ≤ len0 ∧ n = len0 - j ∧ s = .int .i64 (j : Int) ∧ Below w2.heap.size w2 wr ∧ Graph wr w2.heap.size M S ∧ Sep w2.heap.size M ∧ ∀ u v, Edge M S u v ↔ EdgeIn f j u v)
  case atStart =>
    refine ⟨0, fun _ => none, fun _ _ => none, Nat.zero_le _, by omega, rfl, (Below.refl _ _).alloc (Nat.le_refl _) _, ⟨IsMap.made ndV D10 mapV w2, fun u c h => (by cases h)⟩, ⟨fun _ _ _ h => (by cases h), fun _ _ h => (by cases h)⟩, fun u v => ?_⟩
    constructor
    · rintro ⟨_, _, h, _⟩; cases h
    · rintro ⟨i, hi, _⟩; omega
  case round =>
    obtain ⟨j, M, S, hj, hn, rfl, hbr, hG, hS, hE⟩ := hrel
    by_cases hlt : j < len0
    · have hj1 : ((j : Int)) < (len0 : Int) := by omega
      have hix := hix0 wr j hlt
      have hcell : wr.cell? ⟨g0, j, none⟩ = some (.int .u8 (f j)) := (hbr.cell (hg0 (by omega)).2).trans (HC.out.1 j hlt)
      obtain ⟨hf0, hf1⟩ := hf j
      obtain ⟨u, hu⟩ : ∃ u : Nat, f j % 8 = (u : Int) := ⟨(f j % 8).toNat, by omega⟩
      obtain ⟨v, hv⟩ : ∃ v : Nat, f j / 8 % 8 = (v : Int) := ⟨(f j / 8 % 8).toNat, by omega⟩
      have hu10 : u < 10 := by omega
      have hv10 : v < 10 := by omega
      have HU := hide hu
      have HV := hide hv
      have AR := hide (And.intro hbr (And.intro hG (And.intro hS hE)))
      clear hu hv hbr hG hS hE hmm
      have hmm := @run_makeMap Try.prog
      have hnil := nil30
      go_wp2_with fail
      refine (from_n _ u hf0 hf1 HU.out _).mono ?_
      rintro e w3 ⟨rfl, rfl⟩
      go_wp2_with fail
      refine (node_any u (by omega) _).mono ?_
      rintro e w4 ⟨rfl, hb4⟩
      obtain ⟨hbr, hG, hS, hE⟩ := AR.out
      have hG4 := hG.below hb4
      have hbr4 : Below w2.heap.size w2 w4 := hbr.trans (hb4.mono hbr.size)
      have hlk := look27 hG4.1 hu10
      clear AR
      cases hM : M u with
      | none =>
        rw [hM] at hlk
        obtain ⟨w5, hup, hG5, hS5, hgr5, hz5⟩ := hG4.newInner hS hu10
        have hE5 := fun x y => (Edge.new (S := S) (c := w4.heap.size) hM x y).trans (hE x y)
        have hbr5 := hbr4.grown hgr5 hbr4.size (fun q h => by cases h; exact Nat.le_refl _)
        have hM5 : put M u w4.heap.size u = some w4.heap.size := by simp [put]
        have A5 := hide (And.intro hG5 (And.intro hS5 (And.intro hE5 (And.intro hbr5 hM5))))
        clear hG4 hS hE hbr4 hG hbr hb4 hG5 hS5 hgr5 hz5 hE5 hbr5 hM5 hM
        by_cases hfl : 128 ≤ f j
        · have hbit : (bits .and .u8 (f j) 128 != 0) = true := by rw [bit_128 _ hf0 hf1]; simp [hfl]
          clear hix1 hix0
          go_wp2_with fail
          go_roundg (len0 - (j + 1))
          case measure => omega
          case rel =>
            obtain ⟨hG, hS, hE, hbr, hM⟩ := A5.out
            exact ⟨j + 1, put M u w4.heap.size, newS S u, by omega, rfl, by go_num, hbr, hG, hS, fun x y => (hE x y).trans (EdgeIn.skip hfl).symm⟩
        · have hbit : (bits .and .u8 (f j) 128 != 0) = false := by rw [bit_128 _ hf0 hf1]; simp [hfl]
          by_cases hj1 : j < len1
          · have hixb := hix1 w5 j hj1
            have hj1' : (j : Int) < (len1 : Int) := by omega
            have hcb : (w5).cell? ⟨g1, j, none⟩ = some (.int .i64 (h j)) := (A5.out.2.2.2.1.cell (hg1 (by omega)).2).trans (HC.out.2 j hj1)
            clear hix1 hix0
            go_wp2_with fail
            refine (to_n _ v hf0 hf1 HV.out _).mono ?_
            rintro e w6 ⟨rfl, hw6⟩
            subst hw6
            go_wp2_with fail
            refine (node_any v (by omega) _).mono ?_
            rintro e w7 ⟨rfl, hb7⟩
            obtain ⟨hG, hS, hE, hbr, hM⟩ := A5.out
            obtain ⟨w8, hup8, hG8, hgr8, hz8⟩ := (hG.below hb7).setInner hS hM hv10 (h j)
            have hbr7 := hbr.trans (hb7.mono hbr.size)
            have hbr8 := hbr7.grown hgr8 hbr7.size (fun q hq => by cases hq; have := hS.out u _ hM; omega)
            have A8 := hide (And.intro hG8 (And.intro hS (And.intro hbr8 (And.intro (fun x y => (Edge.set (S := newS S u) (v := v) hM (h j) x y).trans (or_congr (hE x y) Iff.rfl)) hM))))
            clear hG hS hE hbr hM hG8 hgr8 hz8 hbr7 hbr8 hb7 A5
            go_wp2_with fail
            go_roundg (len0 - (j + 1))
            case measure => omega
            case rel =>
              obtain ⟨hG, hS, hbr, hE, hM⟩ := A8.out
              exact ⟨j + 1, put M u w4.heap.size, _, by omega, rfl, by go_num, hbr, hG, hS, fun x y => (hE x y).trans (EdgeIn.more (by omega) HU.out HV.out x y).symm⟩
          · clear hix1 hix0
            have hj1' : ¬ (j : Int) < (len1 : Int) := by omega
            go_wp2_with fail
            refine (to_n _ v hf0 hf1 HV.out _).mono ?_
            rintro e w6 ⟨rfl, hw6⟩
            subst hw6
            go_wp2_with fail
            refine (node_any v (by omega) _).mono ?_
            rintro e w7 ⟨rfl, hb7⟩
            obtain ⟨hG, hS, hE, hbr, hM⟩ := A5.out
            obtain ⟨w8, hup8, hG8, hgr8, hz8⟩ := (hG.below hb7).setInner hS hM hv10 0
            have hbr7 := hbr.trans (hb7.mono hbr.size)
            have hbr8 := hbr7.grown hgr8 hbr7.size (fun q hq => by cases hq; have := hS.out u _ hM; omega)
            have A8 := hide (And.intro hG8 (And.intro hS (And.intro hbr8 (And.intro (fun x y => (Edge.set (S := newS S u) (v := v) hM 0 x y).trans (or_congr (hE x y) Iff.rfl)) hM))))
            clear hG hS hE hbr hM hG8 hgr8 hz8 hbr7 hbr8 hb7 A5
            go_wp2_with fail
            go_roundg (len0 - (j + 1))
            case measure => omega
            case rel =>
              obtain ⟨hG, hS, hbr, hE, hM⟩ := A8.out
              exact ⟨j + 1, put M u w4.heap.size, _, by omega, rfl, by go_num, hbr, hG, hS, fun x y => (hE x y).trans (EdgeIn.more (by omega) HU.out HV.out x y).symm⟩
      | some c =>
        rw [hM] at hlk
        have A5 := hide (And.intro hG4 (And.intro hS (And.intro hE (And.intro hbr4 hM))))
        clear hG4 hS hE hbr4 hG hbr hb4 hM
        by_cases hfl : 128 ≤ f j
        · have hbit : (bits .and .u8 (f j) 128 != 0) = true := by rw [bit_128 _ hf0 hf1]; simp [hfl]
          clear hix1 hix0
          go_wp2_with fail
          go_roundg (len0 - (j + 1))
          case measure => omega
          case rel =>
            obtain ⟨hG, hS, hE, hbr, hM⟩ := A5.out
            exact ⟨j + 1, M, S, by omega, rfl, by go_num, hbr, hG, hS, fun x y => (hE x y).trans (EdgeIn.skip hfl).symm⟩
        · have hbit : (bits .and .u8 (f j) 128 != 0) = false := by rw [bit_128 _ hf0 hf1]; simp [hfl]
          by_cases hj1 : j < len1
          · have hixb := hix1 w4 j hj1
            have hj1' : (j : Int) < (len1 : Int) := by omega
            have hcb : (w4).cell? ⟨g1, j, none⟩ = some (.int .i64 (h j)) := (A5.out.2.2.2.1.cell (hg1 (by omega)).2).trans (HC.out.2 j hj1)
            clear hix1 hix0
            go_wp2_with fail
            refine (to_n _ v hf0 hf1 HV.out _).mono ?_
            rintro e w6 ⟨rfl, hw6⟩
            subst hw6
            go_wp2_with fail
            refine (node_any v (by omega) _).mono ?_
            rintro e w7 ⟨rfl, hb7⟩
            obtain ⟨hG, hS, hE, hbr, hM⟩ := A5.out
            obtain ⟨w8, hup8, hG8, hgr8, hz8⟩ := (hG.below hb7).setInner hS hM hv10 (h j)
            have hbr7 := hbr.trans (hb7.mono hbr.size)
            have hbr8 := hbr7.grown hgr8 hbr7.size (fun q hq => by cases hq; have := hS.out u _ hM; omega)
            have A8 := hide (And.intro hG8 (And.intro hS (And.intro hbr8 (And.intro (fun x y => (Edge.set (S := S) (v := v) hM (h j) x y).trans (or_congr (hE x y) Iff.rfl)) hM))))
            clear hG hS hE hbr hM hG8 hgr8 hz8 hbr7 hbr8 hb7 A5
            go_wp2_with fail
            go_roundg (len0 - (j + 1))
            case measure => omega
            case rel =>
              obtain ⟨hG, hS, hbr, hE, hM⟩ := A8.out
              exact ⟨j + 1, M, _, by omega, rfl, by go_num, hbr, hG, hS, fun x y => (hE x y).trans (EdgeIn.more (by omega) HU.out HV.out x y).symm⟩
          · clear hix1 hix0
            have hj1' : ¬ (j : Int) < (len1 : Int) := by omega
            go_wp2_with fail
            refine (to_n _ v hf0 hf1 HV.out _).mono ?_
            rintro e w6 ⟨rfl, hw6⟩
            subst hw6
            go_wp2_with fail
            refine (node_any v (by omega) _).mono ?_
            rintro e w7 ⟨rfl, hb7⟩
            obtain ⟨hG, hS, hE, hbr, hM⟩ := A5.out
            obtain ⟨w8, hup8, hG8, hgr8, hz8⟩ := (hG.below hb7).setInner hS hM hv10 0
            have hbr7 := hbr.trans (hb7.mono hbr.size)
            have hbr8 := hbr7.grown hgr8 hbr7.size (fun q hq => by cases hq; have := hS.out u _ hM; omega)
            have A8 := hide (And.intro hG8 (And.intro hS (And.intro hbr8 (And.intro (fun x y => (Edge.set (S := S) (v := v) hM 0 x y).trans (or_congr (hE x y) Iff.rfl)) hM))))
            clear hG hS hE hbr hM hG8 hgr8 hz8 hbr7 hbr8 hb7 A5
            go_wp2_with fail
            go_roundg (len0 - (j + 1))
            case measure => omega
            case rel =>
              obtain ⟨hG, hS, hbr, hE, hM⟩ := A8.out
              exact ⟨j + 1, M, _, by omega, rfl, by go_num, hbr, hG, hS, fun x y => (hE x y).trans (EdgeIn.more (by omega) HU.out HV.out x y).symm⟩
    · have hjl : j = len0 := by omega
      subst hjl
      have AG := hide (And.intro hbr (And.intro hG hE))
      clear hbr hG hS hE hmm hn hj
      have hz32 := zero32
      go_wp2_with fail
      obtain ⟨w8, rfl⟩ : ∃ w8 : World, w8 = wr := ⟨_, rfl⟩
      have hR : Mat (w8.alloc (.cells Z100 32)) w8.heap.size (fun _ _ => false) := row100 w8
      have hb8 : Below w8.heap.size w8 (w8.alloc (.cells Z100 32)) := (Below.refl _ _).alloc (Nat.le_refl _) _
      obtain ⟨w9, hw9⟩ : ∃ w9, w9 = w8.alloc (.cells Z100 32) := ⟨_, rfl⟩
      rw [← hw9] at hR hb8
      rw [← hw9]
      clear hw9
      have A9 := hide (And.intro hR hb8)
      clear hR hb8 hz32
      go_loopg [16] 10 (fun n s wq => ∃ k : Nat, k ≤ 10 ∧ n = 10 - k ∧ s = .int .i64 (k : Int) ∧ Mat wq w8.heap.size (fun p q => decide (p = q) && decide (p < k)) ∧ Below w8.heap.size w8 wq)
      case atStart => exact ⟨0, by omega, rfl, rfl, by simpa using A9.out.1, A9.out.2⟩
      case round =>
        obtain ⟨k, hk, hn, rfl, hMt, hbq⟩ := hrel
        by_cases hlt : k < 10
        · have hce := hMt.cell hlt hlt
          have hfz := World.rowIs.frozen hMt (k * 10 + k)
          have AM := hide (And.intro hMt hbq)
          clear hMt hbq
          have hk' : (k : Int) < 10 := by omega
          go_wp2_with fail
          go_roundg (10 - (k + 1))
          case measure => omega
          case rel =>
            refine ⟨k + 1, by omega, rfl, by go_num, ?_, AM.out.2.setCell (by simp) _⟩
            have := AM.out.1.set (p := k) hlt
            have e : mark (fun p q => decide (p = q) && decide (p < k)) k k = fun p q => decide (p = q) && decide (p < k + 1) := by
              funext p q
              unfold mark
              by_cases e1 : p = q
              · subst e1
                by_cases e2 : p = k
                · subst e2; simp
                · have : decide (p < k) = decide (p < k + 1) := by
                    by_cases h3 : p < k
                    · simp [h3]; omega
                    · simp [h3]; omega
                  simp [e2, this]
              · by_cases e2 : p = k
                · subst e2
                  have : ¬ q = p := fun h => e1 h.symm
                  simp [e1, this]
                · simp [e1, e2]
            rw [e] at this
            exact this
        · have hk10 : k = 10 := by omega
          subst hk10
          have AM := hide (And.intro hMt hbq)
          clear hMt hbq A9 hn hk
          go_wp2_with fail
          go_loopg [17] 10 (fun n s wq => ∃ (k : Nat) (r : Nat → Nat → Bool), k ≤ 10 ∧ n = 10 - k ∧ s = .int .i64 (k : Int) ∧ Mat wq w8.heap.size r ∧ Below w8.heap.size w8 wq ∧ Full (EdgeIn f j) r (k + 1) ∧ Sound (EdgeIn f j) r ∧ ∀ x, x < 10 → r x x = true)
          case atStart =>
            refine ⟨0, _, by omega, rfl, rfl, AM.out.1, AM.out.2, Full.start (fun x hx => by simp [hx]), fun x y hxy => ?_, fun x hx => by simp [hx]⟩
            simp at hxy
            rw [hxy.1]
            exact Rch.refl _ _
          case round =>
            obtain ⟨k, r0, hk, hn, rfl, hMt, hbq, hF, hSo, hD⟩ := hrel
            by_cases hlt : k < 10
            · have AM := hide (And.intro hMt (And.intro hbq (And.intro hF (And.intro hSo hD))))
              clear hMt hbq hF hSo hD
              have hk' : (k : Int) < 10 := by omega
              go_wp2_with fail
              obtain ⟨K0, hK0⟩ : ∃ K0, K0 = gk := ⟨_, rfl⟩
              go_loopg [108] j (fun n s wq => ∃ (e : Nat) (r : Nat → Nat → Bool), e ≤ j ∧ n = j - e ∧ s = .int .i64 (e : Int) ∧ Mat wq w8.heap.size r ∧ Below w8.heap.size w8 wq ∧ Sound (EdgeIn f j) r ∧ (∀ x y, r0 x y = true → r x y = true) ∧ ∀ x a c, x < 10 → r0 x a = true → EdgeIn f e a c → r x c = true)
              case atStart =>
                obtain ⟨hMt, hbq, hF, hSo, hD⟩ := AM.out
                exact ⟨0, r0, by omega, rfl, rfl, hMt, hbq, hSo, fun _ _ h => h, fun x a c _ _ ⟨i, hi, _⟩ => by omega⟩
              case round =>
                obtain ⟨e, r1, he, hne, rfl, hMt, hbq, hSo, hmo, hst⟩ := hrel
                by_cases hle : e < j
                · have hle' : (e : Int) < (j : Int) := by omega
                  have hix := hix0 wr e hle
                  have hg2 := (hg0 (by omega)).2
                  have hcell : wr.cell? ⟨g0, e, none⟩ = some (.int .u8 (f e)) := (hbq.cell (p := ⟨g0, e, none⟩) (Nat.lt_of_lt_of_le hg2 AG.out.1.size)).trans ((AG.out.1.cell (p := ⟨g0, e, none⟩) hg2).trans (HC.out.1 e hle))
                  obtain ⟨hf0, hf1⟩ := hf e
                  obtain ⟨u, hu⟩ : ∃ u : Nat, f e % 8 = (u : Int) := ⟨(f e % 8).toNat, by omega⟩
                  obtain ⟨v, hv⟩ : ∃ v : Nat, f e / 8 % 8 = (v : Int) := ⟨(f e / 8 % 8).toNat, by omega⟩
                  have hu10 : u < 10 := by omega
                  have hv10 : v < 10 := by omega
                  have HU := hide hu
                  have HV := hide hv
                  have AN := hide (And.intro hMt (And.intro hbq (And.intro hSo (And.intro hmo hst))))
                  clear hMt hbq hSo hmo hst hu hv
                  by_cases hfl : 128 ≤ f e
                  · have hbit : (bits .and .u8 (f e) 128 != 0) = true := by rw [bit_128 _ hf0 hf1]; simp [hfl]
                    go_wp2_with fail
                    go_roundg (j - (e + 1))
                    case measure => omega
                    case rel =>
                      obtain ⟨hMt, hbq, hSo, hmo, hst⟩ := AN.out
                      exact ⟨e + 1, r1, by omega, rfl, by go_num, hMt, hbq, hSo, hmo, fun x a c hx h1 h2 => hst x a c hx h1 ((EdgeIn.skip hfl).1 h2)⟩
                  · have hbit : (bits .and .u8 (f e) 128 != 0) = false := by rw [bit_128 _ hf0 hf1]; simp [hfl]
                    have hEu : EdgeIn f j u v := ⟨e, hle, by omega, HU.out, HV.out⟩
                    have HE := hide hEu
                    clear hEu
                    go_wp2_with fail
                    refine (from_n _ u hf0 hf1 HU.out _).mono ?_
                    rintro e' w3 ⟨rfl, hw3⟩
                    subst hw3
                    go_wp2_with fail
                    refine (to_n _ v hf0 hf1 HV.out _).mono ?_
                    rintro e' w3 ⟨rfl, hw3⟩
                    subst hw3
                    go_wp2_with fail
                    clear hix hcell
                    go_loopg [22] 10 (fun n s wq => ∃ (q : Nat) (r : Nat → Nat → Bool), q ≤ 10 ∧ n = 10 - q ∧ s = .int .i64 (q : Int) ∧ Mat wq w8.heap.size r ∧ Below w8.heap.size w8 wq ∧ Sound (EdgeIn f j) r ∧ (∀ x y, r1 x y = true → r x y = true) ∧ ∀ x, x < q → r1 x u = true → r x v = true)
                    case atStart =>
                      obtain ⟨hMt, hbq, hSo, hmo, hst⟩ := AN.out
                      exact ⟨0, r1, by omega, rfl, rfl, hMt, hbq, hSo, fun _ _ h => h, fun x hx => by omega⟩
                    case round =>
                      obtain ⟨q, r2, hq, hnq, rfl, hMt, hbq, hSo, hmo, hst⟩ := hrel
                      by_cases hql : q < 10
                      · have hql' : (q : Int) < 10 := by omega
                        have hu10' : (u : Int) < 10 := by omega
                        have hv10' : (v : Int) < 10 := by omega
                        have hc1 := hMt.cell hql hu10
                        have hc2 := hMt.cell hql hv10
                        have hfz := World.rowIs.frozen hMt (q * 10 + v)
                        cases hru : r2 q u with
                        | false =>
                          rw [hru] at hc1
                          have AQ := hide (And.intro hMt (And.intro hbq (And.intro hSo (And.intro hmo (And.intro hst hru)))))
                          clear hMt hbq hSo hmo hst hru hc2
                          go_wp2_with fail
                          go_roundg (10 - (q + 1))
                          case measure => omega
                          case rel =>
                            obtain ⟨hMt, hbq, hSo, hmo, hst, hru⟩ := AQ.out
                            refine ⟨q + 1, r2, by omega, rfl, by go_num, hMt, hbq, hSo, hmo, fun x hx h1 => ?_⟩
                            by_cases ex : x = q
                            · subst ex; rw [hmo x u h1] at hru; cases hru
                            · exact hst x (by omega) h1
                        | true =>
                          rw [hru] at hc1
                          have AQ := hide (And.intro hMt (And.intro hbq (And.intro hSo (And.intro hmo (And.intro hst hru)))))
                          clear hMt hbq hSo hmo hst hru
                          go_wp2_with fail
                          go_roundg (10 - (q + 1))
                          case measure => omega
                          case rel =>
                            obtain ⟨hMt, hbq, hSo, hmo, hst, hru⟩ := AQ.out
                            refine ⟨q + 1, mark r2 q v, by omega, rfl, by go_num, hMt.set hv10, hbq.setCell (by simp) _, fun x y hxy => ?_, fun x y hxy => by simp [mark, hmo x y hxy], fun x hx h1 => ?_⟩
                            · simp [mark] at hxy
                              rcases hxy with h | ⟨rfl, rfl⟩
                              · exact hSo x y h
                              · exact (hSo x u hru).step HE.out
                            · by_cases ex : x = q
                              · subst ex; simp [mark]
                              · simp [mark, hst x (by omega) h1]
                      · have hq10 : q = 10 := by omega
                        subst hq10
                        have AQ := hide (And.intro hMt (And.intro hbq (And.intro hSo (And.intro hmo hst))))
                        clear hMt hbq hSo hmo hst
                        go_wp2_with fail
                        go_roundg (j - (e + 1))
                        case measure => omega
                        case rel =>
                          obtain ⟨hMt, hbq, hSo, hmo, hst⟩ := AQ.out
                          obtain ⟨_, _, _, hmo1, hst1⟩ := AN.out
                          refine ⟨e + 1, r2, by omega, rfl, by go_num, hMt, hbq, hSo, fun x y h => hmo x y (hmo1 x y h), fun x a c hx h1 h2 => ?_⟩
                          rcases (EdgeIn.more (by omega) HU.out HV.out a c).1 h2 with h3 | ⟨rfl, rfl⟩
                          · exact hmo x c (hst1 x a c hx h1 h3)
                          · exact hst x hx (hmo1 x a h1)
                · have hej : e = j := by omega
                  subst hej
                  have AN := hide (And.intro hMt (And.intro hbq (And.intro hSo (And.intro hmo hst))))
                  clear hMt hbq hSo hmo hst
                  go_wp2_with fail
                  go_roundg (10 - (k + 1))
                  case measure => omega
                  case rel =>
                    obtain ⟨hMt, hbq, hSo, hmo, hst⟩ := AN.out
                    obtain ⟨_, _, hF, _, hD⟩ := AM.out
                    exact ⟨k + 1, r1, by omega, rfl, by go_num, hMt, hbq, hF.round (fun u v ⟨i, _, _, _, h3⟩ => by omega) hD hmo hst, hSo, fun x hx => hmo x x (hD x hx)⟩
            · have hk10 : k = 10 := by omega
              subst hk10
              have hS0 : wr.cell? ⟨w8.heap.size, x * 10 + y, none⟩ = some (.bool (r0 x y)) ∧ Graph wr w2.heap.size M S ∧ Below w8.heap.size w8 wr := ⟨hMt.cell hx hy, AG.out.2.1.below hbq, hbq⟩
              have hlast := (Full.last hF hSo (y := y) hx)
              have AL := hide (And.intro hlast AG.out.2.2)
              clear hMt hF hSo hD hlast hbq AM hn
              have hx' : (x : Int) < 10 := by omega
              have hy' : (y : Int) < 10 := by omega
              have hx0 : (0 : Int) ≤ (x : Int) := by omega
              have hy0 : (0 : Int) ≤ (y : Int) := by omega
              go_wp2_with fail
              go_region_held3 (fun w' => w'.cell? ⟨w8.heap.size, x * 10 + y, none⟩ = some (.bool (r0 x y)) ∧ Graph w' w2.heap.size M S ∧ Below w8.heap.size w8 w') (first | exact ⟨hS0.1, hS0.2.1, hS0.2.2.drew⟩ | exact last_keep ‹_› ‹_›)
                (first
                  | (go_at_call 10; refine (node_any _ (by omega) _).mono ?_; rintro e w' ⟨rfl, hb⟩)
                  | (go_at_call 13; refine (zzreaches_any _ x y M S _ ?qG hx hy).mono ?_; (case qG => exact And.left (And.right ‹_ ∧ _ ∧ _›)); rintro e w' ⟨b, rfl, hbb, hb⟩))
              have hfin : Below w8.heap.size w8 w' := And.right (And.right ‹_ ∧ Graph w' _ _ _ ∧ _›)
              have hEq : (b == r0 x y) = true := by
                have e1 : ∀ u v, Edge M S u v ↔ EdgeIn f j u v := AL.out.2
                have e2 : Rch (Edge M S) x y ↔ Rch (EdgeIn f j) x y := ⟨fun h => h.mono (fun u v => (e1 u v).1), fun h => h.mono (fun u v => (e1 u v).2)⟩
                have e3 : b = true ↔ r0 x y = true := hbb.trans (e2.trans AL.out.1.symm)
                exact beq_of_iff e3
              have HF := hide hfin
              clear hfin hbb
              go_wp2
              go_ret
              refine ⟨ret_bool hEq, ?_⟩
              have h2 := AG.out.1
              exact HB.out.trans ((h2.trans (HF.out.mono h2.size)).mono HB.out.size)

end Go.Proofs.Qxb6003670a.rc
