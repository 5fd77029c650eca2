/-
  THE WALK OF 'reaches'.
-/
import Derived.Test.Qxb6003670aClone
import Derived.Test.Qxb6003670aPlain
import Derived.Deep.AppendLies
import Derived.WalkSmall
import Derived.Laws.StructEq
namespace Go.Proofs.Qxb6003670a.rc
open Go.RowKit
open Go.Proofs.Qxb6003670a.sm Go.Proofs.Qxb6003670a.mp Go.Proofs.Qxb6003670a.pl
open Go.ChangeMaps (setBlock)

def ndV (i : Nat) : Value := .string (nd i)
def D10 (i : Nat) : Prop := i < 10
def intV (n : Int) : Value := .int .i64 n
def mapV (c : Nat) : Value := .map (some c)

theorem nd_inj {i j : Nat} (hi : i < 100) (hj : j < 100) (h : nd i = nd j) : i = j := by
  unfold nd at h
  have h1 : UInt8.ofNat (97 + i) = UInt8.ofNat (97 + j) := by
    have := congrArg (fun b : ByteArray => b.data[0]?) h
    simpa using this
  have h2 := congrArg UInt8.toNat h1
  simp only [UInt8.toNat_ofNat'] at h2
  omega

theorem nd_size (i : Nat) : (nd i).size ≤ maxLen := by
  have : (nd i).size = 1 := rfl
  rw [this]
  decide

theorem nd_ne {i j : Nat} (hi : i < 100) (hj : j < 100) (h : i ≠ j) : ((nd i).toList == (nd j).toList) = false := by
  rw [Bool.eq_false_iff]
  intro k
  rw [← beq_toListBytes] at k
  exact h (nd_inj hi hj ((MapKept.bytes_beq _ _).1 k))

theorem keyN : KeyOK Try.prog 9 ndV D10 where
  keyed := Maps.string_keyed Try.underlying9
  reads a _ := ⟨_, WideMaps.keyOf_string_mk Try.underlying9 (nd_size a)⟩
  inj a a' ha ha' h := by
    unfold D10 at ha ha'
    unfold ndV at h
    injection h with h1
    exact nd_inj (by omega) (by omega) h1

theorem zero30 (w : World) : (zeroValue 30).run Try.prog w = .ok (.map none) w := by kernel_rfl
theorem zero3 (w : World) : (zeroValue 3).run Try.prog w = .ok (.int .i64 0) w := by kernel_rfl
theorem zero4 (w : World) : (zeroValue 4).run Try.prog w = .ok (.bool false) w := by kernel_rfl

theorem look27 {w : World} {b u : Nat} {M : Nat → Option Nat} (h : IsMap ndV D10 mapV w b M) (hu : u < 10) : (Instr.lookup 27 (.map (some b)) (.string (nd u)) false).run Try.prog w = .ok (.map (M u)) w := by
  have k := h.look keyN Try.underlying27 (zero30 w) hu false
  cases hm : M u <;> rw [hm] at k <;> exact k
theorem look30 {w : World} {b u : Nat} {m : Nat → Option Int} (h : IsMap ndV D10 intV w b m) (hu : u < 10) : (Instr.lookup 30 (.map (some b)) (.string (nd u)) false).run Try.prog w = .ok (.int .i64 ((m u).getD 0)) w := by
  have k := h.look keyN Try.underlying30 (zero3 w) hu false
  cases hm : m u <;> rw [hm] at k <;> exact k
theorem look30nil (w : World) {u : Nat} (hu : u < 10) : (Instr.lookup 30 (.map none) (.string (nd u)) false).run Try.prog w = .ok (.int .i64 0) w :=
  look_nil keyN Try.underlying30 (zero3 w) (a := u) hu false
theorem look77 {w : World} {b u : Nat} {m : Nat → Option Bool} (h : IsMap ndV D10 Value.bool w b m) (hu : u < 10) : (Instr.lookup 77 (.map (some b)) (.string (nd u)) false).run Try.prog w = .ok (.bool ((m u).getD false)) w := by
  have k := h.look keyN Try.underlying77 (zero4 w) hu false
  cases hm : m u <;> rw [hm] at k <;> exact k

theorem info9 : (Try.prog.info? 9).map (fun i => (i.zero, i.size, i.bytes)) = some (some (.string ⟨#[]⟩), 1, 16) := by kernel_rfl

/-- 'stack = append(stack, s)'. -/
theorem push_run (w : World) (N g k cap : Nat) (xs : List Value) (s : ByteArray) (hown : w.ownsRow N 9 1 (.slice (some ⟨g, 0, none⟩) k cap) k xs) (hk : k ≤ 100000) (hN : N ≤ w.heap.size) :
    ∃ g' cap' w', (Builtin.append_ #[69, 69] 69 #[.slice (some ⟨g, 0, none⟩) k cap, .slice (some ⟨w.heap.size, 0, none⟩) 1 1]).run Try.prog (w.alloc (.cells #[.string s] 9)) = .ok (.slice (some ⟨g', 0, none⟩) (k + 1) cap') w' ∧
      w'.ownsRow N 9 1 (.slice (some ⟨g', 0, none⟩) (k + 1) cap') (k + 1) (xs ++ [.string s]) ∧ w.grownBy w' (some g) := by
  obtain ⟨i, hi, hzz⟩ := Option.map_eq_some_iff.1 info9
  simp only [Prod.mk.injEq] at hzz
  obtain ⟨hz, hs, hb⟩ := hzz
  obtain ⟨g', cap', w', h1, h2, h3, _, _⟩ := run_append_lies (P := Try.prog) (w.alloc (.cells #[.string s] 9)) 69 69 N 9 i _ 1 16 Try.underlying69 hi hz hs hb rfl (by omega) (.slice (some ⟨g, 0, none⟩) k cap) k xs (hown.alloc _)
    ⟨w.heap.size, 0, none⟩ 1 1 [.string s] rfl (cell_one_new w _ _) (by simp [Value.oneCell']) (by omega) (by unfold maxLen; omega) (by omega) (by simp; omega) _ rfl
  exact ⟨g', cap', w', h1, h2, (World.grownBy_alloc w _ (some g)).trans h3⟩

theorem own_cells {w : World} {N e size g n cap : Nat} {xs : List Value} (h : w.ownsRow N e size (.slice (some ⟨g, 0, none⟩) n cap) n xs) : N ≤ g ∧ ∃ cur, w.heap[g]? = some (.cells cur e (0, 0)) := by
  rcases h.2 with ⟨k, _⟩ | ⟨_, _, cur, k, hb, hc, _⟩
  · cases k
  · cases k; exact ⟨hb, cur, hc⟩
theorem own_ne_map {α β : Type} {mk : α → Value} {D : α → Prop} {mv : β → Value} {m : α → Option β} {w : World} {N e size g n cap b : Nat} {xs : List Value} (h : w.ownsRow N e size (.slice (some ⟨g, 0, none⟩) n cap) n xs) (k : IsMap mk D mv w b m) : g ≠ b := by
  obtain ⟨_, cur, hc⟩ := own_cells h
  obtain ⟨_, _, hb, _⟩ := k
  intro e1
  rw [e1, hb] at hc
  cases hc
theorem own_ne_iter {α β : Type} {mk : α → Value} {D : α → Prop} {mv : β → Value} {m : α → Option β} {left : α → Bool} {w : World} {N e size g n cap b r cnt : Nat} {xs : List Value} (h : w.ownsRow N e size (.slice (some ⟨g, 0, none⟩) n cap) n xs) (k : Ranging mk D mv w b r m left cnt) : g ≠ r := by
  obtain ⟨_, cur, hc⟩ := own_cells h
  obtain ⟨_, _, _, _, _, _, _, _, hr, _⟩ := k
  intro e1
  rw [e1, hr] at hc
  cases hc
theorem iter_ne_map {α β α' β' : Type} {mk : α → Value} {D : α → Prop} {mv : β → Value} {m : α → Option β} {left : α → Bool} {mk' : α' → Value} {D' : α' → Prop} {mv' : β' → Value} {m' : α' → Option β'} {w : World} {b r cnt b' : Nat} (k : Ranging mk D mv w b r m left cnt) (k' : IsMap mk' D' mv' w b' m') : r ≠ b' := by
  obtain ⟨_, _, _, _, _, _, _, _, hr, _⟩ := k
  obtain ⟨_, _, hb, _⟩ := k'
  intro e1
  rw [e1, hb] at hr
  cases hr

/-- The map of maps at bo: M its inner maps' blocks, S what they hold. -/
def Graph (w : World) (bo : Nat) (M : Nat → Option Nat) (S : Nat → Nat → Option Int) : Prop :=
  IsMap ndV D10 mapV w bo M ∧ ∀ u c, M u = some c → IsMap ndV D10 intV w c (S u)

/-- The graph of the keys. -/
def Edge (M : Nat → Option Nat) (S : Nat → Nat → Option Int) (u v : Nat) : Prop := ∃ c k, M u = some c ∧ S u v = some k

theorem Graph.below {w w' : World} {bo : Nat} {M : Nat → Option Nat} {S : Nat → Nat → Option Int} (h : Graph w bo M S) (hb : Below w.heap.size w w') : Graph w' bo M S :=
  ⟨h.1.kept (hb.block _ h.1.lt), fun u c hc => (h.2 u c hc).kept (hb.block _ (h.2 u c hc).lt)⟩

set_option maxHeartbeats 1000000 in
theorem reaches_any (bo i j : Nat) (M : Nat → Option Nat) (S : Nat → Nat → Option Int) (w : World) (hG : Graph w bo M S) (hi : i < 10) (hj : j < 10) :
    Calls Try.prog 31 #[.map (some bo), .string (nd i), .string (nd j)] w fun e w' => ∃ b, e = .returned (.bool b) ∧ (b = true ↔ Rch (Edge M S) i j) ∧ Below w.heap.size w w' := by
  have hmm := @run_makeMap Try.prog
  obtain ⟨o, hins, hsn⟩ := (IsMap.made ndV D10 Value.bool w).store keyN Try.underlying77 (a := i) hi true
  have hb1 : Below w.heap.size w (setBlock (w.alloc (.map #[] 0)) w.heap.size o) := ((Below.refl w.heap.size w).alloc (Nat.le_refl _) _).grown ((IsMap.made ndV D10 Value.bool w).grown o) (by simp) (by rintro k ⟨⟩; exact Nat.le_refl _)
  have hz1 : (setBlock (w.alloc (.map #[] 0)) w.heap.size o).heap.size = w.heap.size + 1 := by simp [setBlock]
  obtain ⟨w1, hw1⟩ : ∃ w1, w1 = setBlock (w.alloc (.map #[] 0)) w.heap.size o := ⟨_, rfl⟩
  rw [← hw1] at hins hsn hb1 hz1
  clear hw1
  have hins' : (Instr.mapUpdate 77 (.map (some w.heap.size)) (.string (nd i)) (.bool true)).run Try.prog (w.alloc (.map #[] 0)) = .ok () w1 := hins
  have A := hide hG
  have A1 := hide (And.intro hsn hb1)
  clear hG hsn hb1 hins
  go_enter Try.func31, Try.ntmps31
  go_wp2
  go_loopg [8] (2 * unseen (put (fun _ => none) i true) 10 + 1) (fun n s wr => ∃ (g cap k : Nat) (L : List Nat) (sn : Nat → Option Bool), s = .slice (some ⟨g, 0, none⟩) k cap ∧ L.length = k ∧ wr.ownsRow w.heap.size 9 1 s k (L.map ndV) ∧ IsMap ndV D10 Value.bool wr w.heap.size sn ∧ Below w.heap.size w wr ∧ Inv (Edge M S) i j L sn ∧ n = 2 * unseen sn 10 + k ∧ n ≤ 100)
  case atStart =>
    obtain ⟨hsn, hb1⟩ := A1.out
    refine ⟨_, _, 1, [i], _, rfl, rfl, ?_, hsn.kept ?_, hb1.alloc (by omega) _, Inv.begin hi (fun v => rfl), rfl, by have := unseen_le (put (fun _ => none) i true) 10; omega⟩
    · rw [← hz1]
      exact ⟨rfl, .inr ⟨w1.heap.size, 1, _, rfl, by omega, heap_alloc_new w1 _, Nat.le_refl _, by decide, rfl, rfl⟩⟩
    · exact (by rw [heap_alloc_old w1 _ (by omega)])
  case round =>
    obtain ⟨g, cap, k, L, sn, rfl, hk, hown, hsn, hb, hI, hn, hn100⟩ := hrel
    rcases List.eq_nil_or_concat L with rfl | ⟨L', u, hLu⟩
    · have hk0 : k = 0 := by simpa using hk.symm
      subst hk0
      have A2 := hide (And.intro hI hb)
      clear hown hsn hb hI hn hmm hins' hz1 hk
      go_wp2
      go_ret
      obtain ⟨hI, hb⟩ := A2.out
      exact ⟨false, rfl, ⟨fun h => (by cases h), fun h => absurd h hI.ended⟩, hb⟩
    · rw [List.concat_eq_append] at hLu
      subst hLu
      obtain ⟨k', rfl⟩ : ∃ k', k = k' + 1 := ⟨L'.length, by simpa using hk.symm⟩
      have hkl : L'.length = k' := by simpa using hk
      have hu10 : u < 10 := (hI.reach u (hI.stack u (by simp))).1
      have hcell : wr.cell? ⟨g, k', none⟩ = some (.string (nd u)) := by
        have := hown.cells (g := g) rfl k' (ndV u) (by simp [hkl])
        simp only [Addr.add_lit, Nat.zero_add] at this
        exact this
      have hown' : wr.ownsRow w.heap.size 9 1 (.slice (some ⟨g, 0, none⟩) k' cap) k' (L'.map ndV) := by
        refine ownsRow_pop (last := [ndV u]) (by simp [hkl]) ?_
        simpa using hown
      have hkb : k' + 1 ≤ cap ∧ cap ≤ maxLen := by
        rcases hown.2 with ⟨h, _⟩ | ⟨_, _, _, h, _, _, h1, h2, _⟩
        · cases h
        · cases h; exact ⟨h1, h2⟩
      obtain ⟨hkc, hcm⟩ := hkb
      unfold maxLen at hcm
      by_cases huj : u = j
      · subst huj
        have heq : ((nd u).toList == (nd u).toList) = true := by simp
        have A2 := hide (And.intro hI hb)
        clear hown hown' hsn hb hI hn hmm hins' hz1 hk
        go_wp2
        go_ret
        obtain ⟨hI, hb⟩ := A2.out
        exact ⟨true, rfl, ⟨fun _ => hI.found, fun _ => rfl⟩, hb⟩
      · have heq : ((nd u).toList == (nd j).toList) = false := nd_ne (by omega) (by omega) huj
        have hG := A.out.below hb
        have hlk := look27 hG.1 hu10
        cases hM : M u with
        | none =>
          rw [hM] at hlk
          have hrg : (Instr.range 30 (.map none)).run Try.prog wr = .ok (.pointer (some ⟨wr.heap.size, 0, none⟩)) (wr.alloc (.mapIter none 0 #[] 0)) := run_range_nilMap wr 30 9 3 Try.underlying30
          have hI' : Inv (Edge M S) i j L' sn := (hI.pop (left := fun _ => false) huj (fun x hx => by
            obtain ⟨c, _, hc, _⟩ := hx
            rw [hM] at hc
            cases hc)).done (fun _ => rfl)
          have hb2 := hb.alloc hb.size (.mapIter none 0 #[] 0)
          have hown2 := hown'.alloc (.mapIter none 0 #[] 0)
          have hsn2 := hsn.kept (heap_alloc_old wr (.mapIter none 0 #[] 0) hsn.lt)
          obtain ⟨w2, hw2⟩ : ∃ w2, w2 = wr.alloc (.mapIter none 0 #[] 0) := ⟨_, rfl⟩
          have hnx : (Instr.next (.pointer (some ⟨wr.heap.size, 0, none⟩)) false 0).run Try.prog w2 = .ok (.tuple #[.bool false]) w2 := by
            rw [hw2]
            exact run_next_nilMap wr 0 0 0 #[]
          rw [← hw2] at hrg hb2 hown2 hsn2
          have A2 := hide (And.intro hI' (And.intro hb2 (And.intro hown2 (And.intro hsn2 (And.intro hkl (And.intro hn hn100))))))
          clear hown hown' hsn hb hI hmm hins' hz1 hk hG hn hn100 hw2 hI' hb2 hown2 hsn2 hM hkl
          go_wp2
          refine wp_loop_rounds 1 ?_
          rw [rounds_succ]
          go_wp2
          go_roundg (2 * unseen sn 10 + k')
          case measure =>
            have := A2.out.2.2.2.2.2.1
            omega
          case rel =>
            obtain ⟨hI, hb, hown, hsn, hkl, hn, hn100⟩ := A2.out
            exact ⟨g, cap, k', L', sn, rfl, hkl, hown, hsn, hb, hI, rfl, by omega⟩
        | some c =>
          rw [hM] at hlk
          obtain ⟨cnt, w2, hrg, hra, hgr, hz2⟩ := (hG.2 u c hM).range keyN Try.underlying30
          have hbr := hb.grown hgr hb.size (fun k h => by cases h)
          have hsn2 := hsn.kept (hgr.block _ hsn.lt (by simp))
          have hown2 := hown'.kept hgr (Or.inr (by simp [Value.ownBlock]))
          have hMid : Mid (Edge M S) i j u L' sn (fun a => (S u a).isSome) := hI.pop huj (fun x hx => by
            obtain ⟨_, y, _, hy⟩ := hx
            simp [hy])
          obtain ⟨r, hr⟩ : ∃ r, r = wr.heap.size := ⟨_, rfl⟩
          rw [← hr] at hrg hra
          have A2 := hide (And.intro hMid (And.intro hbr (And.intro hown2 (And.intro hsn2 hra))))
          obtain ⟨G, hGk⟩ : ∃ G, G = gk := ⟨_, rfl⟩
          have AG := hide (And.intro hGk (And.intro hn hn100))
          have AK := hide (And.intro hkl (And.intro hM (And.intro (show w.heap.size ≤ r from by rw [hr]; exact hb.size) (A.out.2 u c hM).lt)))
          clear hown hown' hsn hb hI hmm hins' hz1 hk hra hgr hG hbr hsn2 hown2 hMid hr hGk hn hn100 hkl hM
          go_wp2
          go_loopg [8] cnt (fun n s w3 => ∃ (g cap k : Nat) (L : List Nat) (sn : Nat → Option Bool) (left : Nat → Bool), s = .slice (some ⟨g, 0, none⟩) k cap ∧ L.length = k ∧ w3.ownsRow w.heap.size 9 1 s k (L.map ndV) ∧ IsMap ndV D10 Value.bool w3 w.heap.size sn ∧ Ranging ndV D10 intV w3 c r (S u) left n ∧ Below w.heap.size w w3 ∧ Mid (Edge M S) i j u L sn left ∧ 2 * unseen sn 10 + k < G)
          case atStart =>
            obtain ⟨hMid, hbr, hown2, hsn2, hra⟩ := A2.out
            obtain ⟨hGk, hn, _⟩ := AG.out
            exact ⟨g, cap, k', L', sn, _, rfl, AK.out.1, hown2, hsn2, hra, hbr, hMid, by omega⟩
          case round =>
            obtain ⟨g, cap, k, L, sn, left, rfl, hk, hown, hsn, hra, hb, hMid, hlt⟩ := hrel
            rcases hra.next keyN 0 with ⟨hl, hnx⟩ | ⟨a, v, w4, cnt', ha, hla, hma, hnx, hra4, hcl, hgr, hsz, hen⟩
            · have A3 := hide (And.intro hMid (And.intro hb (And.intro hown (And.intro hsn (And.intro hk hl)))))
              clear hMid hb hown hsn hra hl hk A2
              go_wp2
              go_roundg (2 * unseen sn 10 + k)
              case measure =>
                have := AG.out.1
                omega
              case rel =>
                obtain ⟨hMid, hb, hown, hsn, hk, hl⟩ := A3.out
                have := AG.out
                exact ⟨g, cap, k, L, sn, rfl, hk, hown, hsn, hb, hMid.done hl, rfl, by omega⟩
            · have hb4 := hb.grown hgr hb.size (fun q h => by cases h; exact AK.out.2.2.1)
              have hrn := iter_ne_map hra hsn
              have hgn := own_ne_map hown hsn
              have hgr0 := own_ne_iter hown hra
              have hcN : c ≠ w.heap.size := by have := AK.out.2.2.2; omega
              have hsn4 := hsn.kept (hgr.block _ hsn.lt (by simp; exact fun e1 => hrn e1.symm))
              have hown4 := hown.kept hgr (Or.inr (by simp [Value.ownBlock]; exact hgr0))
              have ha10 : a < 10 := ha
              have hlk4 := look77 hsn4 ha10
              have hen' : (Instr.entry (.pointer (some ⟨r, 0, none⟩))).run Try.prog w4 = .ok (.tuple #[.string (nd a), .int .i64 v]) w4 := hen
              have hnx' : (Instr.next (.pointer (some ⟨r, 0, none⟩)) false 0).run Try.prog wr = .ok (.tuple #[.bool true, .string (nd a), .int .i64 v]) w4 := hnx
              clear hen hnx
              by_cases hsa : sn a = none
              · rw [hsa] at hlk4
                obtain ⟨o5, hst5, hsn5⟩ := hsn4.store keyN Try.underlying77 ha true
                have hgr5 := hsn4.grown o5
                obtain ⟨w5, hw5⟩ : ∃ w5, w5 = setBlock w4 w.heap.size o5 := ⟨_, rfl⟩
                rw [← hw5] at hst5 hsn5 hgr5
                clear hw5
                have hst' : (Instr.mapUpdate 77 (.map (some w.heap.size)) (.string (nd a)) (.bool true)).run Try.prog w4 = .ok () w5 := hst5
                clear hst5
                have hown5 := hown4.kept hgr5 (Or.inr (by simp [Value.ownBlock]; exact hgn))
                have hb5 := hb4.grown hgr5 hb4.size (fun q h => by cases h; exact Nat.le_refl _)
                have hra5 := hra4.kept (hgr5.block _ hra4.isMap.lt (by simp; exact hcN)) (hgr5.block _ hra4.lt (by simp; exact hrn))
                obtain ⟨g6, cap6, w6, hap, hown6, hgr6⟩ := push_run w5 w.heap.size g k cap (L.map ndV) (nd a) hown5 (by have := AG.out; omega) hb5.size
                have hsn6 := hsn5.kept (hgr6.block _ hsn5.lt (by simp; exact fun e1 => hgn e1.symm))
                have hra6 := hra5.kept (hgr6.block _ hra5.isMap.lt (by simp; exact fun e1 => own_ne_map hown hra.isMap e1.symm)) (hgr6.block _ hra5.lt (by simp; exact fun e1 => hgr0 e1.symm))
                have hb6 := hb5.grown hgr6 hb5.size (fun q h => by cases h; exact (own_cells hown5).1)
                have hMid6 := hMid.new hsa ha10 ⟨c, v, AK.out.2.1, hma⟩
                have A3 := hide (And.intro hMid6 (And.intro hb6 (And.intro hown6 (And.intro hsn6 (And.intro hk hra6)))))
                have hun := unseen_put sn a hsa 10
                rw [if_pos ha10] at hun
                have HU := hide hun
                have HAP := hide hap
                clear hrn hgn hgr0 hcN hMid hb hown hsn hra hk A2 hra4 hgr hb4 hsn4 hown4 hsn5 hgr5 hown5 hb5 hra5 hown6 hgr6 hsn6 hra6 hb6 hMid6 hun hsa hma hla ha hap
                go_wp2_with (at_builtin; refine wpList_append_run (by rfl) _ _ 69 (by rfl) _ _ _ (by rfl) (by rfl) HAP.out ?_)
                go_roundg cnt'
                case measure => omega
                case rel =>
                  obtain ⟨hMid, hb, hown, hsn, hk, hra⟩ := A3.out
                  have := HU.out
                  exact ⟨g6, cap6, k + 1, L ++ [a], _, _, rfl, by simp [hk], by rw [List.map_append]; exact hown, hsn, hra, hb, hMid, by omega⟩
              · have hst : sn a = some true := (hMid.reach a hsa).2.1
                rw [hst] at hlk4
                have A3 := hide (And.intro (hMid.old hsa) (And.intro hb4 (And.intro hown4 (And.intro hsn4 (And.intro hk hra4)))))
                clear hrn hgn hgr0 hcN hMid hb hown hsn hra hk A2 hra4 hgr hb4 hsn4 hown4 hst hsa hma hla ha
                go_wp2
                go_roundg cnt'
                case measure => omega
                case rel =>
                  obtain ⟨hMid, hb, hown, hsn, hk, hra⟩ := A3.out
                  exact ⟨g, cap, k, L, sn, _, rfl, hk, hown, hsn, hra, hb, hMid, hlt⟩

end Go.Proofs.Qxb6003670a.rc
