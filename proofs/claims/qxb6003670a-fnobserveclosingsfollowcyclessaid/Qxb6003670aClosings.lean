/-
  THE WALK OF 'countClosings'.
-/
import Derived.Test.Qxb6003670aTb
import Derived.Deep.RegionHeld3
import Derived.Deep.DrawnRows
import Derived.Laws.Slices
namespace Go.Proofs.Qxb6003670a.st
open Go.RowKit
open Go.Proofs.Qxb6003670a.sm Go.Proofs.Qxb6003670a.mp Go.Proofs.Qxb6003670a.pl Go.Proofs.Qxb6003670a.rc
open Go.ChangeMaps (setBlock)
attribute [local go_sem ↓] Go.wp_at_zero Go.wp_at_succ

/-- What may turn: the struct and the counts' blocks. -/
def TC (tb bo : Nat) (M : Nat → Option Nat) (i : Nat) : Prop := i = tb ∨ i = bo ∨ ∃ u, M u = some i

/-- What the loops of 'countClosings' keep. -/
structure KC (w wr : World) (tb bw bo bk bs g : Nat) (M0 M : Nat → Option Nat) (C : Nat → Nat → Int) (cl : Int) (L : List (Nat × Nat)) : Prop where
  stand : Stand wr bo M C
  tb_ : TB wr tb bw bo bk bs cl
  row : ERow wr g L
  fr : Fr w wr (TC tb bo M0) (TC tb bo M)
  gne : ¬ TC tb bo M g
  glt : g < wr.heap.size

section
variable {w wr w' : World} {tb bw bo bk bs g : Nat} {M0 M M' : Nat → Option Nat} {C C' : Nat → Nat → Int} {cl : Int} {L : List (Nat × Nat)}
theorem KC.count (h : KC w wr tb bw bo bk bs g M0 M C cl L) (hS : Stand w' bo M' C') (hs : Stp wr w' bo M M') : KC w w' tb bw bo bk bs g M0 M' C' cl L := by
  have hf := hs.fr (fun i => i = tb)
  have htb : w'.heap[tb]? = wr.heap[tb]? := hs.block tb h.tb_.lt (h.tb_.ne_map h.stand.graph.1) (fun u hu => h.tb_.ne_map (h.stand.graph.2 u tb hu) rfl)
  have hgb : w'.heap[g]? = wr.heap[g]? := hs.block g h.glt (fun e => h.gne (Or.inr (Or.inl e))) (fun u hu => h.gne (Or.inr (Or.inr ⟨u, hu⟩)))
  refine ⟨hS, h.tb_.kept htb, h.row.kept hgb, h.fr.trans hf, fun k => ?_, Nat.lt_of_lt_of_le h.glt hs.size⟩
  rcases hf.new g k with h1 | h1
  · exact h.gne h1
  · exact absurd h.glt (by omega)
theorem KC.below (h : KC w wr tb bw bo bk bs g M0 M C cl L) (hb : Below wr.heap.size wr w') : KC w w' tb bw bo bk bs g M0 M C cl L := h.count (h.stand.below hb) (Stp.of_below hb bo M)
theorem KC.drew (h : KC w wr tb bw bo bk bs g M0 M C cl L) : KC w wr.drew tb bw bo bk bs g M0 M C cl L :=
  ⟨⟨h.stand.graph, h.stand.sep, h.stand.live, h.stand.dead⟩, h.tb_, h.row, h.fr.drew, h.gne, h.glt⟩
theorem sub_bnd {X : List (Nat × Nat)} (hC : ∀ u v, -1000000 ≤ C u v ∧ C u v ≤ 1000000) (hX : X.length ≤ 1000) (u v : Nat) : -100000000 ≤ subL C X u v ∧ subL C X u v ≤ 100000000 := by
  have h1 := hC u v
  have h2 := occ_nonneg u v X
  have h3 := occ_le u v X
  unfold subL
  omega
theorem KC.close (h : KC w wr tb bw bo bk bs g M0 M C cl L) (c' : Int) : KC w (wr.setCell ⟨tb, 4, none⟩ (.int .i64 c')) tb bw bo bk bs g M0 M C c' L := by
  have hne : g ≠ tb := fun e => h.gne (Or.inl e)
  refine ⟨⟨⟨h.stand.graph.1.kept (Below.heap_setCell _ _ _ _ (fun e => h.tb_.ne_map h.stand.graph.1 e.symm)), fun u c hc => (h.stand.graph.2 u c hc).kept (Below.heap_setCell _ _ _ _ (fun e => h.tb_.ne_map (h.stand.graph.2 u c hc) e.symm))⟩, h.stand.sep, h.stand.live, h.stand.dead⟩, h.tb_.set c', h.row.kept (Below.heap_setCell _ _ _ _ hne), h.fr.setCell _ (Or.inl rfl), h.gne, by simpa [World.setCell] using h.glt⟩
end

theorem keep14 {w0 w w' : World} {tb bw bo bk bs g eb : Nat} {x : Value} {M0 M : Nat → Option Nat} {C : Nat → Nat → Int} {cl : Int} {L : List (Nat × Nat)}
    (h : w.cell? ⟨tb, 1, none⟩ = some (.map (some bo)) ∧ w.cell? ⟨eb, 1, none⟩ = some x ∧ KC w0 w tb bw bo bk bs g M0 M C cl L) (hb : Below w.heap.size w w') :
    w'.cell? ⟨tb, 1, none⟩ = some (.map (some bo)) ∧ w'.cell? ⟨eb, 1, none⟩ = some x ∧ KC w0 w' tb bw bo bk bs g M0 M C cl L :=
  ⟨(h.2.2.below hb).tb_.c1, (hb.cell (World.block_lt_of_cell? _ _ h.2.1)).trans h.2.1, h.2.2.below hb⟩

set_option maxRecDepth 20000 in
set_option maxHeartbeats 4000000 in
theorem closings_some (tb bw bo bk bs g cap : Nat) (M0 : Nat → Option Nat) (C : Nat → Nat → Int) (cl : Int) (L : List (Nat × Nat)) (w : World) (hK : KC w w tb bw bo bk bs g M0 M0 C cl L)
    (hn : L.length ≤ 1000) (hcap : L.length ≤ cap) (hcap2 : cap ≤ maxLen) (hL8 : ∀ e ∈ L, e.1 < 8 ∧ e.2 < 8) (hOne : ∀ e ∈ L, C e.1 e.2 = 1) (hSo : L.Pairwise (fun a b => a.1 ≤ b.1)) (hC : ∀ u v, -1000000 ≤ C u v ∧ C u v ≤ 1000000) (hcl : 0 ≤ cl ∧ cl ≤ 1000000) :
    Calls Try.prog 37 #[.pointer (some ⟨tb, 0, none⟩), .slice (some ⟨g, 0, none⟩) L.length cap] w fun e w' => e = .returned (.tuple #[]) ∧ ∃ (M : Nat → Option Nat) (d : Nat), KC w w' tb bw bo bk bs g M0 M C (cl + d) L ∧ CI C L [] d := by
  unfold maxLen at hcap2
  obtain ⟨n, hn'⟩ : ∃ n, n = L.length := ⟨_, rfl⟩
  rw [← hn'] at hn hcap ⊢
  have A := hide (And.intro hK (And.intro hn' (And.intro hL8 (And.intro hOne (And.intro hSo hC)))))
  clear hK hn' hL8 hOne hSo hC
  go_enter Try.func37, Try.ntmps37
  go_wp2_with fail
  go_loopg [13] n (fun m s wr => ∃ (i : Nat) (M : Nat → Option Nat), i ≤ n ∧ m = n - i ∧ s = .int .i64 (i : Int) ∧ KC w wr tb bw bo bk bs g M0 M (subL C (L.take i)) cl L)
  case atStart =>
    refine ⟨0, M0, by omega, rfl, rfl, ?_⟩
    have : subL C (L.take 0) = C := by funext x y; simp [subL, occ]
    rw [this]
    exact A.out.1
  case round =>
    obtain ⟨i, M, hi, hm, rfl, hK⟩ := hrel
    by_cases hlt : i < n
    · have hlt' : (i : Int) < (n : Int) := by omega
      have hiL : i < L.length := by rw [← A.out.2.1]; exact hlt
      obtain ⟨hc1, hc2⟩ := hK.row i hiL
      have hb8 := A.out.2.2.1 L[i] (List.getElem_mem hiL)
      obtain ⟨u, hu⟩ : ∃ u, u = L[i].1 := ⟨_, rfl⟩
      obtain ⟨v, hv⟩ : ∃ v, v = L[i].2 := ⟨_, rfl⟩
      have hsub := sub_take (C := C) hiL
      rw [← hu] at hc1 hb8 hsub
      rw [← hv] at hc2 hb8 hsub
      have hu8 := hb8.1
      have hv8 := hb8.2
      have AK := hide (And.intro hK hsub)
      clear hK hb8 hu hv hsub
      go_wp2_with fail
      have hKa := AK.out.1.below ((Below.refl wr.heap.size wr).alloc (Nat.le_refl _) (.cells #[.string (nd u), .string (nd v)] 65))
      have hbd := sub_bnd (X := L.take i) A.out.2.2.2.2.2 (by have := A.out.2.1; simp; omega) u v
      refine (count_any tb bo u v (-1) M (subL C (L.take i)) _ (by omega) (by omega) hKa.stand hKa.tb_.c1 (by omega) (by omega) hbd.1 hbd.2).mono ?_
      rintro e w5 ⟨rfl, M5, hS5, hst5⟩
      rw [AK.out.2] at hS5
      have hK5 := hKa.count hS5 hst5
      have A5 := hide hK5
      clear hK5 hS5 hst5 hKa hbd AK
      go_wp2_with fail
      go_roundg (n - (i + 1))
      case measure => omega
      case rel => exact ⟨i + 1, M5, by omega, rfl, by go_num, A5.out⟩
    · have hin : i = n := by omega
      subst hin
      have hK1 : KC w wr tb bw bo bk bs g M0 M (subL C (L.drop 0)) (cl + (0 : Nat)) L := by
        have e1 : L.take i = L := List.take_of_length_le (by rw [← A.out.2.1]; exact Nat.le_refl _)
        rw [e1] at hK
        simpa using hK
      have A1 := hide hK1
      clear hK1 hK hm hi
      go_wp2_with fail
      go_loopg [6] i (fun m s wr => ∃ (j d : Nat) (M : Nat → Option Nat), j ≤ i ∧ m = i - j ∧ s = .int .i64 (j : Int) ∧ KC w wr tb bw bo bk bs g M0 M (subL C (L.drop j)) (cl + d) L ∧ CI C (L.take j) (L.drop j) d)
      case atStart => exact ⟨0, 0, M, by omega, rfl, rfl, A1.out, CI.start C L⟩
      case round =>
        obtain ⟨f, d, M2, hf, hm, rfl, hK, hCI⟩ := hrel
        by_cases hfi : f < i
        · have hfi' : (f : Int) < (i : Int) := by omega
          have hfL : f < L.length := by rw [← A.out.2.1]; exact hfi
          obtain ⟨hc1, hc2⟩ := hK.row f hfL
          obtain ⟨u, hu⟩ : ∃ u, u = L[f].1 := ⟨_, rfl⟩
          rw [← hu] at hc1
          have hu8 : u < 8 := by rw [hu]; exact (A.out.2.2.1 L[f] (List.getElem_mem hfL)).1
          have AK := hide (And.intro hK hCI)
          have AU := hide (And.intro A.out.2.1 (And.intro hfL hu))
          clear hK hCI hu hc2
          go_wp2_with fail
          obtain ⟨G2, hG2⟩ : ∃ G2, G2 = gk := ⟨_, rfl⟩
          clear hc1
          go_loopg [6] (i - f) (fun m s wr => ∃ (j : Nat) (M : Nat → Option Nat), f ≤ j ∧ j ≤ i ∧ m = i - j ∧ s = .int .i64 (j : Int) ∧ KC w wr tb bw bo bk bs g M0 M (subL C (L.drop j)) (cl + d) L ∧ ∀ k (h : k < L.length), f ≤ k → k < j → L[k].1 = u)
          case atStart => exact ⟨f, M2, Nat.le_refl _, hf, rfl, rfl, AK.out.1, fun k _ h1 h2 => by omega⟩
          case round =>
            obtain ⟨j, M3, hfj, hji, hmj, rfl, hK, hall⟩ := hrel
            by_cases hlt : j < i
            · have hlt' : (j : Int) < (i : Int) := by omega
              have hjL : j < L.length := by rw [← AU.out.1]; exact hlt
              obtain ⟨hc1, hc2⟩ := hK.row j hjL
              have hb8 := A.out.2.2.1 L[j] (List.getElem_mem hjL)
              have hsub := sub_drop (C := C) hjL
              obtain ⟨x, hx⟩ : ∃ x, x = L[j].1 := ⟨_, rfl⟩
              obtain ⟨v, hv⟩ : ∃ v, v = L[j].2 := ⟨_, rfl⟩
              rw [← hx] at hc1 hb8 hsub
              rw [← hv] at hc2 hb8 hsub
              have hx8 := hb8.1
              have hv8 := hb8.2
              clear hb8
              by_cases hxu : x = u
              · subst hxu
                have heq : ((nd x).toList == (nd x).toList) = true := by simp
                have AJ := hide (And.intro hK (And.intro hsub (And.intro hx hall)))
                clear hK hsub hx hv hall
                go_wp2_with fail
                have hbd := sub_bnd (X := L.drop j) A.out.2.2.2.2.2 (by have := A.out.2.1; simp; omega) x v
                refine (count_any tb bo x v 1 M3 (subL C (L.drop j)) _ (by omega) (by omega) AJ.out.1.stand AJ.out.1.tb_.c1 (by omega) (by omega) hbd.1 hbd.2).mono ?_
                rintro e w5 ⟨rfl, M5, hS5, hst5⟩
                rw [AJ.out.2.1] at hS5
                have hK5 := AJ.out.1.count hS5 hst5
                have A5 := hide hK5
                clear hK5 hS5 hst5 hbd
                go_wp2_with fail
                go_roundg (i - (j + 1))
                case measure => omega
                case rel =>
                  refine ⟨j + 1, M5, by omega, by omega, rfl, by go_num, A5.out, fun k h h1 h2 => ?_⟩
                  by_cases ek : k = j
                  · subst ek; exact AJ.out.2.2.1.symm
                  · exact AJ.out.2.2.2 k h h1 (by omega)
              · have heq : ((nd x).toList == (nd u).toList) = false := nd_ne (by omega) (by omega) hxu
                have HX := hide hx
                clear hx hv hsub hc2
                have hfj : f < j := by
                  rcases Nat.lt_or_eq_of_le hfj with h | h
                  · exact h
                  · subst h; exact absurd AU.out.2.2.symm (fun h => hxu (by rw [HX.out]; exact h))
                obtain ⟨B, hdr, htk, hBu, hDu, hBm, hBo⟩ := split_group hfj (by rw [← AU.out.1]; exact hji) hall (fun h hh => hxu (by rw [HX.out]; exact hh)) A.out.2.2.2.2.1
                have AB := hide (And.intro hdr (And.intro htk (And.intro hBu (And.intro hDu (And.intro hBm hBo)))))
                have hfc : (f : Int) ≤ (j : Int) := by omega
                have hjc : (j : Int) ≤ (cap : Int) := by omega
                have AK3 := hide hK
                clear hK hdr htk hBu hDu hBm hBo hall
                go_wp2_with fail
                go_loopg [57] (j - f) (fun m s wr => ∃ k : Nat, k ≤ j - f ∧ m = j - f - k ∧ s = .int .i64 (k : Int) ∧ KC w wr tb bw bo bk bs g M0 M3 (subL C (L.drop j)) (cl + d) L ∧ ∀ k' (h : f + k' < L.length), k' < k → ¬ Rch (After (subL C (L.drop j))) L[f + k'].2 u)
                case atStart => exact ⟨0, by omega, rfl, rfl, AK3.out, fun k' _ h => by omega⟩
                case round =>
                  obtain ⟨k, hk, hmk, rfl, hK, hno⟩ := hrel
                  by_cases hkl : k < j - f
                  · have hkl' : (k : Int) < ((j - f : Nat) : Int) := by omega
                    have hfk : f + k < L.length := by have := AU.out.1; omega
                    obtain ⟨hc1, hc2⟩ := hK.row (f + k) hfk
                    obtain ⟨v, hv⟩ : ∃ v, v = L[f + k].2 := ⟨_, rfl⟩
                    have hb8 := A.out.2.2.1 L[f + k] (List.getElem_mem hfk)
                    have hmB := AB.out.2.2.2.2.1 k hfk (by omega)
                    have hxu : L[f + k].1 = u := AB.out.2.2.1 _ hmB
                    rw [hxu, Nat.add_mul] at hc1
                    rw [← hv, Nat.add_mul] at hc2
                    rw [← hv] at hb8
                    have hv8 := hb8.2
                    have hb1 : Below wr.heap.size wr (wr.alloc (.cells #[.string (nd u), .string (nd v)] 65)) := (Below.refl _ _).alloc (Nat.le_refl _) _
                    have hK1 := hK.below hb1
                    have hce : (wr.alloc (.cells #[.string (nd u), .string (nd v)] 65)).cell? ⟨wr.heap.size, 1, none⟩ = some (.string (nd v)) := by go_simp
                    obtain ⟨wq, hwq⟩ : ∃ wq, wq = wr.alloc (.cells #[.string (nd u), .string (nd v)] 65) := ⟨_, rfl⟩
                    obtain ⟨eb, heb⟩ : ∃ eb, eb = wr.heap.size := ⟨_, rfl⟩
                    rw [← hwq] at hK1 hce hb1
                    rw [← heb] at hce
                    have AQ := hide (And.intro hK1 (And.intro hv (And.intro hmB hno)))
                    clear hK hno hv hmB hxu hb8 hb1 hK1
                    go_wp2_with fail
                    rw [← hwq, ← heb]
                    clear hwq heb hc1 hc2
                    go_region_held3 (fun w' => w'.cell? ⟨tb, 1, none⟩ = some (.map (some bo)) ∧ w'.cell? ⟨eb, 1, none⟩ = some (.string (nd v)) ∧ KC w w' tb bw bo bk bs g M0 M3 (subL C (L.drop j)) (cl + d) L)
                      (first | exact ⟨AQ.out.1.tb_.c1, hce, AQ.out.1.drew⟩ | exact keep14 ‹_› ‹_›)
                      (first | (go_at_call 31; refine (reaches_any bo v u M3 (toS (subL C (L.drop j))) _ ?qG (by omega) (by omega)).mono ?_; (case qG => exact (And.right (And.right ‹_ ∧ _ ∧ KC w _ tb bw bo bk bs g M0 M3 (subL C (L.drop j)) (cl + d) L›)).stand.graph); rintro e w' ⟨b, rfl, hbb, hb⟩))
                    have hKf := And.right (And.right ‹_ ∧ _ ∧ KC w w' tb bw bo bk bs g M0 M3 (subL C (L.drop j)) (cl + d) L›)
                    have hR : b = true ↔ Rch (After (subL C (L.drop j))) v u := hbb.trans ⟨fun h => h.mono (fun x y => (edge_iff AQ.out.1.stand x y).1), fun h => h.mono (fun x y => (edge_iff AQ.out.1.stand x y).2)⟩
                    cases b with
                    | true =>
                      have hcl4 := hKf.tb_.c4
                      have hd8 : d ≤ 8 := Nat.le_trans AK.out.2.few (cnt_le _ 8)
                      have hfz4 := hKf.tb_.fz 4
                      have AF := hide (And.intro hKf hR)
                      clear hKf hR hbb
                      go_wp2_with fail
                      go_roundg (i - j)
                      case measure => omega
                      case rel =>
                        obtain ⟨hdr, htk, hBu, hDu, hBm, hBo⟩ := AB.out
                        have hCI := AK.out.2
                        rw [hdr] at hCI
                        refine ⟨j, d + 1, M3, hji, rfl, rfl, ?_, ?_⟩
                        · have hcl5 := AF.out.1.close (cl + d + 1)
                          rw [show cl + ((d + 1 : Nat) : Int) = cl + d + 1 by omega]
                          exact hcl5
                        · rw [htk]
                          refine hCI.hit (fun e he => A.out.2.2.2.1 e ?_) hBu hDu hu8 AQ.out.2.2.1 ?_
                          · rw [← hdr, List.take_append_drop] at he; exact he
                          · rw [← AQ.out.2.1]
                            exact AF.out.2.1 (by simp)
                    | false =>
                      have AF := hide (And.intro hKf hR)
                      clear hKf hR hbb
                      go_wp2_with fail
                      go_roundg (j - f - (k + 1))
                      case measure => omega
                      case rel =>
                        refine ⟨k + 1, by omega, rfl, by go_num, AF.out.1, fun k' h hk' => ?_⟩
                        by_cases ek : k' = k
                        · subst ek
                          rw [← AQ.out.2.1]
                          exact fun hr => (by have := AF.out.2.2 hr; cases this)
                        · exact AQ.out.2.2.2 k' h (by omega)
                  · have hkl' : ¬ (k : Int) < ((j - f : Nat) : Int) := by omega
                    have AQ := hide (And.intro hK hno)
                    clear hK hno
                    go_wp2_with fail
                    go_roundg (i - j)
                    case measure => omega
                    case rel =>
                      obtain ⟨hdr, htk, hBu, hDu, hBm, hBo⟩ := AB.out
                      have hCI := AK.out.2
                      rw [hdr] at hCI
                      refine ⟨j, d, M3, hji, rfl, rfl, AQ.out.1, ?_⟩
                      rw [htk]
                      refine hCI.miss (u := u) (fun e he => A.out.2.2.2.1 e ?_) hBu hDu (fun e he => ?_)
                      · rw [← hdr, List.take_append_drop] at he; exact he
                      · obtain ⟨k', h', hk', rfl⟩ := hBo e he
                        exact AQ.out.2 k' h' (by omega)
            · have hje : j = i := by omega
              have hnlt : ¬ (j : Int) < (i : Int) := by omega
              have HJ := hide hje
              clear hje
              have hfj : f < j := by
                rcases Nat.lt_or_eq_of_le hfj with h | h
                · exact h
                · subst h; exact absurd AU.out.2.2.symm (fun _ => by omega)
              obtain ⟨B, hdr, htk, hBu, hDu, hBm, hBo⟩ := split_group hfj (by rw [← AU.out.1]; exact hji) hall (fun h => absurd h (by rw [← AU.out.1]; omega)) A.out.2.2.2.2.1
              have AB := hide (And.intro hdr (And.intro htk (And.intro hBu (And.intro hDu (And.intro hBm hBo)))))
              have hfc : (f : Int) ≤ (j : Int) := by omega
              have hjc : (j : Int) ≤ (cap : Int) := by omega
              have AK3 := hide hK
              clear hK hdr htk hBu hDu hBm hBo hall
              go_wp2_with fail
              go_loopg [57] (j - f) (fun m s wr => ∃ k : Nat, k ≤ j - f ∧ m = j - f - k ∧ s = .int .i64 (k : Int) ∧ KC w wr tb bw bo bk bs g M0 M3 (subL C (L.drop j)) (cl + d) L ∧ ∀ k' (h : f + k' < L.length), k' < k → ¬ Rch (After (subL C (L.drop j))) L[f + k'].2 u)
              case atStart => exact ⟨0, by omega, rfl, rfl, AK3.out, fun k' _ h => by omega⟩
              case round =>
                obtain ⟨k, hk, hmk, rfl, hK, hno⟩ := hrel
                by_cases hkl : k < j - f
                · have hkl' : (k : Int) < ((j - f : Nat) : Int) := by omega
                  have hfk : f + k < L.length := by have := AU.out.1; omega
                  obtain ⟨hc1, hc2⟩ := hK.row (f + k) hfk
                  obtain ⟨v, hv⟩ : ∃ v, v = L[f + k].2 := ⟨_, rfl⟩
                  have hb8 := A.out.2.2.1 L[f + k] (List.getElem_mem hfk)
                  have hmB := AB.out.2.2.2.2.1 k hfk (by omega)
                  have hxu : L[f + k].1 = u := AB.out.2.2.1 _ hmB
                  rw [hxu, Nat.add_mul] at hc1
                  rw [← hv, Nat.add_mul] at hc2
                  rw [← hv] at hb8
                  have hv8 := hb8.2
                  have hb1 : Below wr.heap.size wr (wr.alloc (.cells #[.string (nd u), .string (nd v)] 65)) := (Below.refl _ _).alloc (Nat.le_refl _) _
                  have hK1 := hK.below hb1
                  have hce : (wr.alloc (.cells #[.string (nd u), .string (nd v)] 65)).cell? ⟨wr.heap.size, 1, none⟩ = some (.string (nd v)) := by go_simp
                  obtain ⟨wq, hwq⟩ : ∃ wq, wq = wr.alloc (.cells #[.string (nd u), .string (nd v)] 65) := ⟨_, rfl⟩
                  obtain ⟨eb, heb⟩ : ∃ eb, eb = wr.heap.size := ⟨_, rfl⟩
                  rw [← hwq] at hK1 hce hb1
                  rw [← heb] at hce
                  have AQ := hide (And.intro hK1 (And.intro hv (And.intro hmB hno)))
                  clear hK hno hv hmB hxu hb8 hb1 hK1
                  go_wp2_with fail
                  rw [← hwq, ← heb]
                  clear hwq heb hc1 hc2
                  go_region_held3 (fun w' => w'.cell? ⟨tb, 1, none⟩ = some (.map (some bo)) ∧ w'.cell? ⟨eb, 1, none⟩ = some (.string (nd v)) ∧ KC w w' tb bw bo bk bs g M0 M3 (subL C (L.drop j)) (cl + d) L)
                    (first | exact ⟨AQ.out.1.tb_.c1, hce, AQ.out.1.drew⟩ | exact keep14 ‹_› ‹_›)
                    (first | (go_at_call 31; refine (reaches_any bo v u M3 (toS (subL C (L.drop j))) _ ?qG (by omega) (by omega)).mono ?_; (case qG => exact (And.right (And.right ‹_ ∧ _ ∧ KC w _ tb bw bo bk bs g M0 M3 (subL C (L.drop j)) (cl + d) L›)).stand.graph); rintro e w' ⟨b, rfl, hbb, hb⟩))
                  have hKf := And.right (And.right ‹_ ∧ _ ∧ KC w w' tb bw bo bk bs g M0 M3 (subL C (L.drop j)) (cl + d) L›)
                  have hR : b = true ↔ Rch (After (subL C (L.drop j))) v u := hbb.trans ⟨fun h => h.mono (fun x y => (edge_iff AQ.out.1.stand x y).1), fun h => h.mono (fun x y => (edge_iff AQ.out.1.stand x y).2)⟩
                  cases b with
                  | true =>
                    have hcl4 := hKf.tb_.c4
                    have hd8 : d ≤ 8 := Nat.le_trans AK.out.2.few (cnt_le _ 8)
                    have hfz4 := hKf.tb_.fz 4
                    have AF := hide (And.intro hKf hR)
                    clear hKf hR hbb
                    go_wp2_with fail
                    go_roundg (i - j)
                    case measure => omega
                    case rel =>
                      obtain ⟨hdr, htk, hBu, hDu, hBm, hBo⟩ := AB.out
                      have hCI := AK.out.2
                      rw [hdr] at hCI
                      refine ⟨j, d + 1, M3, hji, rfl, rfl, ?_, ?_⟩
                      · have hcl5 := AF.out.1.close (cl + d + 1)
                        rw [show cl + ((d + 1 : Nat) : Int) = cl + d + 1 by omega]
                        exact hcl5
                      · rw [htk]
                        refine hCI.hit (fun e he => A.out.2.2.2.1 e ?_) hBu hDu hu8 AQ.out.2.2.1 ?_
                        · rw [← hdr, List.take_append_drop] at he; exact he
                        · rw [← AQ.out.2.1]
                          exact AF.out.2.1 (by simp)
                  | false =>
                    have AF := hide (And.intro hKf hR)
                    clear hKf hR hbb
                    go_wp2_with fail
                    go_roundg (j - f - (k + 1))
                    case measure => omega
                    case rel =>
                      refine ⟨k + 1, by omega, rfl, by go_num, AF.out.1, fun k' h hk' => ?_⟩
                      by_cases ek : k' = k
                      · subst ek
                        rw [← AQ.out.2.1]
                        exact fun hr => (by have := AF.out.2.2 hr; cases this)
                      · exact AQ.out.2.2.2 k' h (by omega)
                · have hkl' : ¬ (k : Int) < ((j - f : Nat) : Int) := by omega
                  have AQ := hide (And.intro hK hno)
                  clear hK hno
                  go_wp2_with fail
                  go_roundg (i - j)
                  case measure => omega
                  case rel =>
                    obtain ⟨hdr, htk, hBu, hDu, hBm, hBo⟩ := AB.out
                    have hCI := AK.out.2
                    rw [hdr] at hCI
                    refine ⟨j, d, M3, hji, rfl, rfl, AQ.out.1, ?_⟩
                    rw [htk]
                    refine hCI.miss (u := u) (fun e he => A.out.2.2.2.1 e ?_) hBu hDu (fun e he => ?_)
                    · rw [← hdr, List.take_append_drop] at he; exact he
                    · obtain ⟨k', h', hk', rfl⟩ := hBo e he
                      exact AQ.out.2 k' h' (by omega)
        · have hfe : f = i := by omega
          subst hfe
          have AK := hide (And.intro hK hCI)
          clear hK hCI
          go_wp2_with fail
          go_end0
          obtain ⟨hK, hCI⟩ := AK.out
          have e1 : L.take f = L := List.take_of_length_le (by rw [← A.out.2.1]; exact Nat.le_refl _)
          have e2 : L.drop f = [] := List.drop_of_length_le (by rw [← A.out.2.1]; exact Nat.le_refl _)
          rw [e1, e2] at hCI
          rw [e2] at hK
          have e3 : subL C [] = C := by funext x y; simp [subL, occ]
          rw [e3] at hK
          exact ⟨rfl, M2, d, hK, hCI⟩

end Go.Proofs.Qxb6003670a.st
