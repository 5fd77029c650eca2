/-
  MAPS KEYED BY EDGES AND BY SITES.
-/
import Derived.Test.Qxb6003670aTb
import Derived.DeepKeys4
namespace Go.Proofs.Qxb6003670a.st
open Go.RowKit
open Go.Proofs.Qxb6003670a.sm Go.Proofs.Qxb6003670a.mp Go.Proofs.Qxb6003670a.pl Go.Proofs.Qxb6003670a.rc

theorem laidOut : laidOutB Try.prog = true := by kernel_rfl
theorem tsize : Try.prog.types.size = 112 := by kernel_rfl
theorem row65 : 65 < Try.prog.types.size := by rw [tsize]; omega
theorem wide65 : (match Try.prog.underlying 65 with | some (.array _ _) | some (.struct _) => true | _ => false) = true := by kernel_rfl
theorem law65 : WideMaps.KeyLaw Try.prog 65 := deep_law_laid laidOut (m := 2) (by omega) row65 (by kernel_rfl) wide65

def edV (e : Nat × Nat) : Value := .agg #[.string (nd e.1), .string (nd e.2)]
def DE (e : Nat × Nat) : Prop := e.1 < 10 ∧ e.2 < 10

theorem keyE_reads (e : Nat × Nat) : ∃ l, keyOf Try.prog 65 (edV e) = some l := by
  have h1 : Try.prog.keyType 65 = true := by kernel_rfl
  have h2 : Try.prog.cellsOf 65 = 2 := by kernel_rfl
  have h9 : Try.prog.cellsOf 9 = 1 := by kernel_rfl
  have hf : (Value.agg #[.string (nd e.1), .string (nd e.2)]).formed Try.prog 65 = true := by simp [Value.formed, Try.underlying65, h2]
  have hk : Try.prog.keyLits (Try.prog.types.size + 1) 65 [.string (nd e.1), .string (nd e.2)] = some [.string (nd e.1).data.toList, .string (nd e.2).data.toList] := by
    have k9 : ∀ (d : Nat) (s : ByteArray), s.size ≤ maxLen → Try.prog.keyLits (d + 1) 9 [.string s] = some [.string s.data.toList] := fun d s hs => by
      unfold Program.keyLits
      rw [Try.underlying9]
      simp [hs]
    rw [tsize]
    unfold Program.keyLits
    rw [Try.underlying65]
    simp [h2, h9, k9, nd_size]
  have hx : keyOf Try.prog 65 (.agg #[.string (nd e.1), .string (nd e.2)]) = some (.string (keyBytes [.string (nd e.1).data.toList, .string (nd e.2).data.toList])) := by
    unfold keyOf
    rw [Try.underlying65]
    simp only [h1, hf, Bool.and_self, if_true, Value.cells, hk, Option.map_some]
  exact ⟨_, hx⟩

theorem keyE : KeyOK Try.prog 65 edV DE where
  keyed := Maps.Keyed.of_law law65
  reads e _ := keyE_reads e
  inj a b ha hb h := by
    unfold DE at ha hb
    unfold edV at h
    injection h with h1
    have h2 := congrArg Array.toList h1
    simp only [List.cons.injEq, Value.string.injEq, and_true] at h2
    obtain ⟨x, y⟩ := a
    obtain ⟨x', y'⟩ := b
    simp only at h2 ha hb
    rw [nd_inj (by omega) (by omega) h2.1, nd_inj (by omega) (by omega) h2.2]

/-- The name of site s. -/
def sn (s : Nat) : ByteArray := ⟨#[115, UInt8.ofNat (48 + s)]⟩
def snV (s : Nat) : Value := .string (sn s)
def D4 (s : Nat) : Prop := s < 4
theorem sn_size (s : Nat) : (sn s).size ≤ maxLen := by
  have : (sn s).size = 2 := rfl
  rw [this]
  decide
theorem sn_inj {i j : Nat} (hi : i < 100) (hj : j < 100) (h : sn i = sn j) : i = j := by
  unfold sn at h
  have h1 : UInt8.ofNat (48 + i) = UInt8.ofNat (48 + j) := by
    have := congrArg (fun b : ByteArray => b.data[1]?) h
    simpa using this
  have h2 := congrArg UInt8.toNat h1
  simp only [UInt8.toNat_ofNat'] at h2
  omega
theorem keyS : KeyOK Try.prog 9 snV D4 where
  keyed := Maps.string_keyed Try.underlying9
  reads a _ := ⟨_, WideMaps.keyOf_string_mk Try.underlying9 (sn_size a)⟩
  inj a a' ha ha' h := by
    unfold D4 at ha ha'
    unfold snV at h
    injection h with h1
    exact sn_inj (by omega) (by omega) h1

theorem zero79 (w : World) : (zeroValue 79).run Try.prog w = .ok (.map none) w := by kernel_rfl
theorem zero2 (w : World) : (zeroValue 2).run Try.prog w = .ok (.int .i64 0) w := by kernel_rfl

/-- 'g.waits[site]'. -/
theorem look73 {w : World} {b s : Nat} {W : Nat → Option Nat} (h : IsMap snV D4 mapV w b W) (hs : s < 4) : (Instr.lookup 73 (.map (some b)) (.string (sn s)) false).run Try.prog w = .ok (.map (W s)) w := by
  have k := h.look keyS Try.underlying73 (zero79 w) hs false
  cases hm : W s <;> rw [hm] at k <;> exact k

/-- A map of edges that may be nil: what it holds. -/
def OptMap (w : World) (r : Option Nat) (T : Nat × Nat → Option Int) : Prop := (r = none ∧ ∀ e, T e = none) ∨ ∃ c, r = some c ∧ IsMap edV DE intV w c T

/-- 'v, ok := m[e]'. -/
theorem look79 {w : World} {r : Option Nat} {T : Nat × Nat → Option Int} (h : OptMap w r T) {u v : Nat} (hu : u < 10) (hv : v < 10) : (Instr.lookup 79 (.map r) (.agg #[.string (nd u), .string (nd v)]) true).run Try.prog w = .ok (.tuple #[.int .i64 ((T (u, v)).getD 0), .bool (T (u, v)).isSome]) w := by
  rcases h with ⟨rfl, hT⟩ | ⟨c, rfl, hc⟩
  · rw [hT (u, v)]
    exact look_nil keyE Try.underlying79 (zero2 w) (a := (u, v)) ⟨hu, hv⟩ true
  · have k := hc.look keyE Try.underlying79 (zero2 w) (a := (u, v)) ⟨hu, hv⟩ true
    cases hm : T (u, v) <;> rw [hm] at k <;> exact k
theorem OptMap.kept {w w' : World} {r : Option Nat} {T : Nat × Nat → Option Int} (h : OptMap w r T) (e : ∀ c, r = some c → w'.heap[c]? = w.heap[c]?) : OptMap w' r T := by
  rcases h with h | ⟨c, hc, hm⟩
  · exact Or.inl h
  · exact Or.inr ⟨c, hc, hm.kept (e c hc)⟩

end Go.Proofs.Qxb6003670a.st
