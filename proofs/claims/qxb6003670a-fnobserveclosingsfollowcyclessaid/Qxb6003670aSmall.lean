import Derived.Test.Qxb6003670aProg
import Derived.WalkKit
import Derived.WalkLawsBesides
import Derived.WalkSpells
import Derived.Outline
import Derived.Below
import Derived.Deep.LoopGhost
import Derived.Laws.BytesString
namespace Go.Proofs.Qxb6003670a.sm
open Go.RowKit

theorem hide {p : Prop} (h : p) : Hid p := h

/-- 'append', its run known. -/
theorem wpList_append_run {P : Program} {w w' : World} {ops : Array Oper} {rest : List Oper} {o : Oper} {a : Act} {Q : Exit → Act → World → Prop} (hgd : o.guard = none) (s x : Operand) (t : TypeId)
    (ho : o.op = .call { callee := .builtin .append, args := #[s, x], argTypes := #[t, t] }) (v1 v2 v' : Value) (hs : a.eval s = v1) (hx : a.eval x = v2)
    (hr : (Builtin.append_ #[t, t] o.type #[v1, v2]).run P w = .ok v' w') (h : wpList P ops Q rest (a.put o.dst v') w') : wpList P ops Q (o :: rest) a w := by
  refine wpList_plain hgd fun K hK => ?_
  unfold Oper.wp execOp
  simp only [ho, resolve, invoke, builtin, Sem.run_bind, Sem.run_pure, Result.andThen_ok, List.map_toArray, List.map_cons, List.map_nil, hs, hx, hr]
  exact hK _ _ h

/-- The name of node i. -/
def nd (i : Nat) : ByteArray := ⟨#[UInt8.ofNat (97 + i)]⟩

theorem bytesR_any (a0 : Option Addr) (l0 c0 : Nat) (a1 : Option Addr) (l1 c1 : Nat) (x y : Int) (w : World) :
    Calls Try.prog 7 #[.slice a0 l0 c0, .slice a1 l1 c1, .int .i64 x, .int .i64 y] w fun e w' => ∃ b, e = .returned (.bool b) ∧ w' = w := by
  go_enter Try.func7, Try.ntmps7
  go_wp2
  all_goals (go_ret; exact ⟨_, rfl, rfl⟩)

theorem from_any (b : Int) (h0 : 0 ≤ b) (h1 : b < 256) (w : World) :
    Calls Try.prog 11 #[.int .u8 b] w fun e w' => e = .returned (.int .i64 (b % 8)) ∧ w' = w := by
  go_enter Try.func11, Try.ntmps11
  go_wp2
  go_ret
  exact ⟨rfl, rfl⟩
theorem to_any (b : Int) (h0 : 0 ≤ b) (h1 : b < 256) (w : World) :
    Calls Try.prog 12 #[.int .u8 b] w fun e w' => e = .returned (.int .i64 (b / 8 % 8)) ∧ w' = w := by
  go_enter Try.func12, Try.ntmps12
  go_wp2
  go_ret
  exact ⟨rfl, rfl⟩
/-- 'string([]byte{x})'. -/
theorem conv1 (n : Int) (w : World) : (convert 22 9 (.slice (some ⟨w.heap.size, 0, none⟩) 1 1)).run Try.prog (w.alloc (.cells #[.int .u8 n] 5)) = .ok (.string ⟨#[UInt8.ofNat n.toNat]⟩) (w.alloc (.cells #[.int .u8 n] 5)) := by
  rw [run_convert_bytes_string _ 22 9 5 _ _ _ Try.underlying22 Try.underlying5 Try.underlying9]
  rw [run_bytesToString _ _ 1 1 [n] (by go_simp)]
  rfl
theorem node_any (i : Nat) (h : i < 100) (w : World) :
    Calls Try.prog 10 #[.int .i64 i] w fun e w' => e = .returned (.string (nd i)) ∧ Below w.heap.size w w' := by
  have hc : (convert 22 9 (.slice (some ⟨w.heap.size, 0, none⟩) 1 1)).run Try.prog (w.alloc (.cells #[.int .u8 (97 + (i : Int))] 5)) = .ok (.string (nd i)) (w.alloc (.cells #[.int .u8 (97 + (i : Int))] 5)) := by
    rw [conv1]
    unfold nd
    rw [show (97 + (i : Int)).toNat = 97 + i by omega]
  go_enter Try.func10, Try.ntmps10
  go_wp2
  go_ret
  exact ⟨rfl, (Below.refl _ _).alloc (Nat.le_refl _) _⟩
end Go.Proofs.Qxb6003670a.sm
