/-
  What the library's makers of floating-point numbers of 64 bits return at the arguments that the reference's draws hand them: minus zero, a NaN, both infinities; and numbers out of their bits. No condition.
-/
import Derived.Test.YtkeangeaemokhaaFloatSame
import Derived.Test.YtkeangeaemokhaaReader
namespace Go.Proofs.Ytkeangeaemokhaa
open Go.RowKit

def IsFloat (k : FloatKind) (v : Value) : Prop := ∃ b : Nat, (Lit.float k b).wf = true ∧ v = .float k b

def okFloat (k : FloatKind) : Value → Bool
  | .float k' b => decide (k' = k) && (Lit.float k b).wf
  | _ => false

theorem alloc_float (k : FloatKind) (w : World) (vs : Array Value) (t : TypeId) (ha : vs.toList.all (okFloat k) = true) (i : Nat) (hi : i < vs.size) : ∃ b, (Lit.float k b).wf = true ∧ (w.alloc (.cells vs t)).cell? ⟨w.heap.size, i, none⟩ = some (.float k b) := by
  have h := List.all_eq_true.1 ha _ (Array.getElem_mem_toList hi)
  rw [alloc_cell w vs t i hi]
  generalize vs[i] = v at h
  cases v <;> simp [okFloat] at h
  obtain ⟨rfl, h⟩ := h
  exact ⟨_, h, rfl⟩

theorem ret_float {k : FloatKind} {a b : Nat} (h : a = b) : Ending.returned (.float k a) = .returned (.float k b) := by rw [h]

theorem f64from (n : Int) (w : World) : (callFunc 39 #[.int .u64 n]).run Try.prog w = .ok (.value (.float .f64 n.toNat)) w := by
  rw [run_callFunc_extern Try.func39 (by kernel_rfl) (by kernel_rfl) (by kernel_rfl) (e := Extern.MathFloatBits.float64frombits) (by kernel_rfl)]
  rfl

theorem nan_call (w : World) : Calls Try.prog 33 #[] w fun e w' => e = .returned (.float .f64 9221120237041090561) ∧ w = w' := by
  have hf := f64from
  go_enter Try.func33, Try.ntmps33
  go_wp2
  go_ret
  exact ⟨rfl, rfl⟩

theorem inf_up (w : World) : Calls Try.prog 34 #[.int .i64 1] w fun e w' => e = .returned (.float .f64 9218868437227405312) ∧ w = w' := by
  have hf := f64from
  go_enter Try.func34, Try.ntmps34
  go_wp2
  go_ret
  exact ⟨rfl, rfl⟩

theorem inf_down (w : World) : Calls Try.prog 34 #[.int .i64 (-1)] w fun e w' => e = .returned (.float .f64 18442240474082181120) ∧ w = w' := by
  have hf := f64from
  go_enter Try.func34, Try.ntmps34
  go_wp2
  go_ret
  exact ⟨rfl, rfl⟩

theorem copysign_zero (w : World) : Calls Try.prog 32 #[.float .f64 0, .float .f64 13830554455654793216] w fun e w' => e = .returned (.float .f64 9223372036854775808) ∧ w = w' := by
  have hf := f64from
  have hb := f64bits
  go_enter Try.func32, Try.ntmps32
  go_wp2
  go_ret
  exact ⟨ret_float (by decide), rfl⟩

end Go.Proofs.Ytkeangeaemokhaa
