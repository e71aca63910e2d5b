/-
  THE WALK of strings.Count at the substring of one byte, a star.
-/
import Derived.Test.Qxb6001183aCopy
import Derived.Lib.Bytealg
namespace Go.Proofs.Qxb6001183a
open Go.RowKit
set_option linter.unusedSimpArgs false
set_option linter.unusedVariables false

/-- How many stars. -/
def stars (p : ByteArray) : Nat := p.data.toList.count 42

set_option maxHeartbeats 400000 in
theorem count_star (p : ByteArray) (w : World) (hp : p.size ≤ 65536) :
    Calls Try.prog 24 #[.string p, .string ⟨#[42]⟩] w fun e w' => e = .returned (.int .i64 (stars p : Int)) ∧ w' = w := by
  go_enter Try.func24, Try.ntmps24
  go_wp2
  rw [run_callFunc_extern Try.func27 (by kernel_rfl) (by kernel_rfl) (by kernel_rfl) (e := Extern.BytealgCount.count) (by kernel_rfl), Lib.run_countString]
  simp only [Result.andThen]
  rw [Oper.upon_value]
  go_wp2
  go_ret
  exact ⟨rfl, rfl⟩

theorem count_ns (l : List UInt8) : ns l + l.count 42 = l.length := by
  unfold ns
  rw [← List.countP_eq_length_filter, List.count]
  have := List.length_eq_countP_add_countP (fun c : UInt8 => c == 42) (l := l)
  have e : List.countP (fun c : UInt8 => c != 42) l = List.countP (fun a => decide (¬(a == 42) = true)) l := by
    congr 1; funext a; rw [Bool.eq_iff_iff]; simp
  rw [e]; omega
theorem stars_ns (p : ByteArray) : ns p.data.toList + stars p = p.size := by
  have := count_ns p.data.toList
  simpa [stars] using this
end Go.Proofs.Qxb6001183a
