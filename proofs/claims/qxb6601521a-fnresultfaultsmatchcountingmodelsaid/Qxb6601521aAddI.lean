/-
  THE WALK of zzAdd (laws_root_b1.go): some int comes back.
-/
import Derived.Test.Qxb6601521aMsgs
namespace Go.Proofs.Qxb6601521a
open Go.RowKit
set_option linter.unusedVariables false

/-- It answers some int, and the world is as it was. -/
def AnyInt (e : Ending) (w w' : World) : Prop := ∃ t : Int, e = .returned (.int .i64 t) ∧ w = w'
theorem anyInt {e : Ending} {w w' : World} {t : Int} (h : e = .returned (.int .i64 t)) (h' : w = w') : AnyInt e w w' := ⟨t, h, h'⟩

set_option maxHeartbeats 400000 in
theorem zzAdd_any (t x s : Int) (w : World) : Calls Try.prog 23 #[.int .i64 t, .int .i64 x, .int .i64 s] w fun e w' => AnyInt e w w' := by
  by_cases h1 : t ≤ 1048576
  · by_cases h2 : x ≤ 1048576
    · go_enter Try.func23, Try.ntmps23
      go_wp2
      go_ret
      exact anyInt rfl rfl
    · go_enter Try.func23, Try.ntmps23
      go_wp2
      go_ret
      exact anyInt rfl rfl
  · go_enter Try.func23, Try.ntmps23
    go_wp2
    go_ret
    exact anyInt rfl rfl

end Go.Proofs.Qxb6601521a
