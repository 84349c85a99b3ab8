import Derived.Test.Qxb6601049aRows
import Derived.WalkKit
import Derived.ProofKit
import Derived.Below
import Derived.Deep.QuietTactic
import Derived.BigQuiet
import Derived.WalkSmall
import Derived.WalkSpells
namespace Go.Proofs.Qxb6601049a
open Go.ChangeShapes Go.WideShapes Go.ChangeAt Go.RowKit
set_option linter.unusedVariables false

theorem hide {p : Prop} (h : p) : Hid p := h

/-- a slice value's header leads to the numbers 'zs' -/
def RowAt (k : IntKind) (w : World) (a : Option Addr) (len : Nat) (zs : List Int) : Prop :=
  zs.length = len ∧ (len = 0 ∨ ∃ b off, a = some ⟨b, off, none⟩ ∧ ∀ i, i < len → w.cell? ⟨b, off + i, none⟩ = some (.int k (zs.getD i 0)))

set_option maxHeartbeats 400000 in
theorem zzBytes_any (a0 a2 : Option Addr) (len0 cap0 len2 cap2 : Nat) (n : Int) (w : World) (h0 : len0 ≤ maxLen) (h2 : len2 ≤ maxLen) :
    Calls Try.prog 8 #[.slice a0 len0 cap0, .int .i64 n, .slice a2 len2 cap2] w fun e w' => (∃ b, e = .returned (.bool b)) ∧ w' = w := by
  unfold maxLen at h0 h2
  go_enter Try.func8, Try.ntmps8
  go_wp2
  all_goals (go_ret; exact ⟨⟨_, rfl⟩, rfl⟩)

end Go.Proofs.Qxb6601049a
