import Derived.Test.Qxb6619006aProg
import Derived.WalkKit
import Derived.ProofKit
import Derived.WalkLawsBesides
import Derived.WalkSpells
namespace Go.Proofs.Qxb6619006a
open Go.RowKit
set_option linter.unusedVariables false

theorem ret_bool {a b : Bool} (h : a = b) : Ending.returned (.bool a) = .returned (.bool b) := by rw [h]

/-- BlockFromAbroad: any state of the HLR but abroad. -/
def blk (s : ByteArray) : Bool := !(s.toList == [97, 98, 114, 111, 97, 100])

theorem block_any (a b : ByteArray) (w : World) :
    Calls Try.prog 8 #[.string a, .string b] w fun e w' => e = .returned (.bool (blk a)) ∧ w' = w := by
  go_enter Try.func8, Try.ntmps8
  go_wp2
  go_ret
  exact ⟨rfl, rfl⟩
end Go.Proofs.Qxb6619006a
