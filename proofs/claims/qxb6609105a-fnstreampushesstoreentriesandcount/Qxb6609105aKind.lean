import Derived.Test.Qxb6609105aChecked
import Derived.WalkKit
import Derived.WalkLawsBesides
import Derived.WalkSpells
import Derived.Lib.Strings
namespace Go.Proofs.Qxb6609105a
open Go.RowKit
theorem hideIt {p : Prop} (h : p) : Hid p := h
theorem ret_bool {a b : Bool} (h : a = b) : Ending.returned (.bool a) = .returned (.bool b) := by rw [h]
def IsBool (e : Ending) : Prop := ∃ r, e = .returned (.bool r)

set_option maxHeartbeats 400000 in
theorem bytes4_any (a b c d : ByteArray) (w : World) (ha : a.size ≤ maxLen) (hb : b.size ≤ maxLen) (hc : c.size ≤ maxLen) (hd : d.size ≤ maxLen) :
    Calls Try.prog 10 #[.string a, .string b, .string c, .string d] w fun e w' => IsBool e ∧ w' = w := by
  unfold maxLen at ha hb hc hd
  go_enter Try.func10, Try.ntmps10
  go_wp2
  all_goals go_ret
  all_goals exact ⟨⟨_, rfl⟩, rfl⟩

set_option maxHeartbeats 400000 in
theorem bytes9_any (a b : ByteArray) (x1 x2 x3 : Value) (c d : ByteArray) (x4 : Value) (f : ByteArray) (w : World) (ha : a.size ≤ maxLen) (hb : b.size ≤ maxLen) (hc : c.size ≤ maxLen) (hd : d.size ≤ maxLen) (hf : f.size ≤ maxLen) :
    Calls Try.prog 30 #[.string a, .string b, x1, x2, x3, .string c, .string d, x4, .string f] w fun e w' => IsBool e ∧ w' = w := by
  unfold maxLen at ha hb hc hd hf
  go_enter Try.func30, Try.ntmps30
  go_wp2
  all_goals go_ret
  all_goals exact ⟨⟨_, rfl⟩, rfl⟩
end Go.Proofs.Qxb6609105a
