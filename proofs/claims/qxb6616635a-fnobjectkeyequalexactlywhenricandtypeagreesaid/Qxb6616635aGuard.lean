/-
  THE WALK of the size guard (4): six strings.
-/
import Derived.Test.Qxb6616635aRows
import Derived.WalkKit
import Derived.WalkSpells
namespace Go.Proofs.Qxb6616635a.okey
open Go.RowKit

set_option maxHeartbeats 400000 in
theorem bytes_yes (a b c d e f : ByteArray) (w : World) (h : a.size + b.size + c.size + d.size + e.size + f.size ≤ 1048576) :
    Calls Try.prog 4 #[.string a, .string b, .string c, .string d, .string e, .string f] w fun x w' => x = .returned (.bool true) ∧ w = w' := by
  go_enter Try.func4, Try.ntmps4
  go_wp2
  go_ret
  exact ⟨rfl, rfl⟩

set_option maxHeartbeats 1000000 in
theorem bytes_no (a b c d e f : ByteArray) (w : World) (ha : a.size ≤ maxLen) (hb : b.size ≤ maxLen) (hc : c.size ≤ maxLen) (hd : d.size ≤ maxLen) (he : e.size ≤ maxLen) (hf : f.size ≤ maxLen) (h : 1048576 < a.size + b.size + c.size + d.size + e.size + f.size) :
    Calls Try.prog 4 #[.string a, .string b, .string c, .string d, .string e, .string f] w fun x w' => x = .returned (.bool false) ∧ w = w' := by
  unfold maxLen at ha hb hc hd he hf
  by_cases h1 : 1048576 < a.size
  · go_enter Try.func4, Try.ntmps4
    go_wp2
    go_ret
    exact ⟨rfl, rfl⟩
  · by_cases h2 : 1048576 < b.size
    · go_enter Try.func4, Try.ntmps4
      go_wp2
      go_ret
      exact ⟨rfl, rfl⟩
    · by_cases h3 : 1048576 < a.size + b.size
      · go_enter Try.func4, Try.ntmps4
        go_wp2
        go_ret
        exact ⟨rfl, rfl⟩
      · by_cases h4 : 1048576 < c.size
        · go_enter Try.func4, Try.ntmps4
          go_wp2
          go_ret
          exact ⟨rfl, rfl⟩
        · by_cases h5 : 1048576 < a.size + b.size + c.size
          · go_enter Try.func4, Try.ntmps4
            go_wp2
            go_ret
            exact ⟨rfl, rfl⟩
          · by_cases h6 : 1048576 < d.size
            · go_enter Try.func4, Try.ntmps4
              go_wp2
              go_ret
              exact ⟨rfl, rfl⟩
            · by_cases h7 : 1048576 < a.size + b.size + c.size + d.size
              · go_enter Try.func4, Try.ntmps4
                go_wp2
                go_ret
                exact ⟨rfl, rfl⟩
              · by_cases h8 : 1048576 < e.size
                · go_enter Try.func4, Try.ntmps4
                  go_wp2
                  go_ret
                  exact ⟨rfl, rfl⟩
                · by_cases h9 : 1048576 < a.size + b.size + c.size + d.size + e.size
                  · go_enter Try.func4, Try.ntmps4
                    go_wp2
                    go_ret
                    exact ⟨rfl, rfl⟩
                  · by_cases h10 : 1048576 < f.size
                    · go_enter Try.func4, Try.ntmps4
                      go_wp2
                      go_ret
                      exact ⟨rfl, rfl⟩
                    · go_enter Try.func4, Try.ntmps4
                      go_wp2
                      go_ret
                      exact ⟨rfl, rfl⟩

end Go.Proofs.Qxb6616635a.okey
