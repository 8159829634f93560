/-
  LAW 1 (function 3): the walks on which a length passes the law's own bound: the call returns true at once.
-/
import Derived.Test.Qxb6621743aLevel
namespace Go.Proofs.Qxb6621743a
open Go.RowKit

set_option maxHeartbeats 400000 in
theorem own_long (f l u user : ByteArray) (m : Option Nat) (n : Nat) (c : Int) (b : Bool) (w : World) (hk : Looks m n user c b w)
    (h : 65536 < f.size ∨ 65536 < l.size ∨ 65536 < u.size ∨ 65536 < user.size ∨ 65536 < n) :
    Calls Try.prog 3 #[.string f, .string l, .string u, .map m, .string user] w fun e w' => e = .returned (.bool true) ∧ Below w.heap.size w w' := by
  have hlen := (hk w (Below.refl _ _)).2
  clear hk
  by_cases h1 : 65536 < f.size
  · clear h
    have h1' : (65536 : Int) < (f.size : Int) := by omega
    go_enter Try.func3, Try.ntmps3
    go_wp2
    go_ret
    exact ⟨rfl, Below.refl _ _⟩
  · by_cases h2 : 65536 < l.size
    · clear h
      go_enter Try.func3, Try.ntmps3
      go_wp2
      go_ret
      exact ⟨rfl, Below.refl _ _⟩
    · by_cases h3 : 65536 < u.size
      · clear h
        go_enter Try.func3, Try.ntmps3
        go_wp2
        go_ret
        exact ⟨rfl, Below.refl _ _⟩
      · by_cases h4 : 65536 < user.size
        · clear h
          go_enter Try.func3, Try.ntmps3
          go_wp2
          go_ret
          exact ⟨rfl, Below.refl _ _⟩
        · have h5 : 65536 < n := by omega
          clear h
          go_enter Try.func3, Try.ntmps3
          go_wp2
          go_ret
          exact ⟨rfl, Below.refl _ _⟩
end Go.Proofs.Qxb6621743a
