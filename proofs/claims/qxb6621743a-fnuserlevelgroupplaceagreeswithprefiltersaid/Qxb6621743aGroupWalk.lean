/-
  LAW 2 (function 4): the walks on which a length passes the law's own bound: the call returns true at once.
-/
import Derived.Test.Qxb6621743aLevel
namespace Go.Proofs.Qxb6621743a
open Go.RowKit

set_option maxHeartbeats 400000 in
theorem group_long1 (f l u user : ByteArray) (m : Option Nat) (w : World) (h1 : (65536 : Int) < (f.size : Int)) :
    Calls Try.prog 4 #[.string f, .string l, .string u, .map m, .string user] w fun e w' => e = .returned (.bool true) ∧ Below w.heap.size w w' := by
  go_enter Try.func4, Try.ntmps4
  go_wp2
  go_ret
  exact ⟨rfl, Below.refl _ _⟩

set_option maxHeartbeats 400000 in
theorem group_long2 (f l u user : ByteArray) (m : Option Nat) (w : World) (h1 : (f.size : Int) ≤ 65536) (h2 : (65536 : Int) < (l.size : Int)) :
    Calls Try.prog 4 #[.string f, .string l, .string u, .map m, .string user] w fun e w' => e = .returned (.bool true) ∧ Below w.heap.size w w' := by
  go_enter Try.func4, Try.ntmps4
  go_wp2
  go_ret
  exact ⟨rfl, Below.refl _ _⟩

set_option maxHeartbeats 400000 in
theorem group_long3 (f l u user : ByteArray) (m : Option Nat) (w : World) (h1 : (f.size : Int) ≤ 65536) (h2 : (l.size : Int) ≤ 65536) (h3 : (65536 : Int) < (u.size : Int)) :
    Calls Try.prog 4 #[.string f, .string l, .string u, .map m, .string user] w fun e w' => e = .returned (.bool true) ∧ Below w.heap.size w w' := by
  go_enter Try.func4, Try.ntmps4
  go_wp2
  go_ret
  exact ⟨rfl, Below.refl _ _⟩

set_option maxHeartbeats 400000 in
theorem group_long4 (f l u user : ByteArray) (m : Option Nat) (w : World) (h1 : (f.size : Int) ≤ 65536) (h2 : (l.size : Int) ≤ 65536) (h3 : (u.size : Int) ≤ 65536) (h4 : (65536 : Int) < (user.size : Int)) :
    Calls Try.prog 4 #[.string f, .string l, .string u, .map m, .string user] w fun e w' => e = .returned (.bool true) ∧ Below w.heap.size w w' := by
  go_enter Try.func4, Try.ntmps4
  go_wp2
  go_ret
  exact ⟨rfl, Below.refl _ _⟩

set_option maxHeartbeats 400000 in
theorem group_long5 (f l u user : ByteArray) (m : Option Nat) (n : Nat) (c : Int) (b : Bool) (w : World) (hk : Looks m n user c b w) (h1 : (f.size : Int) ≤ 65536) (h2 : (l.size : Int) ≤ 65536) (h3 : (u.size : Int) ≤ 65536) (h4 : (user.size : Int) ≤ 65536) (h5 : (65536 : Int) < (n : Int)) :
    Calls Try.prog 4 #[.string f, .string l, .string u, .map m, .string user] w fun e w' => e = .returned (.bool true) ∧ Below w.heap.size w w' := by
  have hlen := (hk w (Below.refl _ _)).2
  clear hk
  go_enter Try.func4, Try.ntmps4
  go_wp2
  go_ret
  exact ⟨rfl, Below.refl _ _⟩

theorem group_long (f l u user : ByteArray) (m : Option Nat) (n : Nat) (c : Int) (b : Bool) (w : World) (hk : Looks m n user c b w)
    (h : 65536 < f.size ∨ 65536 < l.size ∨ 65536 < u.size ∨ 65536 < user.size ∨ 65536 < n) :
    Calls Try.prog 4 #[.string f, .string l, .string u, .map m, .string user] w fun e w' => e = .returned (.bool true) ∧ Below w.heap.size w w' := by
  by_cases h1 : 65536 < f.size
  · exact group_long1 f l u user m w (by omega)
  · by_cases h2 : 65536 < l.size
    · exact group_long2 f l u user m w (by omega) (by omega)
    · by_cases h3 : 65536 < u.size
      · exact group_long3 f l u user m w (by omega) (by omega) (by omega)
      · by_cases h4 : 65536 < user.size
        · exact group_long4 f l u user m w (by omega) (by omega) (by omega) (by omega)
        · exact group_long5 f l u user m n c b w hk (by omega) (by omega) (by omega) (by omega) (by omega)

end Go.Proofs.Qxb6621743a
