/-
  THE WALKS OF 'userLevel' (7) AND 'ZZUserLevel' (5): what they return is 'lvl', whatever the map; nothing that was there turns.
-/
import Derived.Test.Qxb6621743aMap
import Derived.WalkLawsBesides
namespace Go.Proofs.Qxb6621743a
open Go.RowKit

/-- 'userLevel' in plain words: u: the query's user; c, b: what 'places[user]' gives. -/
def lvl (u user : ByteArray) (c : Int) (b : Bool) : Int × Int × Bool :=
  if user.toList.isEmpty = true then (3, 0, true)
  else if (user.toList == u.toList) = true then (0, 0, true)
  else if b = false then (0, 0, false)
  else if (c == 0) = true then (1, 0, true)
  else (2, c, true)

set_option maxHeartbeats 400000 in
theorem level_every (f l u user : ByteArray) (m : Option Nat) (w : World) (h1 : user.toList.isEmpty = true) :
    Calls Try.prog 7 #[.agg #[.string f, .string l, .string u, .map m], .string user] w fun e w' => e = .returned (.tuple #[.int .i64 3, .int .i64 0, .bool true]) ∧ Below w.heap.size w w' := by
  go_enter Try.func7, Try.ntmps7
  go_wp2
  go_ret3
  exact ⟨rfl, (Below.refl _ _).alloc (Nat.le_refl _) _⟩

set_option maxHeartbeats 400000 in
theorem level_own (f l u user : ByteArray) (m : Option Nat) (w : World) (h1 : user.toList.isEmpty = false) (h2 : (user.toList == u.toList) = true) :
    Calls Try.prog 7 #[.agg #[.string f, .string l, .string u, .map m], .string user] w fun e w' => e = .returned (.tuple #[.int .i64 0, .int .i64 0, .bool true]) ∧ Below w.heap.size w w' := by
  go_enter Try.func7, Try.ntmps7
  go_wp2
  go_ret3
  exact ⟨rfl, (Below.refl _ _).alloc (Nat.le_refl _) _⟩

set_option maxHeartbeats 400000 in
theorem level_none (f l u user : ByteArray) (m : Option Nat) (c : Int) (w : World) (h1 : user.toList.isEmpty = false) (h2 : (user.toList == u.toList) = false)
    (hrun : ∀ o, (Instr.lookup 22 (.map m) (.string user) true).run Try.prog (w.alloc o) = .ok (.tuple #[.int .i64 c, .bool false]) (w.alloc o)) :
    Calls Try.prog 7 #[.agg #[.string f, .string l, .string u, .map m], .string user] w fun e w' => e = .returned (.tuple #[.int .i64 0, .int .i64 0, .bool false]) ∧ Below w.heap.size w w' := by
  go_enter Try.func7, Try.ntmps7
  go_wp2
  go_ret3
  exact ⟨rfl, (Below.refl _ _).alloc (Nat.le_refl _) _⟩

set_option maxHeartbeats 400000 in
theorem level_group (f l u user : ByteArray) (m : Option Nat) (c : Int) (w : World) (h1 : user.toList.isEmpty = false) (h2 : (user.toList == u.toList) = false) (h3 : (c == 0) = true)
    (hrun : ∀ o, (Instr.lookup 22 (.map m) (.string user) true).run Try.prog (w.alloc o) = .ok (.tuple #[.int .i64 c, .bool true]) (w.alloc o)) :
    Calls Try.prog 7 #[.agg #[.string f, .string l, .string u, .map m], .string user] w fun e w' => e = .returned (.tuple #[.int .i64 1, .int .i64 0, .bool true]) ∧ Below w.heap.size w w' := by
  go_enter Try.func7, Try.ntmps7
  go_wp2
  go_ret3
  exact ⟨rfl, (Below.refl _ _).alloc (Nat.le_refl _) _⟩

set_option maxHeartbeats 400000 in
theorem level_later (f l u user : ByteArray) (m : Option Nat) (c : Int) (w : World) (h1 : user.toList.isEmpty = false) (h2 : (user.toList == u.toList) = false) (h3 : (c == 0) = false)
    (hrun : ∀ o, (Instr.lookup 22 (.map m) (.string user) true).run Try.prog (w.alloc o) = .ok (.tuple #[.int .i64 c, .bool true]) (w.alloc o)) :
    Calls Try.prog 7 #[.agg #[.string f, .string l, .string u, .map m], .string user] w fun e w' => e = .returned (.tuple #[.int .i64 2, .int .i64 c, .bool true]) ∧ Below w.heap.size w w' := by
  go_enter Try.func7, Try.ntmps7
  go_wp2
  go_ret3
  exact ⟨rfl, (Below.refl _ _).alloc (Nat.le_refl _) _⟩

/-- 'userLevel', ITS CONTRACT. -/
theorem level_any (f l u user : ByteArray) (m : Option Nat) (n : Nat) (c : Int) (b : Bool) (w : World) (hl : Looks m n user c b w) (lv wi : Int) (ok : Bool) (h : lvl u user c b = (lv, wi, ok)) :
    Calls Try.prog 7 #[.agg #[.string f, .string l, .string u, .map m], .string user] w fun e w' => e = .returned (.tuple #[.int .i64 lv, .int .i64 wi, .bool ok]) ∧ Below w.heap.size w w' := by
  have hrun : ∀ o, (Instr.lookup 22 (.map m) (.string user) true).run Try.prog (w.alloc o) = .ok (.tuple #[.int .i64 c, .bool b]) (w.alloc o) :=
    fun o => (hl (w.alloc o) ((Below.refl _ _).alloc (Nat.le_refl _) _)).1
  unfold lvl at h
  by_cases h1 : user.toList.isEmpty = true
  · rw [if_pos h1] at h
    cases h
    exact level_every f l u user m w h1
  · have h1' : user.toList.isEmpty = false := by simpa using h1
    rw [if_neg h1] at h
    by_cases h2 : (user.toList == u.toList) = true
    · rw [if_pos h2] at h
      cases h
      exact level_own f l u user m w h1' h2
    · have h2' : (user.toList == u.toList) = false := by simpa using h2
      rw [if_neg h2] at h
      cases b with
      | false =>
        rw [if_pos rfl] at h
        cases h
        exact level_none f l u user m c w h1' h2' hrun
      | true =>
        rw [if_neg (by decide)] at h
        by_cases h3 : (c == 0) = true
        · rw [if_pos h3] at h
          cases h
          exact level_group f l u user m c w h1' h2' h3 hrun
        · have h3' : (c == 0) = false := by simpa using h3
          rw [if_neg h3] at h
          cases h
          exact level_later f l u user m _ w h1' h2' h3' hrun

set_option maxHeartbeats 400000 in
/-- 'ZZUserLevel', ITS CONTRACT. -/
theorem zzlevel_any (f l u user : ByteArray) (m : Option Nat) (n : Nat) (c : Int) (b : Bool) (w : World) (hl : Looks m n user c b w) (lv wi : Int) (ok : Bool) (h : lvl u user c b = (lv, wi, ok)) :
    Calls Try.prog 5 #[.string f, .string l, .string u, .map m, .string user] w fun e w' => e = .returned (.tuple #[.int .i64 lv, .int .i64 wi, .bool ok]) ∧ Below w.heap.size w w' := by
  have HC := level_any f l u user m n c b w hl lv wi ok h
  have HD : Hid (Calls Try.prog 7 #[.agg #[.string f, .string l, .string u, .map m], .string user] w fun e w' => e = .returned (.tuple #[.int .i64 lv, .int .i64 wi, .bool ok]) ∧ Below w.heap.size w w') := HC
  clear HC h hl
  go_enter Try.func5, Try.ntmps5
  go_wp2_with fail
  refine HD.out.mono ?_
  rintro e w' ⟨rfl, hb⟩
  go_wp2
  go_ret3
  exact ⟨rfl, hb⟩
end Go.Proofs.Qxb6621743a
