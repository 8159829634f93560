/-
  LAW 2 (function 4): the walks where every length is within the law's own bounds, one theorem a case of the input; then 'group_any': every input.
-/
import Derived.Test.Qxb6621743aGroupWalk
import Derived.Test.Qxb6621743aZFit
namespace Go.Proofs.Qxb6621743a
open Go.RowKit

theorem lvl_none (u : ByteArray) (c : Int) (b : Bool) : lvl u ⟨#[]⟩ c b = (3, 0, true) := by
  have h : (⟨#[]⟩ : ByteArray).toList.isEmpty = true := by rw [ByteArray.toList_eq]; rfl
  unfold lvl
  rw [if_pos h]

set_option maxHeartbeats 400000 in
/-- The rule names every user. -/
theorem group_every (f l u user : ByteArray) (m : Option Nat) (n : Nat) (c c0 : Int) (b b0 : Bool) (w : World) (hk : Looks m n user c b w) (hk0 : Looks m n ⟨#[]⟩ c0 b0 w)
    (h1 : (f.size : Int) ≤ 65536) (h2 : (l.size : Int) ≤ 65536) (h3 : (u.size : Int) ≤ 65536) (h4 : (user.size : Int) ≤ 65536) (h5 : (n : Int) ≤ 65536)
    (e1 : user.toList.isEmpty = true) :
    Calls Try.prog 4 #[.string f, .string l, .string u, .map m, .string user] w fun e w' => e = .returned (.bool true) ∧ Below w.heap.size w w' := by
  have hlen := (hk w (Below.refl _ _)).2
  have HK : Hid (Looks m n user c b w) := hk
  have HK0 : Hid (Looks m n ⟨#[]⟩ c0 b0 w) := hk0
  clear hk hk0
  have q1 : Hid (lvl u user c b = (3, 0, true)) := by unfold lvl; rw [e1]; rfl
  have q0 : Hid (lvl u ⟨#[]⟩ c0 b0 = (3, 0, true)) := lvl_none u c0 b0
  go_enter Try.func4, Try.ntmps4
  go_wp2_with fail
  refine (zzlevel_any f l u user m n _ _ w HK.out _ _ _ q1.out).mono ?_
  rintro e w1 ⟨rfl, hb1⟩
  have HK1 : Hid (Looks m n user _ _ w1) := HK.out.later hb1
  go_wp2_with fail
  refine (zfit_yes f l u user m n c b w1 HK1.out 3 0 (by decide) (by decide) q1.out).mono ?_
  rintro e w2 ⟨rfl, hb2⟩
  have hb12 : Below w.heap.size w w2 := hb1.trans (hb2.mono hb1.size)
  have HK2 : Hid (Looks m n ⟨#[]⟩ c0 b0 w2) := HK0.out.later hb12
  go_wp2_with fail
  refine (zfit_yes f l u ⟨#[]⟩ m n c0 b0 w2 HK2.out 3 0 (by decide) (by decide) q0.out).mono ?_
  rintro e w3 ⟨rfl, hb3⟩
  go_wp2
  go_ret
  exact ⟨rfl, hb12.trans (hb3.mono hb12.size)⟩

set_option maxHeartbeats 400000 in
/-- The rule names the query's own user. -/
theorem group_same (f l u user : ByteArray) (m : Option Nat) (n : Nat) (c c0 : Int) (b b0 : Bool) (w : World) (hk : Looks m n user c b w) (hk0 : Looks m n ⟨#[]⟩ c0 b0 w)
    (h1 : (f.size : Int) ≤ 65536) (h2 : (l.size : Int) ≤ 65536) (h3 : (u.size : Int) ≤ 65536) (h4 : (user.size : Int) ≤ 65536) (h5 : (n : Int) ≤ 65536)
    (e1 : user.toList.isEmpty = false) (e3 : (user.toList == u.toList) = true) :
    Calls Try.prog 4 #[.string f, .string l, .string u, .map m, .string user] w fun e w' => e = .returned (.bool true) ∧ Below w.heap.size w w' := by
  have hlen := (hk w (Below.refl _ _)).2
  have HK : Hid (Looks m n user c b w) := hk
  have HK0 : Hid (Looks m n ⟨#[]⟩ c0 b0 w) := hk0
  clear hk hk0
  have q1 : Hid (lvl u user c b = (0, 0, true)) := by unfold lvl; rw [e1, e3]; rfl
  have q0 : Hid (lvl u ⟨#[]⟩ c0 b0 = (3, 0, true)) := lvl_none u c0 b0
  go_enter Try.func4, Try.ntmps4
  go_wp2_with fail
  refine (zzlevel_any f l u user m n _ _ w HK.out _ _ _ q1.out).mono ?_
  rintro e w1 ⟨rfl, hb1⟩
  have HK1 : Hid (Looks m n user _ _ w1) := HK.out.later hb1
  go_wp2_with fail
  refine (zfit_yes f l u user m n c b w1 HK1.out 0 0 (by decide) (by decide) q1.out).mono ?_
  rintro e w2 ⟨rfl, hb2⟩
  have hb12 : Below w.heap.size w w2 := hb1.trans (hb2.mono hb1.size)
  have HK2 : Hid (Looks m n ⟨#[]⟩ c0 b0 w2) := HK0.out.later hb12
  go_wp2_with fail
  refine (zfit_yes f l u ⟨#[]⟩ m n c0 b0 w2 HK2.out 3 0 (by decide) (by decide) q0.out).mono ?_
  rintro e w3 ⟨rfl, hb3⟩
  go_wp2
  go_ret
  exact ⟨rfl, hb12.trans (hb3.mono hb12.size)⟩

set_option maxHeartbeats 400000 in
/-- Another user, which the map does not list. -/
theorem group_none (f l u user : ByteArray) (m : Option Nat) (n : Nat) (c c0 : Int) (b b0 : Bool) (w : World) (hk : Looks m n user c b w) (hk0 : Looks m n ⟨#[]⟩ c0 b0 w)
    (h1 : (f.size : Int) ≤ 65536) (h2 : (l.size : Int) ≤ 65536) (h3 : (u.size : Int) ≤ 65536) (h4 : (user.size : Int) ≤ 65536) (h5 : (n : Int) ≤ 65536)
    (e1 : user.toList.isEmpty = false) (e3 : (user.toList == u.toList) = false) (e4 : b = false) :
    Calls Try.prog 4 #[.string f, .string l, .string u, .map m, .string user] w fun e w' => e = .returned (.bool true) ∧ Below w.heap.size w w' := by
  have hlen := (hk w (Below.refl _ _)).2
  have HK : Hid (Looks m n user c b w) := hk
  have HK0 : Hid (Looks m n ⟨#[]⟩ c0 b0 w) := hk0
  clear hk hk0
  have q1 : Hid (lvl u user c b = (0, 0, false)) := by unfold lvl; rw [e1, e3, e4]; rfl
  have q0 : Hid (lvl u ⟨#[]⟩ c0 b0 = (3, 0, true)) := lvl_none u c0 b0
  subst e4
  go_enter Try.func4, Try.ntmps4
  go_wp2_with fail
  refine (zzlevel_any f l u user m n _ _ w HK.out _ _ _ q1.out).mono ?_
  rintro e w1 ⟨rfl, hb1⟩
  have HK1 : Hid (Looks m n user _ _ w1) := HK.out.later hb1
  have hrun := (HK.out w1 hb1).1
  go_wp2_with fail
  refine (zfit_no f l u user m n c false w1 HK1.out 0 0 q1.out).mono ?_
  rintro e w2 ⟨rfl, hb2⟩
  have hb12 : Below w.heap.size w w2 := hb1.trans (hb2.mono hb1.size)
  have HK2 : Hid (Looks m n ⟨#[]⟩ c0 b0 w2) := HK0.out.later hb12
  go_wp2_with fail
  refine (zfit_yes f l u ⟨#[]⟩ m n c0 b0 w2 HK2.out 3 0 (by decide) (by decide) q0.out).mono ?_
  rintro e w3 ⟨rfl, hb3⟩
  go_wp2
  go_ret
  exact ⟨rfl, hb12.trans (hb3.mono hb12.size)⟩

set_option maxHeartbeats 400000 in
/-- Another user, listed at place 0. -/
theorem group_first (f l u user : ByteArray) (m : Option Nat) (n : Nat) (c c0 : Int) (b b0 : Bool) (w : World) (hk : Looks m n user c b w) (hk0 : Looks m n ⟨#[]⟩ c0 b0 w)
    (h1 : (f.size : Int) ≤ 65536) (h2 : (l.size : Int) ≤ 65536) (h3 : (u.size : Int) ≤ 65536) (h4 : (user.size : Int) ≤ 65536) (h5 : (n : Int) ≤ 65536)
    (e1 : user.toList.isEmpty = false) (e3 : (user.toList == u.toList) = false) (e4 : b = true) (e5 : (c == 0) = true) :
    Calls Try.prog 4 #[.string f, .string l, .string u, .map m, .string user] w fun e w' => e = .returned (.bool true) ∧ Below w.heap.size w w' := by
  have hlen := (hk w (Below.refl _ _)).2
  have HK : Hid (Looks m n user c b w) := hk
  have HK0 : Hid (Looks m n ⟨#[]⟩ c0 b0 w) := hk0
  clear hk hk0
  have q1 : Hid (lvl u user c b = (1, 0, true)) := by unfold lvl; rw [e1, e3, e4, e5]; rfl
  have q0 : Hid (lvl u ⟨#[]⟩ c0 b0 = (3, 0, true)) := lvl_none u c0 b0
  subst e4
  obtain rfl : c = 0 := by simpa using e5
  clear e5
  go_enter Try.func4, Try.ntmps4
  go_wp2_with fail
  refine (zzlevel_any f l u user m n _ _ w HK.out _ _ _ q1.out).mono ?_
  rintro e w1 ⟨rfl, hb1⟩
  have HK1 : Hid (Looks m n user _ _ w1) := HK.out.later hb1
  have hrun := (HK.out w1 hb1).1
  go_wp2_with fail
  refine (zfit_yes f l u user m n 0 true w1 HK1.out 1 0 (by decide) (by decide) q1.out).mono ?_
  rintro e w2 ⟨rfl, hb2⟩
  have hb12 : Below w.heap.size w w2 := hb1.trans (hb2.mono hb1.size)
  have HK2 : Hid (Looks m n ⟨#[]⟩ c0 b0 w2) := HK0.out.later hb12
  go_wp2_with fail
  refine (zfit_yes f l u ⟨#[]⟩ m n c0 b0 w2 HK2.out 3 0 (by decide) (by decide) q0.out).mono ?_
  rintro e w3 ⟨rfl, hb3⟩
  go_wp2
  go_ret
  exact ⟨rfl, hb12.trans (hb3.mono hb12.size)⟩

set_option maxHeartbeats 400000 in
/-- Another user, listed at another place. -/
theorem group_later (f l u user : ByteArray) (m : Option Nat) (n : Nat) (c c0 : Int) (b b0 : Bool) (w : World) (hk : Looks m n user c b w) (hk0 : Looks m n ⟨#[]⟩ c0 b0 w)
    (h1 : (f.size : Int) ≤ 65536) (h2 : (l.size : Int) ≤ 65536) (h3 : (u.size : Int) ≤ 65536) (h4 : (user.size : Int) ≤ 65536) (h5 : (n : Int) ≤ 65536)
    (e1 : user.toList.isEmpty = false) (e3 : (user.toList == u.toList) = false) (e4 : b = true) (e5 : (c == 0) = false) :
    Calls Try.prog 4 #[.string f, .string l, .string u, .map m, .string user] w fun e w' => e = .returned (.bool true) ∧ Below w.heap.size w w' := by
  have hlen := (hk w (Below.refl _ _)).2
  have HK : Hid (Looks m n user c b w) := hk
  have HK0 : Hid (Looks m n ⟨#[]⟩ c0 b0 w) := hk0
  clear hk hk0
  have q1 : Hid (lvl u user c b = (2, c, true)) := by unfold lvl; rw [e1, e3, e4, e5]; rfl
  have q0 : Hid (lvl u ⟨#[]⟩ c0 b0 = (3, 0, true)) := lvl_none u c0 b0
  subst e4
  go_enter Try.func4, Try.ntmps4
  go_wp2_with fail
  refine (zzlevel_any f l u user m n _ _ w HK.out _ _ _ q1.out).mono ?_
  rintro e w1 ⟨rfl, hb1⟩
  have HK1 : Hid (Looks m n user _ _ w1) := HK.out.later hb1
  have hrun := (HK.out w1 hb1).1
  go_wp2_with fail
  refine (zfit_yes f l u user m n c true w1 HK1.out 2 c (by decide) (by decide) q1.out).mono ?_
  rintro e w2 ⟨rfl, hb2⟩
  have hb12 : Below w.heap.size w w2 := hb1.trans (hb2.mono hb1.size)
  have HK2 : Hid (Looks m n ⟨#[]⟩ c0 b0 w2) := HK0.out.later hb12
  go_wp2_with fail
  refine (zfit_yes f l u ⟨#[]⟩ m n c0 b0 w2 HK2.out 3 0 (by decide) (by decide) q0.out).mono ?_
  rintro e w3 ⟨rfl, hb3⟩
  go_wp2
  go_ret
  exact ⟨rfl, hb12.trans (hb3.mono hb12.size)⟩

/-- LAW 2, ITS WALK: every input. -/
theorem group_any (f l u user : ByteArray) (m : Option Nat) (n : Nat) (c c0 : Int) (b b0 : Bool) (w : World) (hk : Looks m n user c b w) (hk0 : Looks m n ⟨#[]⟩ c0 b0 w) :
    Calls Try.prog 4 #[.string f, .string l, .string u, .map m, .string user] w fun e w' => e = .returned (.bool true) ∧ Below w.heap.size w w' := by
  by_cases h : 65536 < f.size ∨ 65536 < l.size ∨ 65536 < u.size ∨ 65536 < user.size ∨ 65536 < n
  · exact group_long f l u user m n c b w hk h
  · have h1 : (f.size : Int) ≤ 65536 := by omega
    have h2 : (l.size : Int) ≤ 65536 := by omega
    have h3 : (u.size : Int) ≤ 65536 := by omega
    have h4 : (user.size : Int) ≤ 65536 := by omega
    have h5 : (n : Int) ≤ 65536 := by omega
    cases e1 : user.toList.isEmpty with
    | true => exact group_every f l u user m n c c0 b b0 w hk hk0 h1 h2 h3 h4 h5 e1
    | false =>
      cases e3 : (user.toList == u.toList) with
      | true => exact group_same f l u user m n c c0 b b0 w hk hk0 h1 h2 h3 h4 h5 e1 e3
      | false =>
        cases e4 : b with
        | false => exact group_none f l u user m n c c0 false b0 w (e4 ▸ hk) hk0 h1 h2 h3 h4 h5 e1 e3 rfl
        | true =>
          cases e5 : (c == 0) with
          | true => exact group_first f l u user m n c c0 true b0 w (e4 ▸ hk) hk0 h1 h2 h3 h4 h5 e1 e3 rfl e5
          | false => exact group_later f l u user m n c c0 true b0 w (e4 ▸ hk) hk0 h1 h2 h3 h4 h5 e1 e3 rfl e5

end Go.Proofs.Qxb6621743a
