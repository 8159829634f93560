/-
  LAW 1 (function 3): the walks where every length is within the law's own bounds, one theorem a case of the input; then 'own_any': every input.
-/
import Derived.Test.Qxb6621743aOwnWalk
namespace Go.Proofs.Qxb6621743a
open Go.RowKit

theorem not_longer (s : ByteArray) : (s.toList == (s ++ ⟨#[0]⟩).toList) = false := by
  rw [ByteArray.toList_eq, ByteArray.toList_eq]
  have h : s.data.toList ≠ (s ++ ⟨#[0]⟩ : ByteArray).data.toList := by
    intro e
    have := congrArg List.length e
    simp [ByteArray.data_append] at this
  exact beq_eq_false_iff_ne.2 h

set_option maxHeartbeats 400000 in
/-- The query names the rule's user, which is not empty. -/
theorem own_same (f l u user : ByteArray) (m : Option Nat) (n : Nat) (c : Int) (b : Bool) (w : World) (hk : Looks m n user c b w)
    (h1 : ¬ 65536 < f.size) (h2 : ¬ 65536 < l.size) (h3 : ¬ 65536 < u.size) (h4 : ¬ 65536 < user.size) (h5 : ¬ 65536 < n)
    (e1 : user.toList.isEmpty = false) (e2 : (u.toList == user.toList) = true) (e3 : (user.toList == u.toList) = true) :
    Calls Try.prog 3 #[.string f, .string l, .string u, .map m, .string user] w fun e w' => e = .returned (.bool true) ∧ Below w.heap.size w w' := by
  have hlen := (hk w (Below.refl _ _)).2
  have HK : Hid (Looks m n user c b w) := hk
  clear hk
  have q1 : Hid (lvl u user c b = (0, 0, true)) := by unfold lvl; rw [e1, e3]; rfl
  have q2 : Hid (lvl user user c b = (0, 0, true)) := by
    have e4 : (user.toList == user.toList) = true := by simp
    unfold lvl; rw [e1, e4]; rfl
  obtain ⟨x, y, z, q3⟩ : ∃ x y z, Hid (lvl (user ++ ⟨#[0]⟩) user c b = (x, y, z)) := ⟨_, _, _, rfl⟩
  go_enter Try.func3, Try.ntmps3
  go_wp2_with fail
  refine (zzlevel_any f l u user m n c b w HK.out _ _ _ q1.out).mono ?_
  rintro e w1 ⟨rfl, hb1⟩
  have HK1 : Hid (Looks m n user c b w1) := HK.out.later hb1
  go_wp2_with fail
  refine (zzlevel_any f l user user m n c b w1 HK1.out _ _ _ q2.out).mono ?_
  rintro e w2 ⟨rfl, hb2⟩
  have HK2 : Hid (Looks m n user c b w2) := HK1.out.later hb2
  go_wp2_with fail
  refine (zzlevel_any f l _ user m n c b w2 HK2.out _ _ _ q3.out).mono ?_
  rintro e w3 ⟨rfl, hb3⟩
  go_wp2
  go_ret
  exact ⟨rfl, hb1.trans ((hb2.trans (hb3.mono hb2.size)).mono hb1.size)⟩

set_option maxHeartbeats 400000 in
/-- The rule names every user; the query's user is empty too. -/
theorem own_every_same (f l u user : ByteArray) (m : Option Nat) (n : Nat) (c : Int) (b : Bool) (w : World) (hk : Looks m n user c b w)
    (h1 : ¬ 65536 < f.size) (h2 : ¬ 65536 < l.size) (h3 : ¬ 65536 < u.size) (h4 : ¬ 65536 < user.size) (h5 : ¬ 65536 < n)
    (e1 : user.toList.isEmpty = true) (e2 : (u.toList == user.toList) = true) (e3 : (user.toList == u.toList) = true) :
    Calls Try.prog 3 #[.string f, .string l, .string u, .map m, .string user] w fun e w' => e = .returned (.bool true) ∧ Below w.heap.size w w' := by
  have hlen := (hk w (Below.refl _ _)).2
  have HK : Hid (Looks m n user c b w) := hk
  clear hk
  have q1 : Hid (lvl u user c b = (3, 0, true)) := by unfold lvl; rw [e1]; rfl
  have q2 : Hid (lvl user user c b = (3, 0, true)) := by unfold lvl; rw [e1]; rfl
  have q3 : Hid (lvl (user ++ ⟨#[0]⟩) user c b = (3, 0, true)) := by unfold lvl; rw [e1]; rfl
  go_enter Try.func3, Try.ntmps3
  go_wp2_with fail
  refine (zzlevel_any f l u user m n c b w HK.out _ _ _ q1.out).mono ?_
  rintro e w1 ⟨rfl, hb1⟩
  have HK1 : Hid (Looks m n user c b w1) := HK.out.later hb1
  go_wp2_with fail
  refine (zzlevel_any f l user user m n c b w1 HK1.out _ _ _ q2.out).mono ?_
  rintro e w2 ⟨rfl, hb2⟩
  have HK2 : Hid (Looks m n user c b w2) := HK1.out.later hb2
  go_wp2_with fail
  refine (zzlevel_any f l _ user m n c b w2 HK2.out _ _ _ q3.out).mono ?_
  rintro e w3 ⟨rfl, hb3⟩
  go_wp2
  go_ret
  exact ⟨rfl, hb1.trans ((hb2.trans (hb3.mono hb2.size)).mono hb1.size)⟩

set_option maxHeartbeats 400000 in
/-- The rule names every user; the query's user is another. -/
theorem own_every_other (f l u user : ByteArray) (m : Option Nat) (n : Nat) (c : Int) (b : Bool) (w : World) (hk : Looks m n user c b w)
    (h1 : ¬ 65536 < f.size) (h2 : ¬ 65536 < l.size) (h3 : ¬ 65536 < u.size) (h4 : ¬ 65536 < user.size) (h5 : ¬ 65536 < n)
    (e1 : user.toList.isEmpty = true) (e2 : (u.toList == user.toList) = false) (e3 : (user.toList == u.toList) = false) :
    Calls Try.prog 3 #[.string f, .string l, .string u, .map m, .string user] w fun e w' => e = .returned (.bool true) ∧ Below w.heap.size w w' := by
  have hlen := (hk w (Below.refl _ _)).2
  have HK : Hid (Looks m n user c b w) := hk
  clear hk
  have q1 : Hid (lvl u user c b = (3, 0, true)) := by unfold lvl; rw [e1]; rfl
  have q2 : Hid (lvl user user c b = (3, 0, true)) := by unfold lvl; rw [e1]; rfl
  have q3 : Hid (lvl (user ++ ⟨#[0]⟩) user c b = (3, 0, true)) := by unfold lvl; rw [e1]; rfl
  go_enter Try.func3, Try.ntmps3
  go_wp2_with fail
  refine (zzlevel_any f l u user m n c b w HK.out _ _ _ q1.out).mono ?_
  rintro e w1 ⟨rfl, hb1⟩
  have HK1 : Hid (Looks m n user c b w1) := HK.out.later hb1
  go_wp2_with fail
  refine (zzlevel_any f l user user m n c b w1 HK1.out _ _ _ q2.out).mono ?_
  rintro e w2 ⟨rfl, hb2⟩
  have HK2 : Hid (Looks m n user c b w2) := HK1.out.later hb2
  go_wp2_with fail
  refine (zzlevel_any f l _ user m n c b w2 HK2.out _ _ _ q3.out).mono ?_
  rintro e w3 ⟨rfl, hb3⟩
  go_wp2
  go_ret
  exact ⟨rfl, hb1.trans ((hb2.trans (hb3.mono hb2.size)).mono hb1.size)⟩

set_option maxHeartbeats 400000 in
/-- Another user, which the map does not list. -/
theorem own_none (f l u user : ByteArray) (m : Option Nat) (n : Nat) (c : Int) (b : Bool) (w : World) (hk : Looks m n user c b w)
    (h1 : ¬ 65536 < f.size) (h2 : ¬ 65536 < l.size) (h3 : ¬ 65536 < u.size) (h4 : ¬ 65536 < user.size) (h5 : ¬ 65536 < n)
    (e1 : user.toList.isEmpty = false) (e2 : (u.toList == user.toList) = false) (e3 : (user.toList == u.toList) = false) (e4 : b = false) :
    Calls Try.prog 3 #[.string f, .string l, .string u, .map m, .string user] w fun e w' => e = .returned (.bool true) ∧ Below w.heap.size w w' := by
  have hlen := (hk w (Below.refl _ _)).2
  have HK : Hid (Looks m n user c b w) := hk
  clear hk
  have q1 : Hid (lvl u user c b = (0, 0, false)) := by unfold lvl; rw [e1, e3, e4]; rfl
  have q2 : Hid (lvl user user c b = (0, 0, true)) := by
    have e4 : (user.toList == user.toList) = true := by simp
    unfold lvl; rw [e1, e4]; rfl
  have q3 : Hid (lvl (user ++ ⟨#[0]⟩) user c b = (0, 0, false)) := by unfold lvl; rw [e1, not_longer, e4]; rfl
  clear e4
  go_enter Try.func3, Try.ntmps3
  go_wp2_with fail
  refine (zzlevel_any f l u user m n c b w HK.out _ _ _ q1.out).mono ?_
  rintro e w1 ⟨rfl, hb1⟩
  have HK1 : Hid (Looks m n user c b w1) := HK.out.later hb1
  go_wp2_with fail
  refine (zzlevel_any f l user user m n c b w1 HK1.out _ _ _ q2.out).mono ?_
  rintro e w2 ⟨rfl, hb2⟩
  have HK2 : Hid (Looks m n user c b w2) := HK1.out.later hb2
  go_wp2_with fail
  refine (zzlevel_any f l _ user m n c b w2 HK2.out _ _ _ q3.out).mono ?_
  rintro e w3 ⟨rfl, hb3⟩
  go_wp2
  go_ret
  exact ⟨rfl, hb1.trans ((hb2.trans (hb3.mono hb2.size)).mono hb1.size)⟩

set_option maxHeartbeats 400000 in
/-- Another user, listed at place 0. -/
theorem own_group (f l u user : ByteArray) (m : Option Nat) (n : Nat) (c : Int) (b : Bool) (w : World) (hk : Looks m n user c b w)
    (h1 : ¬ 65536 < f.size) (h2 : ¬ 65536 < l.size) (h3 : ¬ 65536 < u.size) (h4 : ¬ 65536 < user.size) (h5 : ¬ 65536 < n)
    (e1 : user.toList.isEmpty = false) (e2 : (u.toList == user.toList) = false) (e3 : (user.toList == u.toList) = false) (e4 : b = true) (e5 : (c == 0) = true) :
    Calls Try.prog 3 #[.string f, .string l, .string u, .map m, .string user] w fun e w' => e = .returned (.bool true) ∧ Below w.heap.size w w' := by
  have hlen := (hk w (Below.refl _ _)).2
  have HK : Hid (Looks m n user c b w) := hk
  clear hk
  have q1 : Hid (lvl u user c b = (1, 0, true)) := by unfold lvl; rw [e1, e3, e4, e5]; rfl
  have q2 : Hid (lvl user user c b = (0, 0, true)) := by
    have e4 : (user.toList == user.toList) = true := by simp
    unfold lvl; rw [e1, e4]; rfl
  have q3 : Hid (lvl (user ++ ⟨#[0]⟩) user c b = (1, 0, true)) := by unfold lvl; rw [e1, not_longer, e4, e5]; rfl
  clear e4 e5
  go_enter Try.func3, Try.ntmps3
  go_wp2_with fail
  refine (zzlevel_any f l u user m n c b w HK.out _ _ _ q1.out).mono ?_
  rintro e w1 ⟨rfl, hb1⟩
  have HK1 : Hid (Looks m n user c b w1) := HK.out.later hb1
  go_wp2_with fail
  refine (zzlevel_any f l user user m n c b w1 HK1.out _ _ _ q2.out).mono ?_
  rintro e w2 ⟨rfl, hb2⟩
  have HK2 : Hid (Looks m n user c b w2) := HK1.out.later hb2
  go_wp2_with fail
  refine (zzlevel_any f l _ user m n c b w2 HK2.out _ _ _ q3.out).mono ?_
  rintro e w3 ⟨rfl, hb3⟩
  go_wp2
  go_ret
  exact ⟨rfl, hb1.trans ((hb2.trans (hb3.mono hb2.size)).mono hb1.size)⟩

set_option maxHeartbeats 400000 in
/-- Another user, listed at another place. -/
theorem own_later (f l u user : ByteArray) (m : Option Nat) (n : Nat) (c : Int) (b : Bool) (w : World) (hk : Looks m n user c b w)
    (h1 : ¬ 65536 < f.size) (h2 : ¬ 65536 < l.size) (h3 : ¬ 65536 < u.size) (h4 : ¬ 65536 < user.size) (h5 : ¬ 65536 < n)
    (e1 : user.toList.isEmpty = false) (e2 : (u.toList == user.toList) = false) (e3 : (user.toList == u.toList) = false) (e4 : b = true) (e5 : (c == 0) = false) :
    Calls Try.prog 3 #[.string f, .string l, .string u, .map m, .string user] w fun e w' => e = .returned (.bool true) ∧ Below w.heap.size w w' := by
  have hlen := (hk w (Below.refl _ _)).2
  have HK : Hid (Looks m n user c b w) := hk
  clear hk
  have q1 : Hid (lvl u user c b = (2, c, true)) := by unfold lvl; rw [e1, e3, e4, e5]; rfl
  have q2 : Hid (lvl user user c b = (0, 0, true)) := by
    have e4 : (user.toList == user.toList) = true := by simp
    unfold lvl; rw [e1, e4]; rfl
  have q3 : Hid (lvl (user ++ ⟨#[0]⟩) user c b = (2, c, true)) := by unfold lvl; rw [e1, not_longer, e4, e5]; rfl
  clear e4
  go_enter Try.func3, Try.ntmps3
  go_wp2_with fail
  refine (zzlevel_any f l u user m n c b w HK.out _ _ _ q1.out).mono ?_
  rintro e w1 ⟨rfl, hb1⟩
  have HK1 : Hid (Looks m n user c b w1) := HK.out.later hb1
  go_wp2_with fail
  refine (zzlevel_any f l user user m n c b w1 HK1.out _ _ _ q2.out).mono ?_
  rintro e w2 ⟨rfl, hb2⟩
  have HK2 : Hid (Looks m n user c b w2) := HK1.out.later hb2
  go_wp2_with fail
  refine (zzlevel_any f l _ user m n c b w2 HK2.out _ _ _ q3.out).mono ?_
  rintro e w3 ⟨rfl, hb3⟩
  go_wp2
  go_ret
  exact ⟨rfl, hb1.trans ((hb2.trans (hb3.mono hb2.size)).mono hb1.size)⟩

/-- LAW 1, ITS WALK: every input. -/
theorem own_any (f l u user : ByteArray) (m : Option Nat) (n : Nat) (c : Int) (b : Bool) (w : World) (hk : Looks m n user c b w) :
    Calls Try.prog 3 #[.string f, .string l, .string u, .map m, .string user] w fun e w' => e = .returned (.bool true) ∧ Below w.heap.size w w' := by
  by_cases h : 65536 < f.size ∨ 65536 < l.size ∨ 65536 < u.size ∨ 65536 < user.size ∨ 65536 < n
  · exact own_long f l u user m n c b w hk h
  · have h1 : ¬ 65536 < f.size := fun x => h (.inl x)
    have h2 : ¬ 65536 < l.size := fun x => h (.inr (.inl x))
    have h3 : ¬ 65536 < u.size := fun x => h (.inr (.inr (.inl x)))
    have h4 : ¬ 65536 < user.size := fun x => h (.inr (.inr (.inr (.inl x))))
    have h5 : ¬ 65536 < n := fun x => h (.inr (.inr (.inr (.inr x))))
    have sw : ∀ t, (user.toList == u.toList) = t → (u.toList == user.toList) = t := fun t ht => BEq.comm.trans ht
    cases e1 : user.toList.isEmpty with
    | true =>
      cases e3 : (user.toList == u.toList) with
      | true => exact own_every_same f l u user m n c b w hk h1 h2 h3 h4 h5 e1 (sw _ e3) e3
      | false => exact own_every_other f l u user m n c b w hk h1 h2 h3 h4 h5 e1 (sw _ e3) e3
    | false =>
      cases e3 : (user.toList == u.toList) with
      | true => exact own_same f l u user m n c b w hk h1 h2 h3 h4 h5 e1 (sw _ e3) e3
      | false =>
        cases e4 : b with
        | false => exact own_none f l u user m n c false w (e4 ▸ hk) h1 h2 h3 h4 h5 e1 (sw _ e3) e3 rfl
        | true =>
          cases e5 : (c == 0) with
          | true => exact own_group f l u user m n c true w (e4 ▸ hk) h1 h2 h3 h4 h5 e1 (sw _ e3) e3 rfl e5
          | false => exact own_later f l u user m n c true w (e4 ▸ hk) h1 h2 h3 h4 h5 e1 (sw _ e3) e3 rfl e5

end Go.Proofs.Qxb6621743a
