/-
  THE WALKS OF 'ZZPreFilterFit' (6), for a pre-filter that names at most a user.
-/
import Derived.Test.Qxb6621743aFit
import Derived.LaidEqlPtr
namespace Go.Proofs.Qxb6621743a
open Go.RowKit

theorem info38 : (Try.prog.info? 38).isSome = true := by kernel_rfl

/-- 'f.rule == r': one pointer. -/
theorem same_rule (a : Addr) (w : World) : (binOp .eql 33 (.pointer (some a)) (.pointer (some a))).run Try.prog w = .ok (.bool true) w := by
  obtain ⟨j, hj⟩ := Option.isSome_iff_exists.1 info38
  exact run_eql_ptr_same w a Try.underlying33 hj

/-- 'f.rule == r': nil against a rule. -/
theorem no_rule (a : Addr) (w : World) : (binOp .eql 33 (.pointer none) (.pointer (some a))).run Try.prog w = .ok (.bool false) w := by
  have h : ∀ d : Nat, (Op.equalIn (d + 1) 33 (.pointer none) (.pointer (some a))).run Try.prog w = .ok false w := fun d => by
    simp [Op.equalIn, run_underlying Try.underlying33]
  simp only [binOp]
  simp [Op.equal, Op.maxDepth, h 9999]

set_option maxHeartbeats 400000 in
/-- Where 'userLevel' accepts the user. -/
theorem zfit_yes (f l u user : ByteArray) (m : Option Nat) (n : Nat) (c : Int) (b : Bool) (w : World) (hk : Looks m n user c b w)
    (lv wi : Int) (hlv : 0 ≤ lv) (hlv' : lv ≤ 3) (h : lvl u user c b = (lv, wi, true)) :
    Calls Try.prog 6 #[.string ⟨#[]⟩, .string ⟨#[]⟩, .string ⟨#[]⟩, .map none, .string user, .string f, .string l, .string u, .map m] w fun e w' =>
      e = .returned (.tuple #[.int .i64 (24 + lv + 1), .int .i64 wi, .bool true, .bool true]) ∧ Below w.heap.size w w' := by
  have HK : Hid (Looks m n user c b w) := hk
  have HL : Hid (lvl u user c b = (lv, wi, true)) := h
  clear hk h
  have q33 := same_rule
  go_enter Try.func6, Try.ntmps6
  go_wp2_with fail
  refine (fit_yes w.heap.size f l u user m n c b _ (HK.out.later ((Below.refl _ _).alloc (Nat.le_refl _) _)) (by simp) (by simp [go_sem]) (by simp [go_sem]) (by simp [go_sem]) (by simp [go_sem]) (by simp [go_sem]) lv wi hlv hlv' HL.out).mono ?_
  rintro e w1 ⟨rfl, hb1⟩
  have hbw : Below w.heap.size w w1 := ((Below.refl _ _).alloc (Nat.le_refl _) _).trans (hb1.mono (by simp))
  clear hb1
  go_wp2
  go_quiet (fail)
  go_wp2
  refine bodyPost_ret (v := .tuple #[.int .i64 (24 + lv + 1), .int .i64 wi, .bool true, .bool true]) ?_ rfl ⟨rfl, ?_⟩
  · simp [results, Try.results6, go_sem]
  · exact below_drewN (hbw.alloc hbw.size _) _

set_option maxHeartbeats 400000 in
/-- Where 'userLevel' refuses the user. -/
theorem zfit_no (f l u user : ByteArray) (m : Option Nat) (n : Nat) (c : Int) (b : Bool) (w : World) (hk : Looks m n user c b w)
    (lv wi : Int) (h : lvl u user c b = (lv, wi, false)) :
    Calls Try.prog 6 #[.string ⟨#[]⟩, .string ⟨#[]⟩, .string ⟨#[]⟩, .map none, .string user, .string f, .string l, .string u, .map m] w fun e w' =>
      e = .returned (.tuple #[.int .i64 0, .int .i64 0, .bool false, .bool false]) ∧ Below w.heap.size w w' := by
  have HK : Hid (Looks m n user c b w) := hk
  have HL : Hid (lvl u user c b = (lv, wi, false)) := h
  clear hk h
  have q33 := no_rule
  go_enter Try.func6, Try.ntmps6
  go_wp2_with fail
  refine (fit_no w.heap.size f l u user m n c b _ (HK.out.later ((Below.refl _ _).alloc (Nat.le_refl _) _)) (by simp) (by simp [go_sem]) (by simp [go_sem]) (by simp [go_sem]) (by simp [go_sem]) lv wi HL.out).mono ?_
  rintro e w1 ⟨rfl, hb1⟩
  have hbw : Below w.heap.size w w1 := ((Below.refl _ _).alloc (Nat.le_refl _) _).trans (hb1.mono (by simp))
  clear hb1
  go_wp2
  go_quiet (fail)
  go_wp2
  refine bodyPost_ret (v := .tuple #[.int .i64 0, .int .i64 0, .bool false, .bool false]) ?_ rfl ⟨rfl, ?_⟩
  · simp [results, Try.results6, go_sem]
  · exact below_drewN (hbw.alloc hbw.size _) _

end Go.Proofs.Qxb6621743a
