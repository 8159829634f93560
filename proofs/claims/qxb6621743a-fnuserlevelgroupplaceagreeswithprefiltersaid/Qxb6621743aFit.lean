/-
  THE WALKS OF 'oneWhere' (9) AND 'preFilterFit' (8), the latter for a pre-filter that names at most a user: server, function and location empty, no group.
-/
import Derived.Test.Qxb6621743aLevel
import Derived.Deep.QuietTactic
import Derived.BigQuiet
import Derived.Deep.RegionWith
namespace Go.Proofs.Qxb6621743a
open Go.RowKit

set_option maxHeartbeats 400000 in
theorem one_true (w : World) : Calls Try.prog 9 #[.bool true] w fun e w' => e = .returned (.int .i64 1) ∧ w' = w := by
  go_enter Try.func9, Try.ntmps9
  go_wp2
  go_ret
  exact ⟨rfl, rfl⟩

theorem below_two (w : World) (A B : Obj) (k : Nat) : Below w.heap.size w (((w.alloc A).alloc B).drewN k) :=
  below_drewN (((Below.refl _ _).alloc (Nat.le_refl _) A).alloc (by simp) B) k

/-- What is known of the world behind 'userLevel', called from 'preFilterFit': its own two blocks, and whatever was there. -/
theorem behind {w w1 : World} {A : Obj} {x0 x1 x2 : Value} {k : Nat}
    (hb : Below (((w.alloc A).alloc (.cells #[x0, x1, x2] 40)).drewN k).heap.size (((w.alloc A).alloc (.cells #[x0, x1, x2] 40)).drewN k) w1) :
    Below w.heap.size w w1 ∧ w.heap.size + 1 < w1.heap.size ∧
      (w1.cell? ⟨w.heap.size + 1, 0, none⟩ = some x0 ∧ w1.cell? ⟨w.heap.size + 1, 1, none⟩ = some x1 ∧ w1.cell? ⟨w.heap.size + 1, 2, none⟩ = some x2) ∧
      (w1.frozen? ⟨w.heap.size + 1, 0, none⟩ = false ∧ w1.frozen? ⟨w.heap.size + 1, 1, none⟩ = false ∧ w1.frozen? ⟨w.heap.size + 1, 2, none⟩ = false) := by
  have hs := hb.size
  have hz : (((w.alloc A).alloc (.cells #[x0, x1, x2] 40)).drewN k).heap.size = w.heap.size + 2 := by simp [go_sem]
  rw [hz] at hs hb
  refine ⟨(below_two w A _ k).trans (hb.mono (by omega)), by omega, ⟨?_, ?_, ?_⟩, ?_, ?_, ?_⟩
  · rw [hb.cell (by simp)]; simp [go_sem]
  · rw [hb.cell (by simp)]; simp [go_sem]
  · rw [hb.cell (by simp)]; simp [go_sem]
  · rw [hb.frozen (by simp)]; simp [go_sem]
  · rw [hb.frozen (by simp)]; simp [go_sem]
  · rw [hb.frozen (by simp)]; simp [go_sem]

set_option maxHeartbeats 400000 in
/-- 'preFilterFit' where 'userLevel' accepts the user. -/
theorem fit_yes (rb : Nat) (f l u user : ByteArray) (m : Option Nat) (n : Nat) (c : Int) (b : Bool) (w : World) (hk : Looks m n user c b w) (hrb : rb < w.heap.size)
    (c2 : w.cell? ⟨rb, 2, none⟩ = some (.string ⟨#[]⟩)) (c3 : w.cell? ⟨rb, 3, none⟩ = some (.string ⟨#[]⟩)) (c6 : w.cell? ⟨rb, 6, none⟩ = some (.string ⟨#[]⟩))
    (c8 : w.cell? ⟨rb, 8, none⟩ = some (.map none)) (c9 : w.cell? ⟨rb, 9, none⟩ = some (.string user))
    (lv wi : Int) (hlv : 0 ≤ lv) (hlv' : lv ≤ 3) (h : lvl u user c b = (lv, wi, true)) :
    Calls Try.prog 8 #[.pointer (some ⟨rb, 0, none⟩), .agg #[.string f, .string l, .string u, .map m]] w fun e w' =>
      e = .returned (.tuple #[.agg #[.pointer (some ⟨rb, 0, none⟩), .int .i64 (24 + lv + 1), .int .i64 wi], .bool true]) ∧ Below w.heap.size w w' := by
  have HK : Hid (Looks m n user c b w) := hk
  have HL : Hid (lvl u user c b = (lv, wi, true)) := h
  clear hk h
  have q32 : ∀ (w : World) (r : Option Nat), (binOp .neq 32 (.map r) (.map none)).run Try.prog w = .ok (.bool (!r.isNone)) w := fun w r => run_neq_map_nil w _ _ _ r Try.underlying32
  go_enter Try.func8, Try.ntmps8
  go_wp2
  go_quiet (fail)
  go_wp2
  go_quiet (fail)
  go_wp2
  go_quiet (fail)
  go_wp2
  go_region_with (go_at_call 7; refine (level_any f l u user m n c b _ ?_ lv wi true HL.out).mono ?_; (first | exact HK.out.later (below_two _ _ _ _) | exact HK.out.later (below_two _ _ _ _).drew); rintro e w1 ⟨rfl, hb1⟩)
  all_goals
    obtain ⟨hbw, hz, ⟨r0, r1, r2⟩, g0, g1, g2⟩ := behind hb1
    clear hb1
    have d2 := (hbw.cell (p := ⟨rb, 2, none⟩) hrb).trans c2
    have d3 := (hbw.cell (p := ⟨rb, 3, none⟩) hrb).trans c3
    go_wp2
    go_quiet ((go_at_call 9; exact Calls.quiet_of_same (one_true _)))
    go_wp2
    refine bodyPost_ret (v := .tuple #[.agg #[.pointer (some ⟨rb, 0, none⟩), .int .i64 (24 + lv + 1), .int .i64 wi], .bool true]) ?_ rfl ⟨rfl, ?_⟩
    · simp [results, Try.results8, go_sem, r0, r1, r2]
    · exact (((below_drewN hbw _).setCell (by simp) _).setCell (by simp) _).setCell (by simp) _

set_option maxHeartbeats 400000 in
/-- 'preFilterFit' where 'userLevel' refuses the user. -/
theorem fit_no (rb : Nat) (f l u user : ByteArray) (m : Option Nat) (n : Nat) (c : Int) (b : Bool) (w : World) (hk : Looks m n user c b w) (hrb : rb < w.heap.size)
    (c3 : w.cell? ⟨rb, 3, none⟩ = some (.string ⟨#[]⟩)) (c6 : w.cell? ⟨rb, 6, none⟩ = some (.string ⟨#[]⟩))
    (c8 : w.cell? ⟨rb, 8, none⟩ = some (.map none)) (c9 : w.cell? ⟨rb, 9, none⟩ = some (.string user))
    (lv wi : Int) (h : lvl u user c b = (lv, wi, false)) :
    Calls Try.prog 8 #[.pointer (some ⟨rb, 0, none⟩), .agg #[.string f, .string l, .string u, .map m]] w fun e w' =>
      e = .returned (.tuple #[.agg #[.pointer none, .int .i64 0, .int .i64 0], .bool false]) ∧ Below w.heap.size w w' := by
  have HK : Hid (Looks m n user c b w) := hk
  have HL : Hid (lvl u user c b = (lv, wi, false)) := h
  clear hk h
  have q32 : ∀ (w : World) (r : Option Nat), (binOp .neq 32 (.map r) (.map none)).run Try.prog w = .ok (.bool (!r.isNone)) w := fun w r => run_neq_map_nil w _ _ _ r Try.underlying32
  go_enter Try.func8, Try.ntmps8
  go_wp2
  go_quiet (fail)
  go_wp2
  go_quiet (fail)
  go_wp2
  go_quiet (fail)
  go_wp2
  go_region_with (go_at_call 7; refine (level_any f l u user m n c b _ ?_ lv wi false HL.out).mono ?_; (first | exact HK.out.later (below_two _ _ _ _) | exact HK.out.later (below_two _ _ _ _).drew); rintro e w1 ⟨rfl, hb1⟩)
  all_goals
    obtain ⟨hbw, hz, ⟨r0, r1, r2⟩, g0, g1, g2⟩ := behind hb1
    clear hb1
    go_wp2
    refine bodyPost_ret (v := .tuple #[.agg #[.pointer none, .int .i64 0, .int .i64 0], .bool false]) ?_ rfl ⟨rfl, ?_⟩
    · simp [results, Try.results8, go_sem, r0, r1, r2]
    · exact ((hbw.setCell (by simp) _).setCell (by simp) _).setCell (by simp) _

end Go.Proofs.Qxb6621743a
