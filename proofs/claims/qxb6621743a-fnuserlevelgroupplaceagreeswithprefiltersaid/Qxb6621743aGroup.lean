/-
  LAW 2: THE ROW. The walk ('group_any') says that the call returns true and turns nothing that was there; the arguments read again by 'Below.trod'.
-/
import Derived.Test.Qxb6621743aGroupShort
import Derived.ProofKit
import Derived.OpenShut
import Derived.ShutString
import Derived.ChangeOld
import Derived.Below
namespace Go.Proofs.Qxb6621743a
open Go.ChangeShapes Go.WideShapes Go.ChangeAt Go.RowKit Go.WideElems
open Go.ChangeMaps (open_string shut_string)

theorem own2 : ownKnob Try.prog.godebug = none := by kernel_rfl
theorem laid2 : laidOutB Try.prog = true := by kernel_rfl

set_option maxRecDepth 100000 in
theorem group_lifted (os : Os) (started : os.Started) (H : Type) (enc : TypeId × Value → H) :
    ReturnsInHanded {} Try.checked os 4 .any (Rows.fnUserLevelGroupPlaceAgreesWithPreFilterSpec.pre6 enc Try.prog Try.f4 Rows.fnUserLevelGroupPlaceAgreesWithPreFilterRow.domain false) (Rows.fnUserLevelGroupPlaceAgreesWithPreFilterSpec.post enc Try.prog Try.f4 false true false false) := by
  refine returnsInHanded_of_change (C := Try.checked) own2 started (by kernel_rfl) Try.func4
    (ChangeSpec.witness6 (enc := enc) (C := Try.checked) false ⟨#[], #[.string ⟨#[]⟩, .string ⟨#[]⟩, .string ⟨#[]⟩, .map none, .string ⟨#[]⟩], []⟩ 8 (by kernel_rfl) (by kernel_rfl) (by kernel_rfl) (by kernel_rfl)) ?_
  intro W base args ds gs before hval0 hW _ _
  have hval : ∀ (j : Nat) t v, Try.f4.params[j]? = some t → args[j]? = some v → Value.okWide Try.prog W .any base t v := hval0
  have hW' := hW
  obtain ⟨p, q, hA0, hV, rfl, _, _⟩ := hW
  have hA : DataW.TrodAll enc Try.prog W 0 (fun _ => true) true Try.f4.params.toList args.toList ds p := hA0
  rw [Try.params4] at hA hval
  obtain ⟨v0, vs0, d0, ds0, p0, q0, hargs, rfl, rfl, h0, r0⟩ := trodAll_cons hA
  obtain ⟨v1, vs1, d1, ds1, p1, q1, rfl, rfl, rfl, h1, r1⟩ := trodAll_cons r0
  obtain ⟨v2, vs2, d2, ds2, p2, q2, rfl, rfl, rfl, h2, r2⟩ := trodAll_cons r1
  obtain ⟨v3, vs3, d3, ds3, p3, q3, rfl, rfl, rfl, h3, r3⟩ := trodAll_cons r2
  obtain ⟨v4, vs4, d4, ds4, p4, q4, rfl, rfl, rfl, h4, r4⟩ := trodAll_cons r3
  obtain ⟨rfl, rfl, rfl⟩ := trodAll_nil r4
  obtain rfl : args = #[v0, v1, v2, v3, v4] := by cases args; simp_all
  obtain ⟨rfl, rfl⟩ := trodVars_none hV
  obtain ⟨s0, rfl, rfl, rfl, w0⟩ := open_string Try.underlying9 (hval 0 9 v0 rfl rfl) h0
  obtain ⟨s1, rfl, rfl, rfl, w1⟩ := open_string Try.underlying9 (hval 1 9 v1 rfl rfl) h1
  obtain ⟨s2, rfl, rfl, rfl, w2⟩ := open_string Try.underlying9 (hval 2 9 v2 rfl rfl) h2
  obtain ⟨s4, rfl, rfl, rfl, w4⟩ := open_string Try.underlying9 (hval 4 9 v4 rfl rfl) h4
  obtain ⟨a3, rfl⟩ := okWide_map Try.underlying22 (hval 3 22 v3 rfl rfl)
  have k3 := h3
  have lt3 : ∀ x ∈ p3, x.block < W.heap.size := by obtain ⟨m, hm⟩ := k3; exact DataW.trod_lt m _ _ _ hm
  obtain ⟨n, c, b, c0, b0, hk, hk0⟩ : ∃ n c b c0 b0, Looks a3 n s4 c b W ∧ Looks a3 n ⟨#[]⟩ c0 b0 W := by
    obtain ⟨fuel, hf⟩ := h3
    rcases open_map Try.underlying22 hf with ⟨hcs, _⟩ | ⟨bm, es, clock, m, rfl, hcs, hb, _, F, _⟩
    · simp [Value.cells] at hcs
      subst hcs
      exact ⟨_, _, _, _, _, looks_nil s4 w4 W, looks_nil ⟨#[]⟩ (by decide) W⟩
    · simp [Value.cells] at hcs
      subst hcs
      have hown := World.ownsMap_of_fit (R := plainElem Try.prog 3) hb F (fun x _ z hz => elemAt_plainElem_int Try.underlying3 hz)
      obtain ⟨c, b, hk⟩ := looks_some hown s4 w4
      obtain ⟨c0, b0, hk0⟩ := looks_some hown ⟨#[]⟩ (by decide)
      exact ⟨_, c, b, c0, b0, hk, hk0⟩
  clear hA0 hval0
  refine (group_any s0 s1 s2 s4 a3 n c c0 b b0 W hk hk0).mono fun e W' ⟨he, bel⟩ => ?_
  subst he
  exact ⟨_, rfl, _, _, _, [], _, [], hW', trodAll_mk1 (shut_bool Try.underlying4 _),
    (trodAll_cons_mk (shut_string Try.underlying9 w0) (trodAll_cons_mk (shut_string Try.underlying9 w1) (trodAll_cons_mk (shut_string Try.underlying9 w2) (trodAll_cons_mk (Below.trod laid2 (by kernel_rfl) (of_decide_eq_true (by kernel_rfl)) k3 bel lt3) (trodAll_cons_mk (shut_string Try.underlying9 w4) trodAll_mk0))))),
    rfl, bel.frame _, fun h => by cases h⟩

/-- THE STATEMENT. -/
theorem group_proved : Rows.FnUserLevelGroupPlaceAgreesWithPreFilterSaid :=
  OpenClaim.holds_of_wide 4 Try.f4 rfl rfl rfl rfl rfl rfl rfl ⟨rfl, rfl, rfl, rfl, rfl⟩ rfl rfl rfl rfl rfl (by kernel_rfl) Try.func4 (by kernel_rfl)
    (of_decide_eq_true (by kernel_rfl)) (by unfold Func.isWrapper; first | (rw [if_pos (by decide +kernel)]; kernel_rfl) | (rw [if_neg (by decide +kernel)]; exact ⟨rfl, rfl⟩))
    (fun os started H enc _ => group_lifted os started H enc)

end Go.Proofs.Qxb6621743a
