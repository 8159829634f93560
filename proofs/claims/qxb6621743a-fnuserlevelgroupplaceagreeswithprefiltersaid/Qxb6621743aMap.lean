/-
  WHAT THE WALKS ARE TOLD OF THE MAP THAT CAME IN: 'Looks m n user c b w': in every world that is as w was below w's size, 'len(m)' is n and 'v, ok := m[user]' gives c, b. Paid once for a nil map, once for another: one walk serves both.
-/
import Derived.Test.Qxb6621743aRows
import Derived.WalkKit
import Derived.WalkSpells
namespace Go.Proofs.Qxb6621743a
open Go.RowKit Go.Maps
open Go.WideMaps (keyOf_string_mk)

theorem law9 : Keyed Try.prog 9 := string_keyed Try.underlying9
theorem zero3 (w : World) : (zeroValue 3).run Try.prog w = .ok (.int .i64 0) w := by kernel_rfl

/-- In every later world the map m has n entries, and at 'user' it holds c (b: whether the key is there). -/
def Looks (m : Option Nat) (n : Nat) (user : ByteArray) (c : Int) (b : Bool) (w : World) : Prop :=
  ∀ w', Below w.heap.size w w' → (Instr.lookup 22 (.map m) (.string user) true).run Try.prog w' = .ok (.tuple #[.int .i64 c, .bool b]) w' ∧
    ∀ ty, (Builtin.len_ #[22] ty #[.map m]).run Try.prog w' = .ok (.int .i64 n) w'

theorem Looks.later {m : Option Nat} {n : Nat} {user : ByteArray} {c : Int} {b : Bool} {w w1 : World} (h : Looks m n user c b w) (hb : Below w.heap.size w w1) : Looks m n user c b w1 :=
  fun w' hb' => h w' (hb.trans (hb'.mono hb.size))

theorem looks_nil (user : ByteArray) (hu : user.size ≤ maxLen) (w : World) : Looks none 0 user 0 false w := by
  intro w' _
  refine ⟨?_, fun ty => len_nil Try.underlying22 ty⟩
  exact look_nil true law9 Try.underlying22 (zero3 _) (keyOf_string_mk Try.underlying9 hu)

theorem looks_some {H : Type} {bm n : Nat} {D : DataW H} {w : World} (hown : w.ownsMap Try.prog 9 (plainElem Try.prog 3) bm n D) (user : ByteArray) (hu : user.size ≤ maxLen) :
    ∃ c b, Looks (some bm) (Maps.size D) user c b w := by
  have hlt : bm < w.heap.size := by
    obtain ⟨es, clock, hb, _⟩ := hown
    exact (Array.getElem?_eq_some_iff.1 hb).1
  have later : ∀ w', Below w.heap.size w w' → w'.ownsMap Try.prog 9 (plainElem Try.prog 3) bm n D := by
    intro w' hb'
    obtain ⟨es, clock, hb, r⟩ := hown
    exact ⟨es, clock, (hb'.block bm hlt).trans hb, r⟩
  have hzd : plainElem (H := H) Try.prog 3 (.int .i64 0) = some (.lit (.int .i64 0), []) := plainElem_int Try.underlying3 (by decide)
  obtain ⟨v0, ps0, _, hv0⟩ := hown.look_ok law9 Try.underlying22 (zero3 _) hzd (keyOf_string_mk Try.underlying9 hu)
  obtain ⟨c, _, hc, _⟩ := plainElem_int_inv Try.underlying3 hv0
  refine ⟨c, Maps.has D (.string user.data.toList), fun w' hb' => ⟨?_, fun ty => (later w' hb').len Try.underlying22 ty⟩⟩
  obtain ⟨v, ps, hrun, hv⟩ := (later w' hb').look_ok law9 Try.underlying22 (zero3 _) hzd (keyOf_string_mk Try.underlying9 hu)
  obtain ⟨c', rfl, hc', _⟩ := plainElem_int_inv Try.underlying3 hv
  have e1 : (DataW.lit (Lit.int .i64 c) : DataW H) = .lit (.int .i64 c') := (congrArg Prod.fst hc).symm.trans (congrArg Prod.fst hc')
  have e2 : c' = c := by
    injection e1 with e1
    injection e1 with _ e1
    exact e1.symm
  rw [hrun, e2]

end Go.Proofs.Qxb6621743a
