/-
  What the rows' condition gives the walks; the witness; the frame of the three rows.
-/
import Derived.Test.YoeeiwDoorRows
import Derived.Test.YoeeiwDoorLaw
import Derived.ProofKit
import Derived.LaidMore
import Derived.OpenVars
import Derived.Stop.Joined
namespace Go.Proofs.YoeeiwDoor
open Go.ChangeShapes Go.WideShapes Go.ChangeAt Go.WideMaps Go.WideElems Go.RowKit

theorem own : ownKnob Eeig.prog.godebug = none := by kernel_rfl
theorem laidOut : laidOutB Eeig.prog = true := by kernel_rfl

/-- The listed variables, as the first row lists them (the three rows list the same). -/
def laidL : List (String × DataW Unit) := Rows.fnBadArgNumExactRow.laid
def nMax : String := Rows.fnBadArgNumExactSpec.vars.headD ""
theorem gMax : Eeig.prog.globalNamed nMax = some 0 := by kernel_rfl
theorem tMax : (Eeig.prog.globals[0]?).map (·.type) = some 3 := by kernel_rfl

/-- The door's own heap meets the condition. -/
theorem door_met (os : Os) (args : Array Value) : laidMetH Eeig.prog laidL ((World.doorLaid Eeig.prog 400 os).forCall (fun _ _ => 0) ⟨#[], args, []⟩).memory :=
  laidMetH_of_parts3 (fuel := 8) (laidMet_of_run' 8 (by kernel_rfl) (by kernel_rfl)) (by kernel_rfl) (by kernel_rfl)

/-- What the condition gives the walks: MaxStringLen's cell. -/
theorem max_of_laid {W : World} (h : laidMetH Eeig.prog laidL W) : W.cell? ⟨0, 0, none⟩ = some (.int .i64 2147483647) := by
  rw [MakeChecks.laidMetH_plain _ _ _ (by kernel_rfl)] at h
  obtain ⟨ps, ⟨g0, t0, cs0, f0, p0, q0, hg0, ht0, hv0, hd0, ⟨g1, t1, cs1, f1, p1, q1, hg1, ht1, hv1, hd1, _, _⟩, _⟩, _, _⟩ := h
  obtain rfl := Option.some.inj (gMax.symm.trans hg1)
  obtain rfl := Option.some.inj (tMax.symm.trans ht1)
  obtain ⟨k, e1, e2, _⟩ := DataW.trod_int Eeig.underlying3 hd1
  simp only [Rows.laid_github_com_d5_tengo_v2_MaxStringLen, Prod.mk.injEq, DataW.lit.injEq, Lit.int.injEq, true_and] at e2
  have := World.var?_cell hg1 hv1 0
  rw [Array.eq_one_of_toList e1] at this
  simpa [← e2.1] using this

theorem vars_two {H : Type} {enc : TypeId × Value → H} {P : Program} {w : World} {sp : Nat → Bool} {n0 n1 : String} : ∀ {gs : List (DataW H)} {q : List MemPlace}, DataW.TrodVars enc P w sp [n0, n1] gs q → ∃ a b, gs = [a, b]
  | [], _, h => h.elim
  | [_], _, ⟨_, _, _, _, _, _, _, _, _, _, h, _⟩ => h.elim
  | [a, b], _, _ => ⟨a, b, rfl⟩
  | _ :: _ :: _ :: _, _, ⟨_, _, _, _, _, _, _, _, _, _, ⟨_, _, _, _, _, _, _, _, _, _, h, _⟩, _⟩ => h.elim

/-- An int32's upper bound. -/
theorem i32_hi {x : Int} (h : (Lit.int .i32 x).wf = true) : x ≤ 2147483647 := by
  have : -2147483648 ≤ x ∧ x ≤ 2147483647 := by simpa [Lit.wf, IntKind.min, IntKind.max, IntKind.signed, IntKind.bits] using h
  exact this.2

end Go.Proofs.YoeeiwDoor
