/-
  (*formatter).clearFlags, (*formatter).init, ZZbadArgNum, ZZmissingArg.
-/
import Derived.Test.YoeeiwDoorRune
namespace Go.Proofs.YoeeiwDoor
open Go.RowKit

set_option maxHeartbeats 400000 in
theorem cf13 (pb : Nat) (w : World) (hc : ∀ j, j < 12 → (w.cell? ⟨pb, 3 + j, none⟩).isSome = true) (hf : ∀ j, j < 12 → w.frozen? ⟨pb, 3 + j, none⟩ = false) :
    Calls Eeig.prog 13 #[.pointer (some ⟨pb, 2, none⟩)] w fun e w' => e = .returned (.tuple #[]) ∧ w' = w.setCells pb 3 [.bool false, .bool false, .bool false, .bool false, .bool false, .bool false, .bool false, .bool false, .bool false, .bool false, .bool false, .bool false] := by
  obtain ⟨c0, hc0⟩ := Option.isSome_iff_exists.1 (hc 0 (by omega)); have hf0 := hf 0 (by omega)
  obtain ⟨c1, hc1⟩ := Option.isSome_iff_exists.1 (hc 1 (by omega)); have hf1 := hf 1 (by omega)
  obtain ⟨c2, hc2⟩ := Option.isSome_iff_exists.1 (hc 2 (by omega)); have hf2 := hf 2 (by omega)
  obtain ⟨c3, hc3⟩ := Option.isSome_iff_exists.1 (hc 3 (by omega)); have hf3 := hf 3 (by omega)
  obtain ⟨c4, hc4⟩ := Option.isSome_iff_exists.1 (hc 4 (by omega)); have hf4 := hf 4 (by omega)
  obtain ⟨c5, hc5⟩ := Option.isSome_iff_exists.1 (hc 5 (by omega)); have hf5 := hf 5 (by omega)
  obtain ⟨c6, hc6⟩ := Option.isSome_iff_exists.1 (hc 6 (by omega)); have hf6 := hf 6 (by omega)
  obtain ⟨c7, hc7⟩ := Option.isSome_iff_exists.1 (hc 7 (by omega)); have hf7 := hf 7 (by omega)
  obtain ⟨c8, hc8⟩ := Option.isSome_iff_exists.1 (hc 8 (by omega)); have hf8 := hf 8 (by omega)
  obtain ⟨c9, hc9⟩ := Option.isSome_iff_exists.1 (hc 9 (by omega)); have hf9 := hf 9 (by omega)
  obtain ⟨c10, hc10⟩ := Option.isSome_iff_exists.1 (hc 10 (by omega)); have hf10 := hf 10 (by omega)
  obtain ⟨c11, hc11⟩ := Option.isSome_iff_exists.1 (hc 11 (by omega)); have hf11 := hf 11 (by omega)
  clear hc hf
  simp only [Nat.reduceAdd] at hc0 hf0 hc1 hf1 hc2 hf2 hc3 hf3 hc4 hf4 hc5 hf5 hc6 hf6 hc7 hf7 hc8 hf8 hc9 hf9 hc10 hf10 hc11 hf11
  go_enter Eeig.func13, Eeig.ntmps13
  go_wp2
  go_end0
  exact ⟨rfl, rfl⟩

/-- A fresh printer's cells. -/
def z40 : Array Value := #[.slice none 0 0, .nilIface, .pointer none] ++ Array.replicate 12 (.bool false) ++ #[.int .i64 0, .int .i64 0] ++ Array.replicate 68 (.int .u8 0) ++ #[.bool false, .bool false, .bool false]
theorem z40_size : z40.size = 88 := by simp [z40]
theorem zero40 (w : World) : (zeroValue 40).run Eeig.prog w = .ok (.agg z40) w := by kernel_rfl

set_option maxHeartbeats 400000 in
theorem init10_core (pb : Nat) (w : World) (c : Value) (hc2 : w.cell? ⟨pb, 2, none⟩ = some c) (hf2 : w.frozen? ⟨pb, 2, none⟩ = false)
    (hc : ∀ j, j < 12 → ((w.setCell ⟨pb, 2, none⟩ (.pointer (some ⟨pb, 0, none⟩))).cell? ⟨pb, 3 + j, none⟩).isSome = true) (hf : ∀ j, j < 12 → (w.setCell ⟨pb, 2, none⟩ (.pointer (some ⟨pb, 0, none⟩))).frozen? ⟨pb, 3 + j, none⟩ = false) :
    Calls Eeig.prog 10 #[.pointer (some ⟨pb, 2, none⟩), .pointer (some ⟨pb, 0, none⟩)] w fun e w' => e = .returned (.tuple #[]) ∧
      w' = (w.setCell ⟨pb, 2, none⟩ (.pointer (some ⟨pb, 0, none⟩))).setCells pb 3 [.bool false, .bool false, .bool false, .bool false, .bool false, .bool false, .bool false, .bool false, .bool false, .bool false, .bool false, .bool false] := by
  go_enter Eeig.func10, Eeig.ntmps10
  go_wp2_with fail
  refine (cf13 pb _ hc hf).mono ?_
  clear hc hf
  rintro e w' ⟨rfl, rfl⟩
  go_wp2
  go_end0
  exact ⟨rfl, rfl⟩

/-- (*formatter).init over a fresh printer: the buffer's cell is as it was. -/
theorem init10 (pb : Nat) (w : World) (cur : Array Value) (hg : w.heap[pb]? = some (.cells cur 40 (0, 0))) (hs : cur.size = 88) :
    Calls Eeig.prog 10 #[.pointer (some ⟨pb, 2, none⟩), .pointer (some ⟨pb, 0, none⟩)] w fun e w' => e = .returned (.tuple #[]) ∧ w'.cell? ⟨pb, 0, none⟩ = cur[0]? ∧ w'.frozen? ⟨pb, 0, none⟩ = false ∧ Below pb w w' := by
  have hcell : ∀ j, w.cell? ⟨pb, j, none⟩ = cur[j]? := fun j => cell_of_row w pb j cur 40 (0, 0) hg
  have hfz : ∀ j, w.frozen? ⟨pb, j, none⟩ = false := fun j => by simp [World.frozen?, hg]
  have hsome : ∀ j, j < 88 → ∃ c, w.cell? ⟨pb, j, none⟩ = some c := fun j hj => ⟨cur[j], by rw [hcell, Array.getElem?_eq_getElem]⟩
  obtain ⟨c, hc2⟩ := hsome 2 (by omega)
  refine (init10_core pb w c hc2 (hfz 2) (fun j hj => ?_) (fun j hj => by rw [World.frozen?_setCell]; exact hfz _)).mono ?_
  · rw [World.cell?_setCell_other _ _ _ _ (by simp)]
    obtain ⟨c', hc'⟩ := hsome (3 + j) (by omega)
    rw [hc']; rfl
  · rintro e w' ⟨rfl, rfl⟩
    refine ⟨rfl, ?_, ?_, ?_⟩
    · rw [World.cell?_setCells_out _ _ _ _ _ (fun _ _ => Or.inl (by simp)), World.cell?_setCell_other _ _ _ _ (by simp)]
      exact hcell 0
    · rw [World.frozen?_setCells, World.frozen?_setCell]; exact hfz 0
    · exact ((Below.refl pb w).setCell (p := ⟨pb, 2, none⟩) (Nat.le_refl _) _).trans (below_cells (Nat.le_refl _) _ _ _)

end Go.Proofs.YoeeiwDoor
