/-
  ZZbadArgNum, ZZmissingArg: a fresh printer, one method, the bytes as a string.
-/
import Derived.Test.YoeeiwDoorTop
import Derived.Deep.RegionWith
import Derived.Deep.DeepCutAuto
import Derived.Laws.IdiomStrings
namespace Go.Proofs.YoeeiwDoor
open Go.RowKit

/-- The buffer's bytes as a string. -/
theorem buf_text {w : World} {pb : Nat} {l : List UInt8} (hne : 0 < l.length) (h : Buf w pb l) :
    ∃ g cap, w.cell? ⟨pb, 0, none⟩ = some (.slice (some ⟨g, 0, none⟩) l.length cap) ∧ (convert 30 9 (.slice (some ⟨g, 0, none⟩) l.length cap)).run Eeig.prog w = .ok (.string ⟨l.toArray⟩) w := by
  obtain ⟨v, hc, hf, hown⟩ := h
  rcases hown.2 with ⟨_, h0⟩ | ⟨g, cap, cur, rfl, hrest⟩
  · omega
  · refine ⟨g, cap, hc, run_convert_bytes_back (P := Eeig.prog) w 30 9 5 ⟨g, 0, none⟩ cap l Eeig.underlying30 Eeig.underlying5 Eeig.underlying9 (fun j hj => ?_)⟩
    refine hown.cells (g := g) rfl j _ ?_
    simp [bc, hj]

/-- A fresh printer's buffer is empty. -/
theorem buf_fresh {w w1 : World} {pb : Nat} (hc : w1.cell? ⟨pb, 0, none⟩ = z40[0]?) (hf : w1.frozen? ⟨pb, 0, none⟩ = false) (hM : w.cell? ⟨0, 0, none⟩ = some (.int .i64 2147483647)) (hpb : pb = w.heap.size)
    (hb : Below pb (w.alloc (.cells z40 40)).drew w1) : 0 < pb ∧ Buf w1 pb [] ∧ w1.cell? ⟨0, 0, none⟩ = some (.int .i64 2147483647) ∧ Below pb w w1 := by
  have h0 : 0 < w.heap.size := World.block_lt_of_cell? w ⟨0, 0, none⟩ hM
  have hb' : Below pb w w1 := (((Below.refl pb w).alloc (by omega) _).drew).trans hb
  have hz : z40[0]? = some (.slice none 0 0) := by simp [z40]
  exact ⟨by omega, ⟨_, hc.trans hz, hf, World.ownsRow_nil _ _ _ _⟩, (hb'.cell (p := ⟨0, 0, none⟩) (by show 0 < pb; omega)).trans hM, hb'⟩

theorem text_pos (t : List UInt8) (r : Int) : 0 < (textOf t r).length := by
  simp [textOf, pctBang]

set_option maxHeartbeats 400000 in
theorem mis12 (pb : Nat) (l : List UInt8) (r : Int) (h1 : r ≤ 2147483647) (w : World) (hpb : 0 < pb) (hM : w.cell? ⟨0, 0, none⟩ = some (.int .i64 2147483647)) (hB : Buf w pb l) (hl : l.length ≤ 100) :
    Calls Eeig.prog 12 #[.pointer (some ⟨pb, 0, none⟩), .int .i32 r] w fun e w' => e = .returned (.tuple #[]) ∧ Buf w' pb (l ++ textOf missg r) ∧ Below pb w w' := by
  have hk := (encZ_length r).2
  rw [← encB_length] at hk
  go_enter Eeig.func12, Eeig.ntmps12
  go_wp2_with fail
  refine (ws14 pb l ⟨#[37, 33]⟩ _ hM hB (by show l.length + 2 ≤ 1000; omega)).mono ?_
  rintro e w1 ⟨rfl, hB1, hb1⟩
  have hM1 : w1.cell? ⟨0, 0, none⟩ = some (.int .i64 2147483647) := (hb1.cell (p := ⟨0, 0, none⟩) hpb).trans hM
  clear hM hB
  go_wp2_with fail
  refine (wr15 pb (l ++ [37, 33]) r h1 _ hM1 hB1 (by simp; omega)).mono ?_
  rintro e w2 ⟨rfl, hB2, hb2⟩
  have hM2 : w2.cell? ⟨0, 0, none⟩ = some (.int .i64 2147483647) := (hb2.cell (p := ⟨0, 0, none⟩) hpb).trans hM1
  clear hM1 hB1
  go_wp2_with fail
  refine (ws14 pb (l ++ [37, 33] ++ encB r) ⟨#[40, 77, 73, 83, 83, 73, 78, 71, 41]⟩ _ hM2 hB2 (by show (l ++ [37, 33] ++ encB r).length + 9 ≤ 1000; simp; omega)).mono ?_
  rintro e w3 ⟨rfl, hB3, hb3⟩
  have HB : Hid (Buf w3 pb (l ++ textOf missg r) ∧ Below pb w w3) := ⟨by unfold textOf pctBang missg; simpa using hB3, (hb1.trans hb2).trans hb3⟩
  clear hB3 hb3 hb2 hb1 hM2 hB2
  go_wp2
  go_end0
  exact ⟨rfl, HB.out.1, HB.out.2⟩

set_option maxHeartbeats 400000 in
theorem zb7 (r : Int) (h1 : r ≤ 2147483647) (w : World) (hM : w.cell? ⟨0, 0, none⟩ = some (.int .i64 2147483647)) :
    Calls Eeig.prog 7 #[.int .i32 r] w fun e w' => e = .returned (.string ⟨(textOf badIdx r).toArray⟩) ∧ Below w.heap.size w w' := by
  have hz := zero40
  go_enter Eeig.func7, Eeig.ntmps7
  go_wp2
  go_region_with (go_at_call 10; refine (init10 w.heap.size (w.alloc (.cells z40 40)).drew z40 (heap_alloc_new w _) z40_size).mono ?_; rintro e w1 ⟨rfl, hc0, hf0, hb0⟩)
  obtain ⟨hp, hB, hM1, hb1⟩ := buf_fresh hc0 hf0 hM rfl hb0
  clear hc0 hf0 hb0 hM hz
  go_wp2_with fail
  refine (bad11 w.heap.size [] r h1 _ hp hM1 hB (by simp)).mono ?_
  rintro e w2 ⟨rfl, hB2, hb2⟩
  rw [List.nil_append] at hB2
  obtain ⟨g, cap, hcell, hcv⟩ := buf_text (text_pos _ r) hB2
  have HB : Hid (Below w.heap.size w w2) := hb1.trans hb2
  clear hB2 hb2 hb1 hB hM1
  go_wp2
  go_ret
  exact ⟨rfl, HB.out⟩

set_option maxHeartbeats 400000 in
theorem zm9 (r : Int) (h1 : r ≤ 2147483647) (w : World) (hM : w.cell? ⟨0, 0, none⟩ = some (.int .i64 2147483647)) :
    Calls Eeig.prog 9 #[.int .i32 r] w fun e w' => e = .returned (.string ⟨(textOf missg r).toArray⟩) ∧ Below w.heap.size w w' := by
  have hz := zero40
  go_enter Eeig.func9, Eeig.ntmps9
  go_wp2
  go_region_with (go_at_call 10; refine (init10 w.heap.size (w.alloc (.cells z40 40)).drew z40 (heap_alloc_new w _) z40_size).mono ?_; rintro e w1 ⟨rfl, hc0, hf0, hb0⟩)
  obtain ⟨hp, hB, hM1, hb1⟩ := buf_fresh hc0 hf0 hM rfl hb0
  clear hc0 hf0 hb0 hM hz
  go_wp2_with fail
  refine (mis12 w.heap.size [] r h1 _ hp hM1 hB (by simp)).mono ?_
  rintro e w2 ⟨rfl, hB2, hb2⟩
  rw [List.nil_append] at hB2
  obtain ⟨g, cap, hcell, hcv⟩ := buf_text (text_pos _ r) hB2
  have HB : Hid (Below w.heap.size w w2) := hb1.trans hb2
  clear hB2 hb2 hb1 hB hM1
  go_wp2
  go_ret
  exact ⟨rfl, HB.out⟩

end Go.Proofs.YoeeiwDoor
