/-
  The three laws' walks.
-/
import Derived.Test.YoeeiwDoorShim
namespace Go.Proofs.YoeeiwDoor
open Go.RowKit

theorem enc6_b (r : Int) (hhi : r ≤ 2147483647) (w : World) :
    Calls Eeig.prog 6 #[.int .i32 r] w fun e w' => e = .returned (.slice (some ⟨w.heap.size, 0, none⟩) (encB r).length (encB r).length) ∧ w' = w.alloc (.cells (bc (encB r)).toArray 5) := by
  rw [bc_encB, encB_length, ← encCells_length]
  exact enc6_any r hhi w

theorem enc_text (w : World) (l : List UInt8) (hm : l.length ≤ maxLen) : (convert 22 9 (.slice (some ⟨w.heap.size, 0, none⟩) l.length l.length)).run Eeig.prog (w.alloc (.cells (bc l).toArray 5)) = .ok (.string ⟨l.toArray⟩) (w.alloc (.cells (bc l).toArray 5)) := by
  refine run_convert_bytes_back (P := Eeig.prog) _ 22 9 5 ⟨w.heap.size, 0, none⟩ l.length l Eeig.underlying22 Eeig.underlying5 Eeig.underlying9 (fun j hj => ?_)
  have h := World.ownsRow_lit (e := 5) (size := 1) (base := w.heap.size) w (bc l).toArray l.length (Nat.le_refl _) hm (by simp [bc_length])
  exact h.cells (g := w.heap.size) rfl j _ (by simp [bc, hj])

theorem want_eq (t : List UInt8) (r : Int) : (ByteArray.mk #[37, 33] ++ ByteArray.mk (encB r).toArray ++ ByteArray.mk t.toArray) = ByteArray.mk (textOf t r).toArray := by
  rw [show ByteArray.mk #[37, 33] = ByteArray.mk ([37, 33] : List UInt8).toArray from rfl, ByteArray.mk_append_mk, ByteArray.mk_append_mk]
  rfl
theorem want_bad (r : Int) : (ByteArray.mk #[37, 33] ++ ByteArray.mk (encB r).toArray ++ ByteArray.mk #[40, 66, 65, 68, 73, 78, 68, 69, 88, 41]) = ByteArray.mk (textOf badIdx r).toArray := want_eq badIdx r
theorem want_mis (r : Int) : (ByteArray.mk #[37, 33] ++ ByteArray.mk (encB r).toArray ++ ByteArray.mk #[40, 77, 73, 83, 83, 73, 78, 71, 41]) = ByteArray.mk (textOf missg r).toArray := want_eq missg r

theorem max_alloc {w : World} (o : Obj) (hM : w.cell? ⟨0, 0, none⟩ = some (.int .i64 2147483647)) : (w.alloc o).cell? ⟨0, 0, none⟩ = some (.int .i64 2147483647) := by
  rw [World.cell?_alloc_lt _ _ ⟨0, 0, none⟩ (World.block_lt_of_cell? w ⟨0, 0, none⟩ hM)]; exact hM

theorem max_below {w w' : World} (hb : Below w.heap.size w w') (hM : w.cell? ⟨0, 0, none⟩ = some (.int .i64 2147483647)) : w'.cell? ⟨0, 0, none⟩ = some (.int .i64 2147483647) :=
  (hb.cell (p := ⟨0, 0, none⟩) (World.block_lt_of_cell? w ⟨0, 0, none⟩ hM)).trans hM

theorem below_next {w w1 w2 : World} (h1 : Below w.heap.size w w1) (h2 : Below w1.heap.size w1 w2) : Below w.heap.size w w2 := h1.trans (h2.mono h1.size)

/-- FnBadArgNumExact. -/
theorem law3 (r : Int) (h1 : r ≤ 2147483647) (w : World) (hM : w.cell? ⟨0, 0, none⟩ = some (.int .i64 2147483647)) :
    Calls Eeig.prog 3 #[.int .i32 r] w fun e w' => e = .returned (.bool true) ∧ Below w.heap.size w w' := by
  have hk := (encZ_length r).2
  rw [← encB_length] at hk
  have hM1 := max_alloc (.cells (bc (encB r)).toArray 5) hM
  go_enter Eeig.func3, Eeig.ntmps3
  go_wp2_with fail
  refine (enc6_b r h1 _).mono ?_
  rintro e w1 ⟨rfl, rfl⟩
  have hcv := enc_text w (encB r) (by unfold maxLen; omega)
  go_wp2_with fail
  rw [want_bad r]
  refine (zb7 r h1 _ hM1).mono ?_
  rintro e w2 ⟨rfl, hb2⟩
  have HB : Hid (Below w.heap.size w w2) := ((Below.refl _ w).alloc (Nat.le_refl _) _).trans (hb2.mono (by simp))
  clear hcv hM1 hM hb2
  go_wp2
  go_ret
  exact ⟨rfl, HB.out⟩

/-- FnMissingArgExact. -/
theorem law5 (r : Int) (h1 : r ≤ 2147483647) (w : World) (hM : w.cell? ⟨0, 0, none⟩ = some (.int .i64 2147483647)) :
    Calls Eeig.prog 5 #[.int .i32 r] w fun e w' => e = .returned (.bool true) ∧ Below w.heap.size w w' := by
  have hk := (encZ_length r).2
  rw [← encB_length] at hk
  have hM1 := max_alloc (.cells (bc (encB r)).toArray 5) hM
  have hne : (textOf missg r == textOf badIdx r) = false := beq_eq_false_iff_ne.2 (text_ne r)
  go_enter Eeig.func5, Eeig.ntmps5
  go_wp2_with fail
  refine (enc6_b r h1 _).mono ?_
  rintro e w1 ⟨rfl, rfl⟩
  have hcv := enc_text w (encB r) (by unfold maxLen; omega)
  go_wp2_with fail
  rw [want_mis r]
  refine (zm9 r h1 _ hM1).mono ?_
  rintro e w2 ⟨rfl, hb2⟩
  have hb3 : Below w.heap.size w w2 := ((Below.refl _ w).alloc (Nat.le_refl _) _).trans (hb2.mono (by simp))
  have hM2 := max_below hb3 hM
  clear hcv hM1 hM hb2
  go_wp2_with fail
  refine (zb7 r h1 _ hM2).mono ?_
  rintro e w3 ⟨rfl, hb4⟩
  have HB : Hid (Below w.heap.size w w3) := below_next hb3 hb4
  clear hb3 hb4 hM2
  go_wp2
  go_ret
  exact ⟨rfl, HB.out⟩

/-- FnBadArgNumInjective, the first no scalar value. -/
theorem law4_no1 (a b : Int) (w : World) (h : vsB a = false) :
    Calls Eeig.prog 4 #[.int .i32 a, .int .i32 b] w fun e w' => e = .returned (.bool true) ∧ Below w.heap.size w w' := by
  go_enter Eeig.func4, Eeig.ntmps4
  go_wp2_with fail
  refine (vs_any a _).mono ?_
  rintro e w1 ⟨rfl, rfl⟩
  go_wp2
  go_ret
  exact ⟨rfl, Below.refl _ _⟩

/-- .. the second none. -/
theorem law4_no2 (a b : Int) (w : World) (h : vsB a = true) (h' : vsB b = false) :
    Calls Eeig.prog 4 #[.int .i32 a, .int .i32 b] w fun e w' => e = .returned (.bool true) ∧ Below w.heap.size w w' := by
  go_enter Eeig.func4, Eeig.ntmps4
  go_wp2_with fail
  refine (vs_any a _).mono ?_
  rintro e w1 ⟨rfl, rfl⟩
  go_wp2_with fail
  refine (vs_any b _).mono ?_
  rintro e w1 ⟨rfl, rfl⟩
  go_wp2
  go_ret
  exact ⟨rfl, Below.refl _ _⟩

/-- .. both. -/
theorem law4_core (a b : Int) (w : World) (hM : w.cell? ⟨0, 0, none⟩ = some (.int .i64 2147483647)) (ha : a ≤ 2147483647) (hb : b ≤ 2147483647) (h : vsB a = true) (h' : vsB b = true)
    (hd : ((textOf badIdx a == textOf badIdx b) == (a == b)) = true) :
    Calls Eeig.prog 4 #[.int .i32 a, .int .i32 b] w fun e w' => e = .returned (.bool true) ∧ Below w.heap.size w w' := by
  have HD : Hid (((textOf badIdx a == textOf badIdx b) == (a == b)) = true) := hd
  clear hd
  go_enter Eeig.func4, Eeig.ntmps4
  go_wp2_with fail
  refine (vs_any a _).mono ?_
  rintro e w1 ⟨rfl, rfl⟩
  go_wp2_with fail
  refine (vs_any b _).mono ?_
  rintro e w1 ⟨rfl, rfl⟩
  go_wp2_with fail
  refine (zb7 a ha _ hM).mono ?_
  rintro e w1 ⟨rfl, hb1⟩
  have hM1 := max_below hb1 hM
  clear hM
  go_wp2_with fail
  refine (zb7 b hb _ hM1).mono ?_
  rintro e w2 ⟨rfl, hb2⟩
  have HB : Hid (Below _ _ w2) := below_next hb1 hb2
  clear hb1 hb2 hM1
  go_wp2
  go_ret
  exact ⟨congrArg (fun x => Ending.returned (.bool x)) HD.out, HB.out⟩

theorem law4 (a b : Int) (w : World) (hM : w.cell? ⟨0, 0, none⟩ = some (.int .i64 2147483647)) (ha : a ≤ 2147483647) (hb : b ≤ 2147483647) :
    Calls Eeig.prog 4 #[.int .i32 a, .int .i32 b] w fun e w' => e = .returned (.bool true) ∧ Below w.heap.size w w' := by
  cases h : vsB a with
  | false => exact law4_no1 a b w h
  | true =>
    cases h' : vsB b with
    | false => exact law4_no2 a b w h h'
    | true =>
      refine law4_core a b w hM ha hb h h' ?_
      have va := of_decide_eq_true h
      have vb := of_decide_eq_true h'
      by_cases hab : a = b
      · subst hab; simp
      · have hn : textOf badIdx a ≠ textOf badIdx b := fun e => hab (text_inj badIdx va.1 vb.1 va.2.1 vb.2.1 va.2.2 vb.2.2 e)
        rw [beq_eq_false_iff_ne.2 hn, beq_eq_false_iff_ne.2 hab]
        rfl

end Go.Proofs.YoeeiwDoor
