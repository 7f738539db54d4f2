/-
  The printer's buffer: (*fmtbuf).WriteString, (*pp).WriteString.
-/
import Derived.Test.YoeeiwDoorUtf
import Derived.Lib.AppendStr
import Derived.Deep.QuietTactic
import Derived.BigQuiet
import Derived.WalkSmall
namespace Go.Proofs.YoeeiwDoor
open Go.RowKit

theorem Eeig.info5 : (Eeig.prog.info? 5).map (fun i => (i.zero, i.size, i.bytes)) = some (some (.int .u8 0), 1, 1) := by kernel_rfl

/-- Cell 0 of block pb holds a slice that owns the bytes l. -/
def Buf (w : World) (pb : Nat) (l : List UInt8) : Prop :=
  ∃ v, w.cell? ⟨pb, 0, none⟩ = some v ∧ w.frozen? ⟨pb, 0, none⟩ = false ∧ w.ownsRow (pb + 1) 5 1 v l.length (bc l)

theorem own_shape {w : World} {base e n : Nat} {v : Value} {xs : List Value} (h : w.ownsRow base e 1 v n xs) : ∃ ao cap, v = .slice ao n cap ∧ n ≤ cap ∧ cap ≤ maxLen := by
  rcases h.2 with ⟨rfl, rfl⟩ | ⟨g, cap, cur, rfl, _, _, h1, h2, _⟩
  · exact ⟨none, 0, rfl, Nat.le_refl _, Nat.zero_le _⟩
  · exact ⟨_, cap, rfl, h1, h2⟩

theorem own_drewN {w : World} {base e n : Nat} {v : Value} {xs : List Value} (h : w.ownsRow base e 1 v n xs) (q : Nat) : (w.drewN q).ownsRow base e 1 v n xs := h

theorem buf_lt {w : World} {pb : Nat} {v : Value} (h : w.cell? ⟨pb, 0, none⟩ = some v) : pb < w.heap.size := World.block_lt_of_cell? w ⟨pb, 0, none⟩ h

/-- The row that is owned is none of the old ones. -/
theorem own_row {w : World} {base e n : Nat} {v : Value} {xs : List Value} (h : w.ownsRow base e 1 v n xs) : ∀ k, v.ownBlock = some k → base ≤ k := fun k hk => (h.lt k hk).1

/-- Behind an append: the printer's own cell. -/
theorem grown_cell {w w1 : World} {pb e n : Nat} {v : Value} {xs : List Value} (h : w.ownsRow (pb + 1) e 1 v n xs) (hg : w.grownBy w1 v.ownBlock) (hlt : pb < w.heap.size) :
    w1.cell? ⟨pb, 0, none⟩ = w.cell? ⟨pb, 0, none⟩ ∧ w1.frozen? ⟨pb, 0, none⟩ = w.frozen? ⟨pb, 0, none⟩ ∧ Below pb w w1 := by
  have hb : w1.heap[pb]? = w.heap[pb]? := hg.block pb hlt (fun e => by have := own_row h pb e.symm; omega)
  exact ⟨World.cell?_of_block (a := ⟨pb, 0, none⟩) hb, World.frozen?_of_block (a := ⟨pb, 0, none⟩) hb, (Below.refl pb w).grown hg (by omega) (fun k hk => by have := own_row h k hk; omega)⟩

/-- The new slice stored into the printer's cell. -/
theorem buf_store {w1 : World} {pb : Nat} {v v' : Value} {l : List UInt8} (hc : w1.cell? ⟨pb, 0, none⟩ = some v) (hf : w1.frozen? ⟨pb, 0, none⟩ = false) (h : w1.ownsRow (pb + 1) 5 1 v' l.length (bc l)) :
    Buf (w1.setCell ⟨pb, 0, none⟩ v') pb l := by
  refine ⟨v', ?_, ?_, ownsRow_setCell_below h (by simp) v'⟩
  · exact World.cell?_setCell_same _ _ _ hc
  · rw [World.frozen?_setCell]; exact hf

/-- An append, and the new slice stored into the printer's cell. -/
theorem buf_close {w w0 w1 : World} {pb n : Nat} {v v0 v' : Value} {xs : List Value} {l : List UInt8} (hb0 : Below (pb + 1) w w0) (hc : w.cell? ⟨pb, 0, none⟩ = some v) (hf : w.frozen? ⟨pb, 0, none⟩ = false)
    (hown0 : w0.ownsRow (pb + 1) 5 1 v0 n xs) (hg : w0.grownBy w1 v0.ownBlock) (hown1 : w1.ownsRow (pb + 1) 5 1 v' l.length (bc l)) :
    w1.cell? ⟨pb, 0, none⟩ = some v ∧ w1.frozen? ⟨pb, 0, none⟩ = false ∧ Hid (Buf (w1.setCell ⟨pb, 0, none⟩ v') pb l ∧ Below pb w (w1.setCell ⟨pb, 0, none⟩ v')) := by
  have hlt := buf_lt hc
  have hs := hb0.size
  obtain ⟨hc1, hf1, hb1⟩ := grown_cell hown0 hg (by omega)
  have hc2 : w1.cell? ⟨pb, 0, none⟩ = some v := hc1.trans ((hb0.cell (p := ⟨pb, 0, none⟩) (Nat.lt_succ_self pb)).trans hc)
  have hf2 : w1.frozen? ⟨pb, 0, none⟩ = false := hf1.trans ((hb0.frozen (p := ⟨pb, 0, none⟩) (Nat.lt_succ_self pb)).trans hf)
  exact ⟨hc2, hf2, buf_store hc2 hf2 hown1, ((hb0.mono (Nat.le_succ pb)).trans hb1).setCell (p := ⟨pb, 0, none⟩) (Nat.le_refl _) v'⟩

set_option maxHeartbeats 400000 in
theorem ws16 (pb : Nat) (l : List UInt8) (s : ByteArray) (w : World) (hM : w.cell? ⟨0, 0, none⟩ = some (.int .i64 2147483647)) (hB : Buf w pb l) (hl : l.length + s.size ≤ 1000) :
    Calls Eeig.prog 16 #[.pointer (some ⟨pb, 0, none⟩), .string s] w fun e w' => e = .returned (.tuple #[]) ∧ Buf w' pb (l ++ s.data.toList) ∧ Below pb w w' := by
  obtain ⟨i0, hi, hz0, hz1, hz2⟩ := info_parts Eeig.info5
  obtain ⟨v, hc, hf, hown⟩ := hB
  have hlt := buf_lt hc
  obtain ⟨ao, cap, hv, hn, hm⟩ := own_shape hown
  subst hv
  unfold maxLen at hm
  go_enter Eeig.func16, Eeig.ntmps16
  go_wp2
  go_quiet (fail)
  go_wp2_with (at_builtin; refine Lib.wpList_append_own_string _ rfl (.tmp 17) (.tmp 18) 30 9 rfl (pb + 1) 5 i0 Eeig.underlying30 Eeig.underlying9 hi hz0 hz1 hz2 _ l.length (bc l) rfl (own_drewN hown _) s rfl ?c1 ?c2 ?c3 ?_)
  case c1 => unfold maxLen; omega
  case c2 => omega
  case c3 => simp; omega
  intro v' w1 hown1 hgrow _
  have hown2 : w1.ownsRow (pb + 1) 5 1 v' (l ++ s.data.toList).length (bc (l ++ s.data.toList)) := by
    rw [bc_append, ← bc_strCells, List.length_append, show s.data.toList.length = s.size from by simp]; exact hown1
  obtain ⟨hc2, hf2, HB⟩ := buf_close (below_drewN (Below.refl (pb + 1) w) nq) hc hf (own_drewN hown nq) hgrow hown2
  obtain ⟨ao', cap', hv', _, _⟩ := own_shape hown1
  clear hown1 hown2 hgrow hown hc hf hM
  rw [hv'] at HB
  rw [hv']
  clear hv'
  go_wp2
  go_end0
  exact ⟨rfl, HB.out.1, HB.out.2⟩

set_option maxHeartbeats 400000 in
theorem ws14 (pb : Nat) (l : List UInt8) (s : ByteArray) (w : World) (hM : w.cell? ⟨0, 0, none⟩ = some (.int .i64 2147483647)) (hB : Buf w pb l) (hl : l.length + s.size ≤ 1000) :
    Calls Eeig.prog 14 #[.pointer (some ⟨pb, 0, none⟩), .string s] w fun e w' => e = .returned (.tuple #[.int .i64 s.size, .nilIface]) ∧ Buf w' pb (l ++ s.data.toList) ∧ Below pb w w' := by
  go_enter Eeig.func14, Eeig.ntmps14
  go_wp2_with fail
  refine (ws16 pb l s _ hM hB hl).mono ?_
  rintro e w' ⟨rfl, hB', hb'⟩
  go_wp2
  go_ret2
  exact ⟨rfl, hB', hb'⟩

theorem cell_new (w : World) (q : Nat) (x : Value) : ((w.drewN q).alloc (.cells #[x] 5)).cell? ⟨w.heap.size, 0, none⟩ = some x := by
  have h : ∀ u : World, (u.alloc (.cells #[x] 5)).cell? ⟨u.heap.size, 0, none⟩ = some x := by intro u; simp
  exact h (w.drewN q)

set_option maxHeartbeats 400000 in
theorem wr17_low (pb : Nat) (l : List UInt8) (r : Int) (h1 : r < 128) (w : World) (hM : w.cell? ⟨0, 0, none⟩ = some (.int .i64 2147483647)) (hB : Buf w pb l) (hl : l.length ≤ 1000) :
    Calls Eeig.prog 17 #[.pointer (some ⟨pb, 0, none⟩), .int .i32 r] w fun e w' => e = .returned (.tuple #[]) ∧ Buf w' pb (l ++ encB r) ∧ Below pb w w' := by
  obtain ⟨i0, hi, hz0, hz1, hz2⟩ := info_parts Eeig.info5
  obtain ⟨v, hc, hf, hown⟩ := hB
  have hlt := buf_lt hc
  obtain ⟨ao, cap, hv, hn, hm⟩ := own_shape hown
  subst hv
  unfold maxLen at hm
  obtain ⟨hr0, hr1⟩ := rl_bd r
  go_enter Eeig.func17, Eeig.ntmps17
  go_wp2_with fail
  go_quiet ((go_at_call 18; exact Calls.quiet_of_same (runeLen_core _ _)))
  go_wp2_with (at_builtin; refine wpList_append_own _ rfl (.tmp 22) (.tmp 25) 30 rfl (pb + 1) 5 i0 (.int .u8 0) 1 1 Eeig.underlying30 hi hz0 hz1 hz2 rfl (by decide) (.slice ao l.length cap) l.length (bc l) rfl ((own_drewN hown _).alloc _) ⟨w.heap.size, 0, none⟩ 1 1 [.int .u8 (r % 256)] rfl rfl ?c1 ?c2 ?c3 ?c4 ?c5 ?_)
  case c1 =>
    intro j u hj
    match j, hj with
    | 0, hj => simp at hj; subst hj; exact cell_new w nq _
  case c2 => intro u hu; simp at hu; subst hu; rfl
  case c3 => unfold maxLen; omega
  case c4 => omega
  case c5 => simp; omega
  intro v' w1 hown1 hgrow _
  have hown2 : w1.ownsRow (pb + 1) 5 1 v' (l ++ encB r).length (bc (l ++ encB r)) := by
    rw [bc_append, bc_encB, encCells_of (encZ_one h1), List.length_append, encB_length, encZ_one h1]; exact hown1
  obtain ⟨hc2, hf2, HB⟩ := buf_close ((below_drewN (Below.refl (pb + 1) w) nq).alloc (by simp; omega) _) hc hf ((own_drewN hown nq).alloc _) hgrow hown2
  obtain ⟨ao', cap', hv', _, _⟩ := own_shape hown1
  clear hown1 hown2 hgrow hown hc hf hM
  rw [hv'] at HB
  rw [hv']
  clear hv'
  go_wp2
  refine bodyPost_ret (results_none rfl _ _ _) rfl ?_
  exact ⟨rfl, HB.out.1, HB.out.2⟩

/-- Cells stored into a row. -/
theorem heap_setCells {g : Nat} {e : TypeId} {fz : Nat × Nat} : ∀ (vs : List Value) (o : Nat) (w : World) (cur : Array Value), w.heap[g]? = some (.cells cur e fz) → o + vs.length ≤ cur.size →
    ∃ cur', (w.setCells g o vs).heap[g]? = some (.cells cur' e fz) ∧ cur'.size = cur.size ∧ cur'.toList.take (o + vs.length) = cur.toList.take o ++ vs
  | [], o, w, cur, h, _ => ⟨cur, h, rfl, by simp⟩
  | v :: vs, o, w, cur, h, hl => by
    simp only [List.length_cons] at hl
    have h1 : (w.setCell ⟨g, o, none⟩ v).heap[g]? = some (.cells (cur.setIfInBounds o v) e fz) := by
      simp [World.setCell, Array.getElem?_modify, h]
    obtain ⟨cur', a, b, c⟩ := heap_setCells vs (o + 1) (w.setCell ⟨g, o, none⟩ v) _ h1 (by simp; omega)
    refine ⟨cur', a, by simpa using b, ?_⟩
    rw [List.length_cons, show o + (vs.length + 1) = o + 1 + vs.length from by omega, c]
    have : (cur.setIfInBounds o v).toList.take (o + 1) = cur.toList.take o ++ [v] := by
      rw [Array.toList_setIfInBounds, List.take_succ_eq_append_getElem (by simp; omega), List.take_set_of_le (Nat.le_refl _)]
      simp
    rw [this]
    simp

theorem below_cells {B g : Nat} (hg : B ≤ g) : ∀ (vs : List Value) (o : Nat) (w : World), Below B w (w.setCells g o vs)
  | [], _, _ => Below.refl _ _
  | v :: vs, o, w => ((Below.refl B w).setCell (p := ⟨g, o, none⟩) hg v).trans (below_cells hg vs (o + 1) _)

end Go.Proofs.YoeeiwDoor
