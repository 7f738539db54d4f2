/-
  (*fmtbuf).WriteRune from 128 on: the loop that makes room, EncodeRune, the slice stored back; (*fmtbuf).WriteRune, (*pp).WriteRune at every int32.
-/
import Derived.Test.YoeeiwDoorBuf
namespace Go.Proofs.YoeeiwDoor
open Go.RowKit

def lenV : Value → Nat | .slice _ n _ => n | _ => 0

/-- What an append of one cell makes of the loop's relation. -/
theorem rel_next {w wr w1 : World} {pb n j : Nat} {v v' u : Value} {xs : List Value} {l : List UInt8} {o : Obj} (hlt : pb < w.heap.size) (hb : Below (pb + 1) w wr) (hown : wr.ownsRow (pb + 1) 5 1 v (n + j) xs) (ht : xs.take n = bc l)
    (hown1 : w1.ownsRow (pb + 1) 5 1 v' (n + j + 1) (xs ++ [u])) (hg : (wr.alloc o).grownBy w1 v.ownBlock) :
    w1.ownsRow (pb + 1) 5 1 v' (n + (j + 1)) (xs ++ [u]) ∧ (xs ++ [u]).take n = bc l ∧ Below (pb + 1) w w1 := by
  have hs := hb.size
  have hx : xs.length = n + j := by simpa using hown.1
  refine ⟨hown1, ?_, ?_⟩
  · rw [List.take_append_of_le_length (by omega)]; exact ht
  · exact (hb.alloc (by omega) o).grown hg (by simp; omega) (fun k hk => own_row hown k hk)

/-- The four cells behind the bytes. -/
theorem own_room {W : World} {pb g n j cap : Nat} {xs : List Value} (hown : W.ownsRow (pb + 1) 5 1 (.slice (some ⟨g, 0, none⟩) (n + j) cap) (n + j) xs) (hcap : n + 4 ≤ cap) :
    (∀ k, k < 4 → (W.cell? ⟨g, n + k, none⟩).isSome = true) ∧ (∀ k, k < 4 → W.frozen? ⟨g, n + k, none⟩ = false) := by
  rcases hown.2 with ⟨h, _⟩ | ⟨g', cap', cur, h, _, hg, _, _, hcs, _⟩
  · simp at h
  · simp only [Value.slice.injEq, Option.some.injEq, Addr.mk.injEq, and_true, true_and] at h
    obtain ⟨rfl, rfl⟩ := h
    constructor
    · intro k hk
      rw [cell_of_row W g (n + k) cur 5 (0, 0) hg, Array.getElem?_eq_getElem (by omega)]
      rfl
    · intro k hk
      simp [World.frozen?, hg]

theorem own_put {w W : World} {pb g n j cap : Nat} {v : Value} {xs : List Value} {l m : List UInt8} (hn : n = l.length) (hc : w.cell? ⟨pb, 0, none⟩ = some v) (hf : w.frozen? ⟨pb, 0, none⟩ = false) (hb : Below (pb + 1) w W)
    (hown : W.ownsRow (pb + 1) 5 1 (.slice (some ⟨g, 0, none⟩) (n + j) cap) (n + j) xs) (ht : xs.take n = bc l) (hm : m.length ≤ 4) (hcap : n + 4 ≤ cap) :
    (W.setCells g n (bc m)).cell? ⟨pb, 0, none⟩ = some v ∧ (W.setCells g n (bc m)).frozen? ⟨pb, 0, none⟩ = false ∧
    Hid (Buf ((W.setCells g n (bc m)).setCell ⟨pb, 0, none⟩ (.slice (some ⟨g, 0, none⟩) (n + m.length) cap)) pb (l ++ m) ∧ Below pb w ((W.setCells g n (bc m)).setCell ⟨pb, 0, none⟩ (.slice (some ⟨g, 0, none⟩) (n + m.length) cap))) := by
  rcases hown.2 with ⟨h, _⟩ | ⟨g', cap', cur, h, hgb, hg, _, hcm, hcs, htake⟩
  · simp at h
  · simp only [Value.slice.injEq, Option.some.injEq, Addr.mk.injEq, and_true, true_and] at h
    obtain ⟨rfl, rfl⟩ := h
    have hbl := bc_length m
    obtain ⟨cur', a1, a2, a3⟩ := heap_setCells (bc m) n W cur hg (by omega)
    have hbb : Below (pb + 1) W (W.setCells g n (bc m)) := below_cells hgb (bc m) n W
    have hc2 : (W.setCells g n (bc m)).cell? ⟨pb, 0, none⟩ = some v := (((hb.trans hbb).cell (p := ⟨pb, 0, none⟩) (Nat.lt_succ_self pb)).trans hc)
    have hf2 : (W.setCells g n (bc m)).frozen? ⟨pb, 0, none⟩ = false := (((hb.trans hbb).frozen (p := ⟨pb, 0, none⟩) (Nat.lt_succ_self pb)).trans hf)
    refine ⟨hc2, hf2, buf_store hc2 hf2 ⟨by simp [bc_length], .inr ⟨g, cap, cur', by rw [List.length_append, hn], hgb, a1, by rw [List.length_append]; omega, hcm, by omega, ?_⟩⟩, ((hb.trans hbb).mono (Nat.le_succ pb)).setCell (p := ⟨pb, 0, none⟩) (Nat.le_refl _) _⟩
    have h1 : cur.toList.take n = bc l := by
      rw [← ht, ← htake, List.take_take]
      congr 1
      omega
    rw [bc_append, ← h1, ← a3, hbl, List.length_append, hn, Nat.mul_one]

set_option maxHeartbeats 400000 in
theorem wr17_high (pb : Nat) (l : List UInt8) (r : Int) (h0 : 128 ≤ r) (h1 : r ≤ 2147483647) (w : World) (hM : w.cell? ⟨0, 0, none⟩ = some (.int .i64 2147483647)) (hB : Buf w pb l) (hl : l.length ≤ 1000) :
    Calls Eeig.prog 17 #[.pointer (some ⟨pb, 0, none⟩), .int .i32 r] w fun e w' => e = .returned (.tuple #[]) ∧ Buf w' pb (l ++ encB r) ∧ Below pb w w' := by
  obtain ⟨i0, hi, hz0, hz1, hz2⟩ := info_parts Eeig.info5
  obtain ⟨v, hc, hf, hown⟩ := hB
  have hlt := buf_lt hc
  obtain ⟨ao, cap, hv, hn, hm⟩ := own_shape hown
  subst hv
  unfold maxLen at hm
  obtain ⟨hr0, hr1⟩ := rl_bd r
  have d1 : decide (2147483647 < (l.length : Int) + rl r) = false := decide_eq_false (by omega)
  have d2 : decide (r < 128) = false := decide_eq_false (by omega)
  go_enter Eeig.func17, Eeig.ntmps17
  go_wp2_with fail
  go_quiet ((go_at_call 18; exact Calls.quiet_of_same (runeLen_core _ _)))
  go_wp2_with fail
  go_loopw [4] (fun v wr => ∃ (j : Nat) (xs : List Value), j ≤ 4 ∧ wr.ownsRow (pb + 1) 5 1 v (l.length + j) xs ∧ xs.take l.length = bc l ∧ Below (pb + 1) w wr) (fun v _ => 5 + l.length - lenV v)
  case atStart => exact ⟨0, bc l, by omega, own_drewN hown nq, List.take_of_length_le (by rw [bc_length]; exact Nat.le_refl _), below_drewN (Below.refl _ _) nq⟩
  case round =>
    obtain ⟨j, xs, hj, hownr, htk, hbr⟩ := hrel
    obtain ⟨ar, capr, hvr, hnr, hmr⟩ := own_shape hownr
    subst hvr
    unfold maxLen at hmr
    have hsz := hbr.size
    by_cases hgo : capr < l.length + 4
    · go_wp2_with (at_builtin; refine wpList_append_own _ rfl (.tmp 38) (.tmp 39) 30 rfl (pb + 1) 5 i0 (.int .u8 0) 1 1 Eeig.underlying30 hi hz0 hz1 hz2 rfl (by decide) (.slice ar (l.length + j) capr) (l.length + j) xs rfl (hownr.alloc _) ⟨wr.heap.size, 0, none⟩ 1 1 [.int .u8 0] rfl rfl ?c1 ?c2 ?c3 ?c4 ?c5 ?_)
      case c1 =>
        intro k u hk
        match k, hk with
        | 0, hk => simp at hk; subst hk; simp [Addr.add]
      case c2 => intro u hu; simp at hu; subst hu; rfl
      case c3 => unfold maxLen; omega
      case c4 => omega
      case c5 => simp; omega
      intro v' w1 hown1 hgrow _
      have R := rel_next hlt hbr hownr htk hown1 hgrow
      obtain ⟨ao', cap', hv', hn', _⟩ := own_shape hown1
      clear hown1 hgrow hownr htk hbr hc hf hM hown
      rw [hv'] at R
      rw [hv']
      clear hv'
      go_wp2
      go_roundw
      case rel => exact ⟨j + 1, _, by omega, R.1, R.2.1, R.2.2⟩
      case measure => simp [lenV]; omega
    · obtain ⟨g, hg⟩ : ∃ g, ar = some ⟨g, 0, none⟩ := by
        rcases hownr.2 with ⟨h, _⟩ | ⟨g, cap', cur, h, _⟩
        · simp at h; omega
        · simp at h; exact ⟨g, h.1⟩
      subst hg
      have hcr : l.length + 4 ≤ capr := by omega
      obtain ⟨q1, q2⟩ := own_room hownr hcr
      obtain ⟨hc2, hf2, HB⟩ := own_put (m := encB r) rfl hc hf hbr hownr htk (by rw [encB_length]; exact (encZ_length r).2) hcr
      obtain ⟨hk1, hk2⟩ := encZ_length r
      rw [← encCells_length] at hk1 hk2
      rw [bc_encB, show (encB r).length = (encCells r).length from by rw [encB_length, encCells_length]] at HB
      rw [bc_encB] at hc2 hf2
      clear hownr htk hbr hc hf hM hown
      go_wp2_with fail
      refine (enc19_any g l.length 4 (capr - l.length) r h0 h1 _ (by omega) q1 q2).mono ?_
      rintro e w1 ⟨rfl, rfl⟩
      go_wp2
      go_end0
      exact ⟨rfl, HB.out.1, HB.out.2⟩

theorem wr17 (pb : Nat) (l : List UInt8) (r : Int) (h1 : r ≤ 2147483647) (w : World) (hM : w.cell? ⟨0, 0, none⟩ = some (.int .i64 2147483647)) (hB : Buf w pb l) (hl : l.length ≤ 1000) :
    Calls Eeig.prog 17 #[.pointer (some ⟨pb, 0, none⟩), .int .i32 r] w fun e w' => e = .returned (.tuple #[]) ∧ Buf w' pb (l ++ encB r) ∧ Below pb w w' := by
  by_cases h : r < 128
  · exact wr17_low pb l r h w hM hB hl
  · exact wr17_high pb l r (by omega) h1 w hM hB hl

set_option maxHeartbeats 400000 in
theorem wr15 (pb : Nat) (l : List UInt8) (r : Int) (h1 : r ≤ 2147483647) (w : World) (hM : w.cell? ⟨0, 0, none⟩ = some (.int .i64 2147483647)) (hB : Buf w pb l) (hl : l.length ≤ 1000) :
    Calls Eeig.prog 15 #[.pointer (some ⟨pb, 0, none⟩), .int .i32 r] w fun e w' => e = .returned (.tuple #[.int .i64 (rl r), .nilIface]) ∧ Buf w' pb (l ++ encB r) ∧ Below pb w w' := by
  go_enter Eeig.func15, Eeig.ntmps15
  go_wp2_with fail
  refine (wr17 pb l r h1 _ hM hB hl).mono ?_
  rintro e w' ⟨rfl, hB', hb'⟩
  have HB : Hid (Buf w' pb (l ++ encB r) ∧ Below pb w w') := ⟨hB', hb'⟩
  clear hB' hb' hM hB
  go_wp2_with fail
  refine (runeLen_core r _).mono ?_
  rintro e w2 ⟨rfl, rfl⟩
  go_wp2
  go_ret2
  exact ⟨rfl, HB.out.1, HB.out.2⟩

/-- The bytes of a string constant. -/
theorem size_of (l : List UInt8) : (⟨l.toArray⟩ : ByteArray).size = l.length := by simp [ByteArray.size]

set_option maxHeartbeats 400000 in
theorem bad11 (pb : Nat) (l : List UInt8) (r : Int) (h1 : r ≤ 2147483647) (w : World) (hpb : 0 < pb) (hM : w.cell? ⟨0, 0, none⟩ = some (.int .i64 2147483647)) (hB : Buf w pb l) (hl : l.length ≤ 100) :
    Calls Eeig.prog 11 #[.pointer (some ⟨pb, 0, none⟩), .int .i32 r] w fun e w' => e = .returned (.tuple #[]) ∧ Buf w' pb (l ++ textOf badIdx r) ∧ Below pb w w' := by
  have hk := (encZ_length r).2
  rw [← encB_length] at hk
  go_enter Eeig.func11, Eeig.ntmps11
  go_wp2_with fail
  refine (ws14 pb l ⟨#[37, 33]⟩ _ hM hB (by show l.length + 2 ≤ 1000; omega)).mono ?_
  rintro e w1 ⟨rfl, hB1, hb1⟩
  have hM1 : w1.cell? ⟨0, 0, none⟩ = some (.int .i64 2147483647) := (hb1.cell (p := ⟨0, 0, none⟩) hpb).trans hM
  clear hM hB
  go_wp2_with fail
  refine (wr15 pb (l ++ [37, 33]) r h1 _ hM1 hB1 (by simp; omega)).mono ?_
  rintro e w2 ⟨rfl, hB2, hb2⟩
  have hM2 : w2.cell? ⟨0, 0, none⟩ = some (.int .i64 2147483647) := (hb2.cell (p := ⟨0, 0, none⟩) hpb).trans hM1
  clear hM1 hB1
  go_wp2_with fail
  refine (ws14 pb (l ++ [37, 33] ++ encB r) ⟨#[40, 66, 65, 68, 73, 78, 68, 69, 88, 41]⟩ _ hM2 hB2 (by show (l ++ [37, 33] ++ encB r).length + 10 ≤ 1000; simp; omega)).mono ?_
  rintro e w3 ⟨rfl, hB3, hb3⟩
  have HB : Hid (Buf w3 pb (l ++ textOf badIdx r) ∧ Below pb w w3) := ⟨by unfold textOf pctBang badIdx; simpa using hB3, (hb1.trans hb2).trans hb3⟩
  clear hB3 hb3 hb2 hb1 hM2 hB2
  go_wp2
  go_end0
  exact ⟨rfl, HB.out.1, HB.out.2⟩

end Go.Proofs.YoeeiwDoor
