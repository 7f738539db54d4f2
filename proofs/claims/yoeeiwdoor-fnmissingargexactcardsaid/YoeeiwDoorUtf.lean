/-
  The leaves: utf8.RuneLen, utf8.EncodeRune, zzEnc, zzValidScalar.
-/
import Derived.Test.YoeeiwDoorProg
import Derived.Test.YoeeiwDoorPlain
import Derived.WalkKit
import Derived.WalkSpells
import Derived.WalkLawsBesides
import Derived.Laws.IdiomCopy
namespace Go.Proofs.YoeeiwDoor
open Go.RowKit

theorem ret_int {k : IntKind} {a b : Int} (h : a = b) : Ending.returned (.int k a) = .returned (.int k b) := by rw [h]

set_option maxHeartbeats 400000 in
theorem runeLen_core (r : Int) (w : World) : Calls Eeig.prog 18 #[.int .i32 r] w fun e w' => e = .returned (.int .i64 (rl r)) ∧ w' = w := by
  unfold rl
  by_cases n0 : r < 0
  · simp only [if_pos n0]
    go_enter Eeig.func18, Eeig.ntmps18
    go_wp2
    go_ret
    exact ⟨rfl, rfl⟩
  by_cases n1 : r ≤ 127
  · simp only [if_neg n0, if_pos n1]
    go_enter Eeig.func18, Eeig.ntmps18
    go_wp2
    go_ret
    exact ⟨rfl, rfl⟩
  by_cases n2 : r ≤ 2047
  · simp only [if_neg n0, if_neg n1, if_pos n2]
    go_enter Eeig.func18, Eeig.ntmps18
    go_wp2
    go_ret
    exact ⟨rfl, rfl⟩
  by_cases n3 : r < 55296
  · have n3' : ¬ (55296 ≤ r ∧ r ≤ 57343) := by omega
    have n4 : r ≤ 65535 := by omega
    simp only [if_neg n0, if_neg n1, if_neg n2, if_neg n3', if_pos n4]
    go_enter Eeig.func18, Eeig.ntmps18
    go_wp2
    go_ret
    exact ⟨rfl, rfl⟩
  by_cases n4 : r ≤ 57343
  · have n4' : 55296 ≤ r ∧ r ≤ 57343 := by omega
    simp only [if_neg n0, if_neg n1, if_neg n2, if_pos n4']
    go_enter Eeig.func18, Eeig.ntmps18
    go_wp2
    go_ret
    exact ⟨rfl, rfl⟩
  have n4' : ¬ (55296 ≤ r ∧ r ≤ 57343) := by omega
  by_cases n5 : r ≤ 65535
  · simp only [if_neg n0, if_neg n1, if_neg n2, if_neg n4', if_pos n5]
    go_enter Eeig.func18, Eeig.ntmps18
    go_wp2
    go_ret
    exact ⟨rfl, rfl⟩
  by_cases n6 : r ≤ 1114111
  · simp only [if_neg n0, if_neg n1, if_neg n2, if_neg n4', if_neg n5, if_pos n6]
    go_enter Eeig.func18, Eeig.ntmps18
    go_wp2
    go_ret
    exact ⟨rfl, rfl⟩
  · simp only [if_neg n0, if_neg n1, if_neg n2, if_neg n4', if_neg n5, if_neg n6]
    go_enter Eeig.func18, Eeig.ntmps18
    go_wp2
    go_ret
    exact ⟨rfl, rfl⟩

set_option maxHeartbeats 400000 in
theorem enc20_two (b off len cap : Nat) (r : Int) (h0 : 128 ≤ r) (h1 : r ≤ 2047) (w : World) (hl : 2 ≤ len)
    (hc : ∀ j, j < 2 → (w.cell? ⟨b, off + j, none⟩).isSome = true) (hf : ∀ j, j < 2 → w.frozen? ⟨b, off + j, none⟩ = false) :
    Calls Eeig.prog 20 #[.slice (some ⟨b, off, none⟩) len cap, .int .i32 r] w fun e w' => e = .returned (.int .i64 2) ∧ w' = w.setCells b off [.int .u8 (192 + r / 64), .int .u8 (128 + r % 64)] := by
  obtain ⟨c0, hc0⟩ := Option.isSome_iff_exists.1 (hc 0 (by omega)); have hf0 := hf 0 (by omega)
  obtain ⟨c1, hc1⟩ := Option.isSome_iff_exists.1 (hc 1 (by omega)); have hf1 := hf 1 (by omega)
  simp only [Nat.add_zero] at hc0 hf0
  clear hc hf
  go_enter Eeig.func20, Eeig.ntmps20
  go_wp2
  go_ret
  exact ⟨rfl, rfl⟩

set_option maxHeartbeats 400000 in
theorem enc20_lo (b off len cap : Nat) (r : Int) (h0 : 2048 ≤ r) (h1 : r < 55296) (w : World) (hl : 3 ≤ len)
    (hc : ∀ j, j < 3 → (w.cell? ⟨b, off + j, none⟩).isSome = true) (hf : ∀ j, j < 3 → w.frozen? ⟨b, off + j, none⟩ = false) :
    Calls Eeig.prog 20 #[.slice (some ⟨b, off, none⟩) len cap, .int .i32 r] w fun e w' => e = .returned (.int .i64 3) ∧ w' = w.setCells b off [.int .u8 (224 + r / 4096), .int .u8 (128 + r / 64 % 64), .int .u8 (128 + r % 64)] := by
  obtain ⟨c0, hc0⟩ := Option.isSome_iff_exists.1 (hc 0 (by omega)); have hf0 := hf 0 (by omega)
  obtain ⟨c1, hc1⟩ := Option.isSome_iff_exists.1 (hc 1 (by omega)); have hf1 := hf 1 (by omega)
  obtain ⟨c2, hc2⟩ := Option.isSome_iff_exists.1 (hc 2 (by omega)); have hf2 := hf 2 (by omega)
  simp only [Nat.add_zero] at hc0 hf0
  clear hc hf
  go_enter Eeig.func20, Eeig.ntmps20
  go_wp2
  go_ret
  exact ⟨rfl, rfl⟩

set_option maxHeartbeats 400000 in
theorem enc20_hi (b off len cap : Nat) (r : Int) (h0 : 57343 < r) (h1 : r ≤ 65535) (w : World) (hl : 3 ≤ len)
    (hc : ∀ j, j < 3 → (w.cell? ⟨b, off + j, none⟩).isSome = true) (hf : ∀ j, j < 3 → w.frozen? ⟨b, off + j, none⟩ = false) :
    Calls Eeig.prog 20 #[.slice (some ⟨b, off, none⟩) len cap, .int .i32 r] w fun e w' => e = .returned (.int .i64 3) ∧ w' = w.setCells b off [.int .u8 (224 + r / 4096), .int .u8 (128 + r / 64 % 64), .int .u8 (128 + r % 64)] := by
  obtain ⟨c0, hc0⟩ := Option.isSome_iff_exists.1 (hc 0 (by omega)); have hf0 := hf 0 (by omega)
  obtain ⟨c1, hc1⟩ := Option.isSome_iff_exists.1 (hc 1 (by omega)); have hf1 := hf 1 (by omega)
  obtain ⟨c2, hc2⟩ := Option.isSome_iff_exists.1 (hc 2 (by omega)); have hf2 := hf 2 (by omega)
  simp only [Nat.add_zero] at hc0 hf0
  clear hc hf
  go_enter Eeig.func20, Eeig.ntmps20
  go_wp2
  go_ret
  exact ⟨rfl, rfl⟩

set_option maxHeartbeats 400000 in
theorem enc20_four (b off len cap : Nat) (r : Int) (h0 : 65536 ≤ r) (h1 : r ≤ 1114111) (w : World) (hl : 4 ≤ len)
    (hc : ∀ j, j < 4 → (w.cell? ⟨b, off + j, none⟩).isSome = true) (hf : ∀ j, j < 4 → w.frozen? ⟨b, off + j, none⟩ = false) :
    Calls Eeig.prog 20 #[.slice (some ⟨b, off, none⟩) len cap, .int .i32 r] w fun e w' => e = .returned (.int .i64 4) ∧ w' = w.setCells b off [.int .u8 (240 + r / 262144), .int .u8 (128 + r / 4096 % 64), .int .u8 (128 + r / 64 % 64), .int .u8 (128 + r % 64)] := by
  obtain ⟨c0, hc0⟩ := Option.isSome_iff_exists.1 (hc 0 (by omega)); have hf0 := hf 0 (by omega)
  obtain ⟨c1, hc1⟩ := Option.isSome_iff_exists.1 (hc 1 (by omega)); have hf1 := hf 1 (by omega)
  obtain ⟨c2, hc2⟩ := Option.isSome_iff_exists.1 (hc 2 (by omega)); have hf2 := hf 2 (by omega)
  obtain ⟨c3, hc3⟩ := Option.isSome_iff_exists.1 (hc 3 (by omega)); have hf3 := hf 3 (by omega)
  simp only [Nat.add_zero] at hc0 hf0
  clear hc hf
  go_enter Eeig.func20, Eeig.ntmps20
  go_wp2
  go_ret
  exact ⟨rfl, rfl⟩

set_option maxHeartbeats 400000 in
theorem enc20_sur (b off len cap : Nat) (r : Int) (h0 : 55296 ≤ r) (h1 : r ≤ 57343) (w : World) (hl : 3 ≤ len)
    (hc : ∀ j, j < 3 → (w.cell? ⟨b, off + j, none⟩).isSome = true) (hf : ∀ j, j < 3 → w.frozen? ⟨b, off + j, none⟩ = false) :
    Calls Eeig.prog 20 #[.slice (some ⟨b, off, none⟩) len cap, .int .i32 r] w fun e w' => e = .returned (.int .i64 3) ∧ w' = w.setCells b off [.int .u8 239, .int .u8 191, .int .u8 189] := by
  obtain ⟨c0, hc0⟩ := Option.isSome_iff_exists.1 (hc 0 (by omega)); have hf0 := hf 0 (by omega)
  obtain ⟨c1, hc1⟩ := Option.isSome_iff_exists.1 (hc 1 (by omega)); have hf1 := hf 1 (by omega)
  obtain ⟨c2, hc2⟩ := Option.isSome_iff_exists.1 (hc 2 (by omega)); have hf2 := hf 2 (by omega)
  simp only [Nat.add_zero] at hc0 hf0
  clear hc hf
  go_enter Eeig.func20, Eeig.ntmps20
  go_wp2
  go_ret
  exact ⟨rfl, rfl⟩

set_option maxHeartbeats 400000 in
theorem enc20_big (b off len cap : Nat) (r : Int) (h0 : 1114111 < r) (h1 : r ≤ 2147483647) (w : World) (hl : 3 ≤ len)
    (hc : ∀ j, j < 3 → (w.cell? ⟨b, off + j, none⟩).isSome = true) (hf : ∀ j, j < 3 → w.frozen? ⟨b, off + j, none⟩ = false) :
    Calls Eeig.prog 20 #[.slice (some ⟨b, off, none⟩) len cap, .int .i32 r] w fun e w' => e = .returned (.int .i64 3) ∧ w' = w.setCells b off [.int .u8 239, .int .u8 191, .int .u8 189] := by
  obtain ⟨c0, hc0⟩ := Option.isSome_iff_exists.1 (hc 0 (by omega)); have hf0 := hf 0 (by omega)
  obtain ⟨c1, hc1⟩ := Option.isSome_iff_exists.1 (hc 1 (by omega)); have hf1 := hf 1 (by omega)
  obtain ⟨c2, hc2⟩ := Option.isSome_iff_exists.1 (hc 2 (by omega)); have hf2 := hf 2 (by omega)
  simp only [Nat.add_zero] at hc0 hf0
  clear hc hf
  go_enter Eeig.func20, Eeig.ntmps20
  go_wp2
  go_ret
  exact ⟨rfl, rfl⟩

theorem encCells_of {r : Int} {l : List Int} (h : encZ r = l) : encCells r = l.map fun x => Value.int .u8 x := by rw [encCells, h]

/-- encodeRuneNonASCII at every rune from 128 on. -/
theorem enc20_any (b off len cap : Nat) (r : Int) (h0 : 128 ≤ r) (h1 : r ≤ 2147483647) (w : World) (hl : 4 ≤ len)
    (hc : ∀ j, j < 4 → (w.cell? ⟨b, off + j, none⟩).isSome = true) (hf : ∀ j, j < 4 → w.frozen? ⟨b, off + j, none⟩ = false) :
    Calls Eeig.prog 20 #[.slice (some ⟨b, off, none⟩) len cap, .int .i32 r] w fun e w' => e = .returned (.int .i64 (encCells r).length) ∧ w' = w.setCells b off (encCells r) := by
  by_cases n1 : r ≤ 2047
  · rw [encCells_of (encZ_two h0 n1)]
    exact enc20_two b off len cap r h0 n1 w (by omega) (fun j hj => hc j (by omega)) (fun j hj => hf j (by omega))
  by_cases n2 : r < 55296
  · rw [encCells_of (encZ_three (by omega) (Or.inl n2))]
    exact enc20_lo b off len cap r (by omega) n2 w (by omega) (fun j hj => hc j (by omega)) (fun j hj => hf j (by omega))
  by_cases n3 : r ≤ 57343
  · rw [encCells_of (encZ_bad (Or.inl ⟨by omega, n3⟩))]
    exact enc20_sur b off len cap r (by omega) n3 w (by omega) (fun j hj => hc j (by omega)) (fun j hj => hf j (by omega))
  by_cases n4 : r ≤ 65535
  · rw [encCells_of (encZ_three (by omega) (Or.inr ⟨by omega, n4⟩))]
    exact enc20_hi b off len cap r (by omega) n4 w (by omega) (fun j hj => hc j (by omega)) (fun j hj => hf j (by omega))
  by_cases n5 : r ≤ 1114111
  · rw [encCells_of (encZ_four (by omega) n5)]
    exact enc20_four b off len cap r (by omega) n5 w hl hc hf
  · rw [encCells_of (encZ_bad (Or.inr (by omega)))]
    exact enc20_big b off len cap r (by omega) h1 w (by omega) (fun j hj => hc j (by omega)) (fun j hj => hf j (by omega))

set_option maxHeartbeats 400000 in
theorem enc19_on (p : Value) (r : Int) (h0 : 128 ≤ r) (h1 : r ≤ 2147483647) (w : World) (k : Int) (W' : World)
    (cN : Calls Eeig.prog 20 #[p, .int .i32 r] w fun e w' => e = .returned (.int .i64 k) ∧ w' = W') :
    Calls Eeig.prog 19 #[p, .int .i32 r] w fun e w' => e = .returned (.int .i64 k) ∧ w' = W' := by
  go_enter Eeig.func19, Eeig.ntmps19
  go_wp2_with (go_at_call 20; refine cN.mono ?_; rintro e w' ⟨rfl, rfl⟩)
  go_ret
  exact ⟨rfl, rfl⟩

/-- EncodeRune at every rune from 128 on, four cells at hand. -/
theorem enc19_any (b off len cap : Nat) (r : Int) (h0 : 128 ≤ r) (h1 : r ≤ 2147483647) (w : World) (hl : 4 ≤ len)
    (hc : ∀ j, j < 4 → (w.cell? ⟨b, off + j, none⟩).isSome = true) (hf : ∀ j, j < 4 → w.frozen? ⟨b, off + j, none⟩ = false) :
    Calls Eeig.prog 19 #[.slice (some ⟨b, off, none⟩) len cap, .int .i32 r] w fun e w' => e = .returned (.int .i64 (encCells r).length) ∧ w' = w.setCells b off (encCells r) :=
  enc19_on _ r h0 h1 w _ _ (enc20_any b off len cap r h0 h1 w hl hc hf)

theorem wraps_u32 (n : Int) (h0 : 0 ≤ n) (h1 : n < 2 ^ 32) : IntKind.u32.wrap n = n := by rw [IntKind.wrap_u32]; omega
theorem b255 (r : Int) : bits .and .u32 (r % 4294967296) 255 % 256 = r % 256 := by
  have h := bits_mask .u32 32 (by decide) wraps_u32 8 (by decide) (r % 4294967296) (by omega) (by omega)
  have h' : bits .and .u32 (r % 4294967296) 255 = r % 4294967296 % 256 := h
  rw [h']; omega
theorem btail (x : Int) (h0 : 0 ≤ x) (h1 : x < 4294967296) : bits .or .u32 128 (bits .and .u32 x 63) % 256 = 128 + x % 64 := by
  have h : bits .and .u32 x 63 = x % 64 := bits_mask .u32 32 (by decide) wraps_u32 6 (by decide) x h0 h1
  have g : bits .or .u32 128 (x % 64) = 128 + x % 64 := bits_join .u32 32 (by decide) wraps_u32 6 128 (x % 64) (by decide) (by decide) (by decide) (by omega) (by omega) (by omega)
  rw [h, g]; omega
theorem b192 (x : Int) (h0 : 0 ≤ x) (h1 : x < 32) : bits .or .u32 192 x % 256 = 192 + x := by
  have g : bits .or .u32 192 x = 192 + x := bits_join .u32 32 (by decide) wraps_u32 5 192 x (by decide) (by decide) (by decide) h0 h1 (by omega)
  rw [g]; omega
theorem b224 (x : Int) (h0 : 0 ≤ x) (h1 : x < 16) : bits .or .u32 224 x % 256 = 224 + x := by
  have g : bits .or .u32 224 x = 224 + x := bits_join .u32 32 (by decide) wraps_u32 4 224 x (by decide) (by decide) (by decide) h0 h1 (by omega)
  rw [g]; omega
theorem b240 (x : Int) (h0 : 0 ≤ x) (h1 : x < 8) : bits .or .u32 240 x % 256 = 240 + x := by
  have g : bits .or .u32 240 x = 240 + x := bits_join .u32 32 (by decide) wraps_u32 3 240 x (by decide) (by decide) (by decide) h0 h1 (by omega)
  rw [g]; omega

set_option maxHeartbeats 400000 in
theorem enc6_one (r : Int) (h1 : r < 128) (w : World) :
    Calls Eeig.prog 6 #[.int .i32 r] w fun e w' => e = .returned (.slice (some ⟨w.heap.size, 0, none⟩) 1 1) ∧ w' = w.alloc (.cells #[.int .u8 (r % 256)] 5) := by
  go_enter Eeig.func6, Eeig.ntmps6
  go_wp2
  go_ret
  exact ⟨rfl, by rw [b255]⟩
set_option maxHeartbeats 400000 in
theorem enc6_two (r : Int) (h0 : 128 ≤ r) (h1 : r ≤ 2047) (w : World) :
    Calls Eeig.prog 6 #[.int .i32 r] w fun e w' => e = .returned (.slice (some ⟨w.heap.size, 0, none⟩) 2 2) ∧ w' = w.alloc (.cells #[.int .u8 (192 + r / 64), .int .u8 (128 + r % 64)] 5) := by
  go_enter Eeig.func6, Eeig.ntmps6
  go_wp2
  go_ret
  exact ⟨rfl, by rw [b192 _ (by omega) (by omega), btail _ (by omega) (by omega)]⟩
set_option maxHeartbeats 400000 in
theorem enc6_lo (r : Int) (h0 : 2048 ≤ r) (h1 : r < 55296) (w : World) :
    Calls Eeig.prog 6 #[.int .i32 r] w fun e w' => e = .returned (.slice (some ⟨w.heap.size, 0, none⟩) 3 3) ∧ w' = w.alloc (.cells #[.int .u8 (224 + r / 4096), .int .u8 (128 + r / 64 % 64), .int .u8 (128 + r % 64)] 5) := by
  go_enter Eeig.func6, Eeig.ntmps6
  go_wp2
  go_ret
  exact ⟨rfl, by rw [b224 _ (by omega) (by omega), btail _ (by omega) (by omega), btail _ (by omega) (by omega)]⟩
set_option maxHeartbeats 400000 in
theorem enc6_hi (r : Int) (h0 : 57343 < r) (h1 : r ≤ 65535) (w : World) :
    Calls Eeig.prog 6 #[.int .i32 r] w fun e w' => e = .returned (.slice (some ⟨w.heap.size, 0, none⟩) 3 3) ∧ w' = w.alloc (.cells #[.int .u8 (224 + r / 4096), .int .u8 (128 + r / 64 % 64), .int .u8 (128 + r % 64)] 5) := by
  go_enter Eeig.func6, Eeig.ntmps6
  go_wp2
  go_ret
  exact ⟨rfl, by rw [b224 _ (by omega) (by omega), btail _ (by omega) (by omega), btail _ (by omega) (by omega)]⟩
set_option maxHeartbeats 400000 in
theorem enc6_four (r : Int) (h0 : 65536 ≤ r) (h1 : r ≤ 1114111) (w : World) :
    Calls Eeig.prog 6 #[.int .i32 r] w fun e w' => e = .returned (.slice (some ⟨w.heap.size, 0, none⟩) 4 4) ∧ w' = w.alloc (.cells #[.int .u8 (240 + r / 262144), .int .u8 (128 + r / 4096 % 64), .int .u8 (128 + r / 64 % 64), .int .u8 (128 + r % 64)] 5) := by
  go_enter Eeig.func6, Eeig.ntmps6
  go_wp2
  go_ret
  exact ⟨rfl, by rw [b240 _ (by omega) (by omega), btail _ (by omega) (by omega), btail _ (by omega) (by omega), btail _ (by omega) (by omega)]⟩
set_option maxHeartbeats 400000 in
theorem enc6_sur (r : Int) (h0 : 55296 ≤ r) (h1 : r ≤ 57343) (w : World) :
    Calls Eeig.prog 6 #[.int .i32 r] w fun e w' => e = .returned (.slice (some ⟨w.heap.size, 0, none⟩) 3 3) ∧ w' = w.alloc (.cells #[.int .u8 239, .int .u8 191, .int .u8 189] 5) := by
  go_enter Eeig.func6, Eeig.ntmps6
  go_wp2
  go_ret
  exact ⟨rfl, rfl⟩
set_option maxHeartbeats 400000 in
theorem enc6_big (r : Int) (h0 : 1114111 < r) (h1 : r ≤ 2147483647) (w : World) :
    Calls Eeig.prog 6 #[.int .i32 r] w fun e w' => e = .returned (.slice (some ⟨w.heap.size, 0, none⟩) 3 3) ∧ w' = w.alloc (.cells #[.int .u8 239, .int .u8 191, .int .u8 189] 5) := by
  go_enter Eeig.func6, Eeig.ntmps6
  go_wp2
  go_ret
  exact ⟨rfl, rfl⟩

/-- zzEnc at every int32. -/
theorem enc6_any (r : Int) (hhi : r ≤ 2147483647) (w : World) :
    Calls Eeig.prog 6 #[.int .i32 r] w fun e w' => e = .returned (.slice (some ⟨w.heap.size, 0, none⟩) (encCells r).length (encCells r).length) ∧ w' = w.alloc (.cells (encCells r).toArray 5) := by
  by_cases n0 : r < 128
  · rw [encCells_of (encZ_one n0)]; exact enc6_one r n0 w
  by_cases n1 : r ≤ 2047
  · rw [encCells_of (encZ_two (by omega) n1)]; exact enc6_two r (by omega) n1 w
  by_cases n2 : r < 55296
  · rw [encCells_of (encZ_three (by omega) (Or.inl n2))]; exact enc6_lo r (by omega) n2 w
  by_cases n3 : r ≤ 57343
  · rw [encCells_of (encZ_bad (Or.inl ⟨by omega, n3⟩))]; exact enc6_sur r (by omega) n3 w
  by_cases n4 : r ≤ 65535
  · rw [encCells_of (encZ_three (by omega) (Or.inr ⟨by omega, n4⟩))]; exact enc6_hi r (by omega) n4 w
  by_cases n5 : r ≤ 1114111
  · rw [encCells_of (encZ_four (by omega) n5)]; exact enc6_four r (by omega) n5 w
  · rw [encCells_of (encZ_bad (Or.inr (by omega)))]; exact enc6_big r (by omega) hhi w

/-- zzValidScalar. -/
def vsB (r : Int) : Bool := decide (0 ≤ r ∧ r ≤ 1114111 ∧ ¬ (55296 ≤ r ∧ r ≤ 57343))

theorem vs_true (r : Int) (w : World) (h0 : 0 ≤ r) (h1 : r ≤ 1114111) (h2 : r < 55296 ∨ 57343 < r) : Calls Eeig.prog 8 #[.int .i32 r] w fun e w' => e = .returned (.bool true) ∧ w' = w := by
  rcases h2 with h2 | h2
  · go_enter Eeig.func8, Eeig.ntmps8
    go_wp2
    go_ret
    exact ⟨rfl, rfl⟩
  · have hd : decide (r ≤ 57343) = false := decide_eq_false (by omega)
    go_enter Eeig.func8, Eeig.ntmps8
    go_wp2
    go_ret
    exact ⟨by simp, rfl⟩
theorem vs_neg (r : Int) (w : World) (h0 : r < 0) : Calls Eeig.prog 8 #[.int .i32 r] w fun e w' => e = .returned (.bool false) ∧ w' = w := by
  go_enter Eeig.func8, Eeig.ntmps8
  go_wp2
  go_ret
  exact ⟨rfl, rfl⟩
theorem vs_big (r : Int) (w : World) (h0 : 1114111 < r) : Calls Eeig.prog 8 #[.int .i32 r] w fun e w' => e = .returned (.bool false) ∧ w' = w := by
  go_enter Eeig.func8, Eeig.ntmps8
  go_wp2
  go_ret
  exact ⟨rfl, rfl⟩
theorem vs_sur (r : Int) (w : World) (h0 : 55296 ≤ r) (h1 : r ≤ 57343) : Calls Eeig.prog 8 #[.int .i32 r] w fun e w' => e = .returned (.bool false) ∧ w' = w := by
  go_enter Eeig.func8, Eeig.ntmps8
  go_wp2
  go_ret
  exact ⟨rfl, rfl⟩
theorem vs_any (r : Int) (w : World) : Calls Eeig.prog 8 #[.int .i32 r] w fun e w' => e = .returned (.bool (vsB r)) ∧ w' = w := by
  by_cases n0 : r < 0
  · rw [show vsB r = false from decide_eq_false (by omega)]; exact vs_neg r w n0
  by_cases n1 : 1114111 < r
  · rw [show vsB r = false from decide_eq_false (by omega)]; exact vs_big r w n1
  by_cases n2 : 55296 ≤ r ∧ r ≤ 57343
  · rw [show vsB r = false from decide_eq_false (by omega)]; exact vs_sur r w n2.1 n2.2
  · rw [show vsB r = true from decide_eq_true (by omega)]; exact vs_true r w (by omega) (by omega) (by omega)

end Go.Proofs.YoeeiwDoor
