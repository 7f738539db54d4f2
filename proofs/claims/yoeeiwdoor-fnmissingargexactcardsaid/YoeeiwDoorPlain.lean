/-
  Plain functions and laws: the bytes that the printer lays down for a verb. Nothing of the program is imported.
-/
import Derived.Lib.AppendStr
namespace Go.Proofs.YoeeiwDoor

/-- The numbers of the bytes laid down for the verb r. -/
def encZ (r : Int) : List Int :=
  if r < 128 then [r % 256]
  else if r ≤ 2047 then [192 + r / 64, 128 + r % 64]
  else if r < 55296 ∨ (57343 < r ∧ r ≤ 65535) then [224 + r / 4096, 128 + r / 64 % 64, 128 + r % 64]
  else if 65536 ≤ r ∧ r ≤ 1114111 then [240 + r / 262144, 128 + r / 4096 % 64, 128 + r / 64 % 64, 128 + r % 64]
  else [239, 191, 189]

/-- utf8.RuneLen. -/
def rl (r : Int) : Int :=
  if r < 0 then -1 else if r ≤ 127 then 1 else if r ≤ 2047 then 2 else if 55296 ≤ r ∧ r ≤ 57343 then -1
  else if r ≤ 65535 then 3 else if r ≤ 1114111 then 4 else -1

theorem rl_bd (r : Int) : -1 ≤ rl r ∧ rl r ≤ 4 := by
  unfold rl
  repeat' split
  all_goals omega

theorem encZ_one {r : Int} (h : r < 128) : encZ r = [r % 256] := by simp [encZ, h]
theorem encZ_two {r : Int} (h0 : 128 ≤ r) (h1 : r ≤ 2047) : encZ r = [192 + r / 64, 128 + r % 64] := by
  have a : ¬ r < 128 := by omega
  simp [encZ, a, h1]
theorem encZ_three {r : Int} (h0 : 2048 ≤ r) (h : r < 55296 ∨ (57343 < r ∧ r ≤ 65535)) : encZ r = [224 + r / 4096, 128 + r / 64 % 64, 128 + r % 64] := by
  have a : ¬ r < 128 := by omega
  have b : ¬ r ≤ 2047 := by omega
  simp only [encZ, if_neg a, if_neg b, if_pos h]
theorem encZ_four {r : Int} (h0 : 65536 ≤ r) (h1 : r ≤ 1114111) : encZ r = [240 + r / 262144, 128 + r / 4096 % 64, 128 + r / 64 % 64, 128 + r % 64] := by
  have a : ¬ r < 128 := by omega
  have b : ¬ r ≤ 2047 := by omega
  have c : ¬ (r < 55296 ∨ (57343 < r ∧ r ≤ 65535)) := by omega
  simp only [encZ, if_neg a, if_neg b, if_neg c, if_pos (And.intro h0 h1)]
theorem encZ_bad {r : Int} (h : (55296 ≤ r ∧ r ≤ 57343) ∨ 1114111 < r) : encZ r = [239, 191, 189] := by
  have a : ¬ r < 128 := by omega
  have b : ¬ r ≤ 2047 := by omega
  have c : ¬ (r < 55296 ∨ (57343 < r ∧ r ≤ 65535)) := by omega
  have d : ¬ (65536 ≤ r ∧ r ≤ 1114111) := by omega
  simp only [encZ, if_neg a, if_neg b, if_neg c, if_neg d]

theorem encZ_byte (r : Int) : ∀ x ∈ encZ r, 0 ≤ x ∧ x < 256 := by
  intro x hx
  unfold encZ at hx
  split at hx
  · simp at hx; omega
  · split at hx
    · simp at hx; omega
    · split at hx
      · simp at hx; omega
      · split at hx
        · simp at hx; omega
        · simp at hx; omega

theorem encZ_length (r : Int) : 1 ≤ (encZ r).length ∧ (encZ r).length ≤ 4 := by
  unfold encZ
  repeat' split
  all_goals simp

/-- The same as cells, and as bytes. -/
def encCells (r : Int) : List Value := (encZ r).map fun x => Value.int .u8 x
def encB (r : Int) : List UInt8 := (encZ r).map fun x => x.toNat.toUInt8

theorem encCells_length (r : Int) : (encCells r).length = (encZ r).length := by simp [encCells]
theorem encB_length (r : Int) : (encB r).length = (encZ r).length := by simp [encB]

theorem encB_toNat (r : Int) : (encB r).map (fun b => (b.toNat : Int)) = encZ r := by
  simp only [encB, List.map_map]
  have h : ∀ x ∈ encZ r, ((fun b : UInt8 => (b.toNat : Int)) ∘ fun x : Int => x.toNat.toUInt8) x = x := by
    intro x hx
    obtain ⟨h0, h1⟩ := encZ_byte r x hx
    simp [Function.comp]
    omega
  rw [List.map_congr_left h]
  simp

/-- Bytes as cells. -/
def bc (l : List UInt8) : List Value := l.map fun b => Value.int .u8 b.toNat

theorem bc_append (a b : List UInt8) : bc (a ++ b) = bc a ++ bc b := by simp [bc]
theorem bc_length (l : List UInt8) : (bc l).length = l.length := by simp [bc]
theorem bc_encB (r : Int) : bc (encB r) = encCells r := by
  have h := encB_toNat r
  simp only [bc, encCells, ← h, List.map_map]
  rfl
theorem bc_strCells (s : ByteArray) : Lib.strCells s = bc s.data.toList := rfl

/-- Two scalar values of the same bytes are one. -/
theorem encZ_inj {a b : Int} (ha : 0 ≤ a) (hb : 0 ≤ b) (ha1 : a ≤ 1114111) (hb1 : b ≤ 1114111) (ha2 : ¬ (55296 ≤ a ∧ a ≤ 57343)) (hb2 : ¬ (55296 ≤ b ∧ b ≤ 57343)) (h : encZ a = encZ b) : a = b := by
  have ca : a < 128 ∨ (128 ≤ a ∧ a ≤ 2047) ∨ (2048 ≤ a ∧ (a < 55296 ∨ (57343 < a ∧ a ≤ 65535))) ∨ (65536 ≤ a ∧ a ≤ 1114111) := by omega
  have cb : b < 128 ∨ (128 ≤ b ∧ b ≤ 2047) ∨ (2048 ≤ b ∧ (b < 55296 ∨ (57343 < b ∧ b ≤ 65535))) ∨ (65536 ≤ b ∧ b ≤ 1114111) := by omega
  rcases ca with ca | ca | ca | ca <;> rcases cb with cb | cb | cb | cb
  all_goals
    first
    | rw [encZ_one ca] at h
    | rw [encZ_two ca.1 ca.2] at h
    | rw [encZ_three ca.1 ca.2] at h
    | rw [encZ_four ca.1 ca.2] at h
  all_goals
    first
    | rw [encZ_one cb] at h
    | rw [encZ_two cb.1 cb.2] at h
    | rw [encZ_three cb.1 cb.2] at h
    | rw [encZ_four cb.1 cb.2] at h
  all_goals simp at h
  all_goals omega

theorem encB_inj {a b : Int} (ha : 0 ≤ a) (hb : 0 ≤ b) (ha1 : a ≤ 1114111) (hb1 : b ≤ 1114111) (ha2 : ¬ (55296 ≤ a ∧ a ≤ 57343)) (hb2 : ¬ (55296 ≤ b ∧ b ≤ 57343)) (h : encB a = encB b) : a = b :=
  encZ_inj ha hb ha1 hb1 ha2 hb2 (by rw [← encB_toNat a, ← encB_toNat b, h])

/-- '%!', '(BADINDEX)', '(MISSING)'. -/
def pctBang : List UInt8 := [37, 33]
def badIdx : List UInt8 := [40, 66, 65, 68, 73, 78, 68, 69, 88, 41]
def missg : List UInt8 := [40, 77, 73, 83, 83, 73, 78, 71, 41]

/-- What the two methods write. -/
def textOf (tail : List UInt8) (r : Int) : List UInt8 := pctBang ++ encB r ++ tail

theorem text_ne (r : Int) : textOf missg r ≠ textOf badIdx r := by
  intro h
  have := congrArg List.length h
  simp [textOf, missg, badIdx] at this

theorem text_inj {a b : Int} (t : List UInt8) (ha : 0 ≤ a) (hb : 0 ≤ b) (ha1 : a ≤ 1114111) (hb1 : b ≤ 1114111) (ha2 : ¬ (55296 ≤ a ∧ a ≤ 57343)) (hb2 : ¬ (55296 ≤ b ∧ b ≤ 57343)) (h : textOf t a = textOf t b) : a = b := by
  unfold textOf at h
  have h1 := List.append_cancel_right h
  exact encB_inj ha hb ha1 hb1 ha2 hb2 (List.append_cancel_left h1)

theorem text_length (t : List UInt8) (r : Int) : (textOf t r).length ≤ 6 + t.length := by
  have := (encZ_length r).2
  simp [textOf, pctBang, encB_length]
  omega

end Go.Proofs.YoeeiwDoor
