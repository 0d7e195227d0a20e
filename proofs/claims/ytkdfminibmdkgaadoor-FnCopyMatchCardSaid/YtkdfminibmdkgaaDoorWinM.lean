/- A window as a row that is written round and round: the model. Plain; no program. -/
import Derived.Test.YtkdfminibmdkgaaDoorSize
namespace Go.Sx
open Go
def rot (data : List UInt8) (off : Nat) : List UInt8 := data.drop off ++ data.take off
def lastN (s : Nat) (l : List UInt8) : List UInt8 := l.drop (l.length - s)
structure Win (s : Nat) (data : List UInt8) (off : Nat) : Prop where
  le : data.length ≤ s
  on : off ≤ data.length
  z : data.length < s → off = 0
theorem rot_len (data : List UInt8) {off : Nat} (h : off ≤ data.length) : (rot data off).length = data.length := by
  simp [rot]; omega
theorem Win.len {s : Nat} {data : List UInt8} {off : Nat} (h : Win s data off) : (rot data off).length = data.length := rot_len data h.on
theorem lastN_same {s : Nat} {l : List UInt8} (h : l.length ≤ s) : lastN s l = l := by
  unfold lastN
  rw [Nat.sub_eq_zero_of_le h, List.drop_zero]
theorem lastN_len (s : Nat) (l : List UInt8) : (lastN s l).length = min s l.length := by
  simp [lastN]; omega
/-- only the last bytes count -/
theorem lastN_app (s : Nat) (a b : List UInt8) : lastN s (lastN s a ++ b) = lastN s (a ++ b) := by
  unfold lastN
  simp only [List.length_append, List.length_drop]
  rw [List.drop_append, List.drop_append, List.drop_drop, List.length_drop]
  have e1 : a.length - s + (a.length - (a.length - s) + b.length - s) = a.length + b.length - s ∨ (a.length - s + (a.length - (a.length - s) + b.length - s) ≥ a.length ∧ a.length + b.length - s ≥ a.length) := by omega
  have e2 : a.length - (a.length - s) + b.length - s - (a.length - (a.length - s)) = a.length + b.length - s - a.length := by omega
  rw [e2]
  rcases e1 with e | ⟨e, e'⟩
  · rw [e]
  · rw [List.drop_of_length_le e, List.drop_of_length_le e']
section
variable {s : Nat} {data bs : List UInt8} {off : Nat}
theorem save_big (h : s ≤ bs.length) : Win s (bs.drop (bs.length - s)) 0 ∧ rot (bs.drop (bs.length - s)) 0 = lastN s (rot data off ++ bs) := by
  refine ⟨⟨by simp; omega, Nat.zero_le _, fun _ => rfl⟩, ?_⟩
  unfold lastN
  rw [List.length_append, List.drop_append, List.drop_of_length_le (l := rot data off) (by omega), List.nil_append]
  have : (rot data off).length + bs.length - s - (rot data off).length = bs.length - s := by omega
  rw [this]
  simp [rot]
theorem save_in (hw : Win s data off) (hs : data.length = s) (h : off + bs.length ≤ data.length) :
    Win s (data.take off ++ bs ++ data.drop (off + bs.length)) (off + bs.length) ∧ rot (data.take off ++ bs ++ data.drop (off + bs.length)) (off + bs.length) = lastN s (rot data off ++ bs) := by
  have hl : (data.take off ++ bs).length = off + bs.length := by simp; omega
  refine ⟨⟨by simp; omega, by simp; omega, fun hlt => ?_⟩, ?_⟩
  · simp at hlt; omega
  · unfold lastN
    rw [List.length_append, hw.len, hs]
    have e : s + bs.length - s = bs.length := by omega
    rw [e]
    unfold rot
    rw [List.drop_left' hl, List.take_left' hl, List.append_assoc (data.drop off), List.drop_append_of_le_length (by simp; omega), List.drop_drop]
theorem save_round (hw : Win s data off) (hs : data.length = s) (h : data.length < off + bs.length) (hb : bs.length < s) :
    Win s (bs.drop (data.length - off) ++ (data.take off ++ bs.take (data.length - off)).drop (off + bs.length - data.length)) (off + bs.length - data.length) ∧
      rot (bs.drop (data.length - off) ++ (data.take off ++ bs.take (data.length - off)).drop (off + bs.length - data.length)) (off + bs.length - data.length) = lastN s (rot data off ++ bs) := by
  have hon := hw.on
  have hl : (bs.drop (data.length - off)).length = off + bs.length - data.length := by simp; omega
  refine ⟨⟨by simp; omega, by simp; omega, fun hlt => ?_⟩, ?_⟩
  · simp at hlt; omega
  · unfold lastN
    rw [List.length_append, hw.len, hs]
    have e : s + bs.length - s = bs.length := by omega
    rw [e]
    unfold rot
    rw [hs] at hl
    try rw [hs]
    rw [List.drop_left' hl, List.take_left' hl]
    have e2 : bs.length - (data.drop off).length = off + bs.length - s := by simp; omega
    have r : List.drop bs.length (data.drop off ++ data.take off ++ bs) = (data.take off).drop (off + bs.length - s) ++ bs := by
      rw [List.append_assoc, List.drop_append, List.drop_of_length_le (l := data.drop off) (by simp; omega), List.nil_append, e2, List.drop_append_of_le_length (by simp; omega)]
    have l : (data.take off ++ bs.take (s - off)).drop (off + bs.length - s) ++ bs.drop (s - off) = (data.take off).drop (off + bs.length - s) ++ bs := by
      rw [List.drop_append_of_le_length (by simp; omega), List.append_assoc, List.take_append_drop]
    rw [r, l]
theorem save_grow (hw : Win s data off) (h : data.length + bs.length ≤ s) (h0 : data.length < s) : Win s (data ++ bs) 0 ∧ off = 0 ∧ rot (data ++ bs) 0 = lastN s (rot data off ++ bs) := by
  have ho := hw.z h0
  subst ho
  refine ⟨⟨by simp; omega, Nat.zero_le _, fun _ => rfl⟩, rfl, ?_⟩
  rw [lastN_same (by rw [List.length_append, hw.len]; omega)]
  simp [rot]
theorem save_over (hw : Win s data off) (h : s < data.length + bs.length) (h0 : data.length < s) (hb : bs.length < s) :
    Win s (bs.drop (s - data.length) ++ (data ++ bs.take (s - data.length)).drop (data.length + bs.length - s)) (data.length + bs.length - s) ∧
      rot (bs.drop (s - data.length) ++ (data ++ bs.take (s - data.length)).drop (data.length + bs.length - s)) (data.length + bs.length - s) = lastN s (rot data off ++ bs) := by
  have ho := hw.z h0
  subst ho
  have hl : (bs.drop (s - data.length)).length = data.length + bs.length - s := by simp; omega
  refine ⟨⟨by simp; omega, by simp; omega, fun hlt => ?_⟩, ?_⟩
  · simp at hlt; omega
  · unfold lastN
    rw [List.length_append, hw.len]
    have e1 : rot data 0 = data := by simp [rot]
    rw [e1]
    unfold rot
    rw [List.drop_left' hl, List.take_left' hl, List.drop_append_of_le_length (by omega), List.append_assoc, List.take_append_drop, List.drop_append_of_le_length (by omega)]
end
end Go.Sx
