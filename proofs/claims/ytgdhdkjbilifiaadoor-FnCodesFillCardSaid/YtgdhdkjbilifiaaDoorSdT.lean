/- The reference's reader of counts. -/
import Derived.Test.YtgdhdkjbilifiaaDoorSdS
namespace Go.Proofs.YtgdhdkjbilifiaaDoor
open Go Go.Sx
set_option maxRecDepth 100000
abbrev ctB (b : Nat) (A : Option Addr) (n c p : Nat) (sh : Bool) : Hp := [.blk b 117 [.slice A n c, vN p, vB sh]]
theorem cbits_spec (b : Nat) (A : Option Addr) (n c : Nat) (bs : List UInt8) (p m : Nat) (sh : Bool) (hn : n ≤ 16777216) (hp : p ≤ 8 * n) (hm : m ≤ 40) :
    FnS Tryd.prog 59 [.pointer (some ⟨b, 0, none⟩), vN m] (ctB b A n c p sh) (fun w => Bytes w (blocks (ctB b A n c p sh)) A n c bs)
      (fun v H => (8 * n < p + m ∧ v = vN 0 ∧ H = ctB b A n c p true) ∨ (p + m ≤ 8 * n ∧ v = vN (bitsN (num bs) p m) ∧ H = ctB b A n c (p + m) sh)) := by
  refine FnS.introD Tryd.func59 rfl (by kernel_rfl) rfl fun w hH hpp => ?_
  generalize hW : blocks (ctB b A n c p sh) = W at *
  (conv => whnf); repeat ((first | refine RngK.mk (by omega) (by omega) ?_ | refine NzK.mk (by omega) ?_ | refine NnK.mk (by omega) ?_ | refine BdK.mk (by omega) (by omega) (by omega) ?_ | refine InsK.lit (by omega) (by omega) ?_ | refine SpK.lit ?_ | refine GrdK.same ?_ | refine GrdK.tf ?_ | refine GrdK.ft ?_ | refine PickK.t ?_ | refine PickK.f ?_); (conv => whnf))
  refine DrwK.ord (by kernel_rfl) [0, 1, 2, 3, 4, 5, 6, 7, 8, 9, 10, 11, 12] (by kernel_rfl) ?_; conv => whnf
  (conv => whnf); repeat ((first | refine RngK.mk (by omega) (by omega) ?_ | refine NzK.mk (by omega) ?_ | refine NnK.mk (by omega) ?_ | refine BdK.mk (by omega) (by omega) (by omega) ?_ | refine InsK.lit (by omega) (by omega) ?_ | refine SpK.lit ?_ | refine GrdK.same ?_ | refine GrdK.tf ?_ | refine GrdK.ft ?_ | refine PickK.t ?_ | refine PickK.f ?_); (conv => whnf))
  refine LdK.blk 0 rfl rfl rfl rfl ?_
  (conv => whnf); repeat ((first | refine RngK.mk (by omega) (by omega) ?_ | refine NzK.mk (by omega) ?_ | refine NnK.mk (by omega) ?_ | refine BdK.mk (by omega) (by omega) (by omega) ?_ | refine InsK.lit (by omega) (by omega) ?_ | refine SpK.lit ?_ | refine GrdK.same ?_ | refine GrdK.tf ?_ | refine GrdK.ft ?_ | refine PickK.t ?_ | refine PickK.f ?_); (conv => whnf))
  refine LdK.blk 0 rfl rfl rfl rfl ?_
  (conv => whnf); repeat ((first | refine RngK.mk (by omega) (by omega) ?_ | refine NzK.mk (by omega) ?_ | refine NnK.mk (by omega) ?_ | refine BdK.mk (by omega) (by omega) (by omega) ?_ | refine InsK.lit (by omega) (by omega) ?_ | refine SpK.lit ?_ | refine GrdK.same ?_ | refine GrdK.tf ?_ | refine GrdK.ft ?_ | refine PickK.t ?_ | refine PickK.f ?_); (conv => whnf))
  refine Wp.cond rfl (fun h => ?_) (fun h => ?_)
  · have h := dT h
    (conv => whnf); repeat ((first | refine RngK.mk (by omega) (by omega) ?_ | refine NzK.mk (by omega) ?_ | refine NnK.mk (by omega) ?_ | refine BdK.mk (by omega) (by omega) (by omega) ?_ | refine InsK.lit (by omega) (by omega) ?_ | refine SpK.lit ?_ | refine GrdK.same ?_ | refine GrdK.tf ?_ | refine GrdK.ft ?_ | refine PickK.t ?_ | refine PickK.f ?_); (conv => whnf))
    refine StK.blkE 0 [.slice A n c, vN p, vB true] rfl rfl rfl rfl (Nat.le_of_ble_eq_true rfl) rfl ?_
    (conv => whnf); repeat ((first | refine RngK.mk (by omega) (by omega) ?_ | refine NzK.mk (by omega) ?_ | refine NnK.mk (by omega) ?_ | refine BdK.mk (by omega) (by omega) (by omega) ?_ | refine InsK.lit (by omega) (by omega) ?_ | refine SpK.lit ?_ | refine GrdK.same ?_ | refine GrdK.tf ?_ | refine GrdK.ft ?_ | refine PickK.t ?_ | refine PickK.f ?_); (conv => whnf))
    exact ⟨_, HSub.refl _, .inl ⟨by omega, rfl, rfl⟩⟩
  · have h := dF h
    (conv => whnf); repeat ((first | refine RngK.mk (by omega) (by omega) ?_ | refine NzK.mk (by omega) ?_ | refine NnK.mk (by omega) ?_ | refine BdK.mk (by omega) (by omega) (by omega) ?_ | refine InsK.lit (by omega) (by omega) ?_ | refine SpK.lit ?_ | refine GrdK.same ?_ | refine GrdK.tf ?_ | refine GrdK.ft ?_ | refine PickK.t ?_ | refine PickK.f ?_); (conv => whnf))
    refine DrwK.ord (by kernel_rfl) [0, 1, 2, 3, 4, 5, 6, 7, 8, 9, 10] (by kernel_rfl) ?_; conv => whnf
    (conv => whnf); repeat ((first | refine RngK.mk (by omega) (by omega) ?_ | refine NzK.mk (by omega) ?_ | refine NnK.mk (by omega) ?_ | refine BdK.mk (by omega) (by omega) (by omega) ?_ | refine InsK.lit (by omega) (by omega) ?_ | refine SpK.lit ?_ | refine GrdK.same ?_ | refine GrdK.tf ?_ | refine GrdK.ft ?_ | refine PickK.t ?_ | refine PickK.f ?_); (conv => whnf))
    refine LdK.blk 0 rfl rfl rfl rfl ?_
    (conv => whnf); repeat ((first | refine RngK.mk (by omega) (by omega) ?_ | refine NzK.mk (by omega) ?_ | refine NnK.mk (by omega) ?_ | refine BdK.mk (by omega) (by omega) (by omega) ?_ | refine InsK.lit (by omega) (by omega) ?_ | refine SpK.lit ?_ | refine GrdK.same ?_ | refine GrdK.tf ?_ | refine GrdK.ft ?_ | refine PickK.t ?_ | refine PickK.f ?_); (conv => whnf))
    refine LdK.blk 0 rfl rfl rfl rfl ?_
    (conv => whnf); repeat ((first | refine RngK.mk (by omega) (by omega) ?_ | refine NzK.mk (by omega) ?_ | refine NnK.mk (by omega) ?_ | refine BdK.mk (by omega) (by omega) (by omega) ?_ | refine InsK.lit (by omega) (by omega) ?_ | refine SpK.lit ?_ | refine GrdK.same ?_ | refine GrdK.tf ?_ | refine GrdK.ft ?_ | refine PickK.t ?_ | refine PickK.f ?_); (conv => whnf))
    refine CallK.of [] (bitsAt_spec A n c bs p m (by omega) hm) rfl (fun w hw => ⟨hpp.pass hw, by omega⟩) ?_
    rintro _ _ ⟨rfl, rfl⟩
    (conv => whnf); repeat ((first | refine RngK.mk (by omega) (by omega) ?_ | refine NzK.mk (by omega) ?_ | refine NnK.mk (by omega) ?_ | refine BdK.mk (by omega) (by omega) (by omega) ?_ | refine InsK.lit (by omega) (by omega) ?_ | refine SpK.lit ?_ | refine GrdK.same ?_ | refine GrdK.tf ?_ | refine GrdK.ft ?_ | refine PickK.t ?_ | refine PickK.f ?_); (conv => whnf))
    refine KfK.of (LdK.blk 0 rfl rfl rfl rfl rfl) ?_
    (conv => whnf); repeat ((first | refine RngK.mk (by omega) (by omega) ?_ | refine NzK.mk (by omega) ?_ | refine NnK.mk (by omega) ?_ | refine BdK.mk (by omega) (by omega) (by omega) ?_ | refine InsK.lit (by omega) (by omega) ?_ | refine SpK.lit ?_ | refine GrdK.same ?_ | refine GrdK.tf ?_ | refine GrdK.ft ?_ | refine PickK.t ?_ | refine PickK.f ?_); (conv => whnf))
    refine KfK.of (LdK.blk 0 rfl rfl rfl rfl rfl) ?_
    (conv => whnf); repeat ((first | refine RngK.mk (by omega) (by omega) ?_ | refine NzK.mk (by omega) ?_ | refine NnK.mk (by omega) ?_ | refine BdK.mk (by omega) (by omega) (by omega) ?_ | refine InsK.lit (by omega) (by omega) ?_ | refine SpK.lit ?_ | refine GrdK.same ?_ | refine GrdK.tf ?_ | refine GrdK.ft ?_ | refine PickK.t ?_ | refine PickK.f ?_); (conv => whnf))
    refine LdK.blk 0 rfl rfl rfl rfl ?_
    (conv => whnf); repeat ((first | refine RngK.mk (by omega) (by omega) ?_ | refine NzK.mk (by omega) ?_ | refine NnK.mk (by omega) ?_ | refine BdK.mk (by omega) (by omega) (by omega) ?_ | refine InsK.lit (by omega) (by omega) ?_ | refine SpK.lit ?_ | refine GrdK.same ?_ | refine GrdK.tf ?_ | refine GrdK.ft ?_ | refine PickK.t ?_ | refine PickK.f ?_); (conv => whnf))
    refine StK.blkE 0 [.slice A n c, vN (p + m), vB sh] rfl rfl rfl rfl (Nat.le_of_ble_eq_true rfl) rfl ?_
    (conv => whnf); repeat ((first | refine RngK.mk (by omega) (by omega) ?_ | refine NzK.mk (by omega) ?_ | refine NnK.mk (by omega) ?_ | refine BdK.mk (by omega) (by omega) (by omega) ?_ | refine InsK.lit (by omega) (by omega) ?_ | refine SpK.lit ?_ | refine GrdK.same ?_ | refine GrdK.tf ?_ | refine GrdK.ft ?_ | refine PickK.t ?_ | refine PickK.f ?_); (conv => whnf))
    exact ⟨_, HSub.refl _, .inr ⟨by omega, rfl, rfl⟩⟩
def toldN (n p : Nat) (sh right : Bool) : Nat := if sh = true ∨ 8 * n < p + 32 then 2 else if right = true then 0 else 1
theorem told_spec (b : Nat) (A : Option Addr) (n c p : Nat) (sh right : Bool) (hn : n ≤ 16777216) (hp : p ≤ 8 * n) :
    FnS Tryd.prog 60 [.pointer (some ⟨b, 0, none⟩), vB right] (ctB b A n c p sh) (fun _ => True) (fun v H => v = vN (toldN n p sh right) ∧ H = ctB b A n c p sh) := by
  refine FnS.intro Tryd.func60 rfl (by kernel_rfl) rfl fun w hH _ => ?_
  unfold toldN
  (conv => whnf); repeat ((first | refine RngK.mk (by omega) (by omega) ?_ | refine NzK.mk (by omega) ?_ | refine NnK.mk (by omega) ?_ | refine BdK.mk (by omega) (by omega) (by omega) ?_ | refine InsK.lit (by omega) (by omega) ?_ | refine SpK.lit ?_ | refine GrdK.same ?_ | refine GrdK.tf ?_ | refine GrdK.ft ?_ | refine PickK.t ?_ | refine PickK.f ?_); (conv => whnf))
  refine DrwK.ord (by kernel_rfl) [0, 1, 2, 3, 4, 5, 6, 7, 8, 9, 10, 11, 12, 13, 14, 15, 16, 17, 18] (by kernel_rfl) ?_; conv => whnf
  (conv => whnf); repeat ((first | refine RngK.mk (by omega) (by omega) ?_ | refine NzK.mk (by omega) ?_ | refine NnK.mk (by omega) ?_ | refine BdK.mk (by omega) (by omega) (by omega) ?_ | refine InsK.lit (by omega) (by omega) ?_ | refine SpK.lit ?_ | refine GrdK.same ?_ | refine GrdK.tf ?_ | refine GrdK.ft ?_ | refine PickK.t ?_ | refine PickK.f ?_); (conv => whnf))
  refine LdK.blk 0 rfl rfl rfl rfl ?_
  (conv => whnf); repeat ((first | refine RngK.mk (by omega) (by omega) ?_ | refine NzK.mk (by omega) ?_ | refine NnK.mk (by omega) ?_ | refine BdK.mk (by omega) (by omega) (by omega) ?_ | refine InsK.lit (by omega) (by omega) ?_ | refine SpK.lit ?_ | refine GrdK.same ?_ | refine GrdK.tf ?_ | refine GrdK.ft ?_ | refine PickK.t ?_ | refine PickK.f ?_); (conv => whnf))
  cases sh with
  | true =>
    (conv => whnf); repeat ((first | refine RngK.mk (by omega) (by omega) ?_ | refine NzK.mk (by omega) ?_ | refine NnK.mk (by omega) ?_ | refine BdK.mk (by omega) (by omega) (by omega) ?_ | refine InsK.lit (by omega) (by omega) ?_ | refine SpK.lit ?_ | refine GrdK.same ?_ | refine GrdK.tf ?_ | refine GrdK.ft ?_ | refine PickK.t ?_ | refine PickK.f ?_); (conv => whnf))
    refine Wp.cond rfl (fun _ => ?_) (fun h => by cases h)
    (conv => whnf); repeat ((first | refine RngK.mk (by omega) (by omega) ?_ | refine NzK.mk (by omega) ?_ | refine NnK.mk (by omega) ?_ | refine BdK.mk (by omega) (by omega) (by omega) ?_ | refine InsK.lit (by omega) (by omega) ?_ | refine SpK.lit ?_ | refine GrdK.same ?_ | refine GrdK.tf ?_ | refine GrdK.ft ?_ | refine PickK.t ?_ | refine PickK.f ?_); (conv => whnf))
    exact ⟨by rw [if_pos (.inl rfl)]; rfl, rfl⟩
  | false =>
    (conv => whnf); repeat ((first | refine RngK.mk (by omega) (by omega) ?_ | refine NzK.mk (by omega) ?_ | refine NnK.mk (by omega) ?_ | refine BdK.mk (by omega) (by omega) (by omega) ?_ | refine InsK.lit (by omega) (by omega) ?_ | refine SpK.lit ?_ | refine GrdK.same ?_ | refine GrdK.tf ?_ | refine GrdK.ft ?_ | refine PickK.t ?_ | refine PickK.f ?_); (conv => whnf))
    refine LdK.blk 0 rfl rfl rfl rfl ?_
    (conv => whnf); repeat ((first | refine RngK.mk (by omega) (by omega) ?_ | refine NzK.mk (by omega) ?_ | refine NnK.mk (by omega) ?_ | refine BdK.mk (by omega) (by omega) (by omega) ?_ | refine InsK.lit (by omega) (by omega) ?_ | refine SpK.lit ?_ | refine GrdK.same ?_ | refine GrdK.tf ?_ | refine GrdK.ft ?_ | refine PickK.t ?_ | refine PickK.f ?_); (conv => whnf))
    refine LdK.blk 0 rfl rfl rfl rfl ?_
    (conv => whnf); repeat ((first | refine RngK.mk (by omega) (by omega) ?_ | refine NzK.mk (by omega) ?_ | refine NnK.mk (by omega) ?_ | refine BdK.mk (by omega) (by omega) (by omega) ?_ | refine InsK.lit (by omega) (by omega) ?_ | refine SpK.lit ?_ | refine GrdK.same ?_ | refine GrdK.tf ?_ | refine GrdK.ft ?_ | refine PickK.t ?_ | refine PickK.f ?_); (conv => whnf))
    refine Wp.cond rfl (fun h => ?_) (fun h => ?_)
    · have h := dT h
      (conv => whnf); repeat ((first | refine RngK.mk (by omega) (by omega) ?_ | refine NzK.mk (by omega) ?_ | refine NnK.mk (by omega) ?_ | refine BdK.mk (by omega) (by omega) (by omega) ?_ | refine InsK.lit (by omega) (by omega) ?_ | refine SpK.lit ?_ | refine GrdK.same ?_ | refine GrdK.tf ?_ | refine GrdK.ft ?_ | refine PickK.t ?_ | refine PickK.f ?_); (conv => whnf))
      exact ⟨by rw [if_pos (.inr (by omega))]; rfl, rfl⟩
    · have h := dF h
      rw [if_neg (by intro h'; rcases h' with h' | h'; (· cases h'); omega)]
      (conv => whnf); repeat ((first | refine RngK.mk (by omega) (by omega) ?_ | refine NzK.mk (by omega) ?_ | refine NnK.mk (by omega) ?_ | refine BdK.mk (by omega) (by omega) (by omega) ?_ | refine InsK.lit (by omega) (by omega) ?_ | refine SpK.lit ?_ | refine GrdK.same ?_ | refine GrdK.tf ?_ | refine GrdK.ft ?_ | refine PickK.t ?_ | refine PickK.f ?_); (conv => whnf))
      cases right with
      | true =>
        refine Wp.cond rfl (fun _ => ?_) (fun h => by cases h)
        (conv => whnf); repeat ((first | refine RngK.mk (by omega) (by omega) ?_ | refine NzK.mk (by omega) ?_ | refine NnK.mk (by omega) ?_ | refine BdK.mk (by omega) (by omega) (by omega) ?_ | refine InsK.lit (by omega) (by omega) ?_ | refine SpK.lit ?_ | refine GrdK.same ?_ | refine GrdK.tf ?_ | refine GrdK.ft ?_ | refine PickK.t ?_ | refine PickK.f ?_); (conv => whnf))
        exact ⟨rfl, rfl⟩
      | false =>
        refine Wp.cond rfl (fun h => by cases h) (fun _ => ?_)
        (conv => whnf); repeat ((first | refine RngK.mk (by omega) (by omega) ?_ | refine NzK.mk (by omega) ?_ | refine NnK.mk (by omega) ?_ | refine BdK.mk (by omega) (by omega) (by omega) ?_ | refine InsK.lit (by omega) (by omega) ?_ | refine SpK.lit ?_ | refine GrdK.same ?_ | refine GrdK.tf ?_ | refine GrdK.ft ?_ | refine PickK.t ?_ | refine PickK.f ?_); (conv => whnf))
        exact ⟨rfl, rfl⟩
theorem ccount_spec (b : Nat) (A : Option Addr) (n c : Nat) (bs : List UInt8) (p left : Nat) (sh : Bool) (hn : n ≤ 16777216) (hp : p ≤ 8 * n) (h0 : 0 < left) (hl : left ≤ 512) :
    FnS Tryd.prog 61 [.pointer (some ⟨b, 0, none⟩), vN left] (ctB b A n c p sh) (fun w => Bytes w (blocks (ctB b A n c p sh)) A n c bs)
      (fun v H => ∃ x pl sh', v = vI x ∧ H = ctB b A n c pl sh' ∧ pl ≤ 8 * n ∧ (p + (cntV (num bs) p left).2 ≤ 8 * n → x = intV (cntV (num bs) p left).1 ∧ pl = p + (cntV (num bs) p left).2 ∧ sh' = sh) ∧ (8 * n < p + (cntV (num bs) p left).2 → sh' = true)) := by
  refine FnS.intro Tryd.func61 rfl (by kernel_rfl) rfl fun w0 hH hpp => ?_
  generalize hW : blocks (ctB b A n c p sh) = W at *
  obtain ⟨cv1, cv2, cv3⟩ := cntV_le (num bs) p left
  obtain ⟨w1, w2, w3, w4⟩ := wd_around left
  have w10 : wd (left + 1) ≤ 10 := wd_lt (by omega)
  have hcv : cntV (num bs) p left = if bitsN (num bs) p (wd (left + 1) - 1) < 2 ^ wd (left + 1) - 2 - left then (bitsN (num bs) p (wd (left + 1) - 1), wd (left + 1) - 1)
    else (if 2 ^ (wd (left + 1) - 1) ≤ bitsN (num bs) p (wd (left + 1)) then bitsN (num bs) p (wd (left + 1)) - (2 ^ wd (left + 1) - 2 - left) else bitsN (num bs) p (wd (left + 1)), wd (left + 1)) := rfl
  obtain ⟨cv, hcve⟩ : ∃ cv, cntV (num bs) p left = cv := ⟨_, rfl⟩
  have hws := width_spec (left + 1) (by omega)
  rw [hcve] at cv1 cv2 cv3 hcv ⊢
  obtain ⟨w, hw⟩ : ∃ w, wd (left + 1) = w := ⟨_, rfl⟩
  rw [hw] at cv2 cv3 w1 w2 w3 w4 w10 hcv hws
  have hpw : 2 ^ (w - 1) ≤ 2 ^ 9 := Nat.pow_le_pow_right (by omega) (by omega)
  have ew1 : ((w : Nat) : Int) - 1 = ((w - 1 : Nat) : Int) := by omega
  have e1w : ishl .i64 1 ((w : Nat) : Int) = ((2 ^ w : Nat) : Int) := by
    have := ishl_i64 (x := 1) (n := w) (by omega) (by omega)
    rw [Nat.one_mul] at this
    exact this
  have e2w : ishl .i64 1 ((w - 1 : Nat) : Int) = ((2 ^ (w - 1) : Nat) : Int) := by
    have := ishl_i64 (x := 1) (n := w - 1) (by omega) (by omega)
    rw [Nat.one_mul] at this
    exact this
  have eleft : ((left : Nat) : Int) + 1 = ((left + 1 : Nat) : Int) := by omega
  (conv => whnf); repeat ((first | refine RngK.mk (by omega) (by omega) ?_ | refine NzK.mk (by omega) ?_ | refine NnK.mk (by omega) ?_ | refine BdK.mk (by omega) (by omega) (by omega) ?_ | refine InsK.lit (by omega) (by omega) ?_ | refine SpK.lit ?_ | refine GrdK.same ?_ | refine GrdK.tf ?_ | refine GrdK.ft ?_ | refine PickK.t ?_ | refine PickK.f ?_); (conv => whnf))
  rw [eleft]
  refine CallK.of0 hws ?_
  rintro _ _ ⟨rfl, rfl⟩
  (conv => whnf); repeat ((first | refine RngK.mk (by omega) (by omega) ?_ | refine NzK.mk (by omega) ?_ | refine NnK.mk (by omega) ?_ | refine BdK.mk (by omega) (by omega) (by omega) ?_ | refine InsK.lit (by omega) (by omega) ?_ | refine SpK.lit ?_ | refine GrdK.same ?_ | refine GrdK.tf ?_ | refine GrdK.ft ?_ | refine PickK.t ?_ | refine PickK.f ?_); (conv => whnf))
  rw [e1w]
  (conv => whnf); repeat ((first | refine RngK.mk (by omega) (by omega) ?_ | refine NzK.mk (by omega) ?_ | refine NnK.mk (by omega) ?_ | refine BdK.mk (by omega) (by omega) (by omega) ?_ | refine InsK.lit (by omega) (by omega) ?_ | refine SpK.lit ?_ | refine GrdK.same ?_ | refine GrdK.tf ?_ | refine GrdK.ft ?_ | refine PickK.t ?_ | refine PickK.f ?_); (conv => whnf))
  rw [ew1]
  refine CallK.of [0] (cbits_spec b A n c bs p (w - 1) sh hn hp (by omega)) rfl (fun w hw => hpp.pass hw) ?_
  rintro _ _ (⟨g1, rfl, rfl⟩ | ⟨g1, rfl, rfl⟩)
  · -- too short
    have hsh : 8 * n < p + cv.2 := by omega
    (conv => whnf); repeat ((first | refine RngK.mk (by omega) (by omega) ?_ | refine NzK.mk (by omega) ?_ | refine NnK.mk (by omega) ?_ | refine BdK.mk (by omega) (by omega) (by omega) ?_ | refine InsK.lit (by omega) (by omega) ?_ | refine SpK.lit ?_ | refine GrdK.same ?_ | refine GrdK.tf ?_ | refine GrdK.ft ?_ | refine PickK.t ?_ | refine PickK.f ?_); (conv => whnf))
    refine Wp.cond rfl (fun h => ?_) (fun h => ?_)
    · (conv => whnf); repeat ((first | refine RngK.mk (by omega) (by omega) ?_ | refine NzK.mk (by omega) ?_ | refine NnK.mk (by omega) ?_ | refine BdK.mk (by omega) (by omega) (by omega) ?_ | refine InsK.lit (by omega) (by omega) ?_ | refine SpK.lit ?_ | refine GrdK.same ?_ | refine GrdK.tf ?_ | refine GrdK.ft ?_ | refine PickK.t ?_ | refine PickK.f ?_); (conv => whnf))
      exact ⟨_, p, true, rfl, rfl, hp, fun h => absurd h (by omega), fun _ => rfl⟩
    · (conv => whnf); repeat ((first | refine RngK.mk (by omega) (by omega) ?_ | refine NzK.mk (by omega) ?_ | refine NnK.mk (by omega) ?_ | refine BdK.mk (by omega) (by omega) (by omega) ?_ | refine InsK.lit (by omega) (by omega) ?_ | refine SpK.lit ?_ | refine GrdK.same ?_ | refine GrdK.tf ?_ | refine GrdK.ft ?_ | refine PickK.t ?_ | refine PickK.f ?_); (conv => whnf))
      refine CallK.of [0] (cbits_spec b A n c bs p 1 true hn hp (by omega)) rfl (fun w hw => hpp.pass hw) ?_
      rintro _ _ (⟨g2, rfl, rfl⟩ | ⟨g2, rfl, rfl⟩)
      · have eshl : ishl .i64 ((0 : Nat) : Int) ((w - 1 : Nat) : Int) = ((0 * 2 ^ (w - 1) : Nat) : Int) := ishl_i64 (by omega) (by have := Nat.mul_le_mul_right (2 ^ (w - 1)) (Nat.zero_le 1); omega)
        have hmul : 0 * 2 ^ (w - 1) ≤ 1 * 2 ^ (w - 1) := Nat.mul_le_mul_right _ (Nat.zero_le 1)
        have eor : ior .i64 ((0 : Nat) : Int) ((0 * 2 ^ (w - 1) : Nat) : Int) = ((0 + 0 * 2 ^ (w - 1) : Nat) : Int) := by rw [ior_i64 (by omega) (by omega), or_add (Nat.two_pow_pos (w - 1))]
        (conv => whnf); repeat ((first | refine RngK.mk (by omega) (by omega) ?_ | refine NzK.mk (by omega) ?_ | refine NnK.mk (by omega) ?_ | refine BdK.mk (by omega) (by omega) (by omega) ?_ | refine InsK.lit (by omega) (by omega) ?_ | refine SpK.lit ?_ | refine GrdK.same ?_ | refine GrdK.tf ?_ | refine GrdK.ft ?_ | refine PickK.t ?_ | refine PickK.f ?_); (conv => whnf))
        rw [ew1]
        (conv => whnf); repeat ((first | refine RngK.mk (by omega) (by omega) ?_ | refine NzK.mk (by omega) ?_ | refine NnK.mk (by omega) ?_ | refine BdK.mk (by omega) (by omega) (by omega) ?_ | refine InsK.lit (by omega) (by omega) ?_ | refine SpK.lit ?_ | refine GrdK.same ?_ | refine GrdK.tf ?_ | refine GrdK.ft ?_ | refine PickK.t ?_ | refine PickK.f ?_); (conv => whnf))
        rw [eshl, eor]
        (conv => whnf); repeat ((first | refine RngK.mk (by omega) (by omega) ?_ | refine NzK.mk (by omega) ?_ | refine NnK.mk (by omega) ?_ | refine BdK.mk (by omega) (by omega) (by omega) ?_ | refine InsK.lit (by omega) (by omega) ?_ | refine SpK.lit ?_ | refine GrdK.same ?_ | refine GrdK.tf ?_ | refine GrdK.ft ?_ | refine PickK.t ?_ | refine PickK.f ?_); (conv => whnf))
        rw [e2w]
        obtain ⟨y, hy⟩ : ∃ y, 0 + 0 * 2 ^ (w - 1) = y := ⟨_, rfl⟩
        rw [hy]
        refine Wp.cond rfl (fun h2 => ?_) (fun h2 => ?_)
        · have h2 : ((y : Nat) : Int) ≥ ((2 ^ (w - 1) : Nat) : Int) := dT h2
          (conv => whnf); repeat ((first | refine RngK.mk (by omega) (by omega) ?_ | refine NzK.mk (by omega) ?_ | refine NnK.mk (by omega) ?_ | refine BdK.mk (by omega) (by omega) (by omega) ?_ | refine InsK.lit (by omega) (by omega) ?_ | refine SpK.lit ?_ | refine GrdK.same ?_ | refine GrdK.tf ?_ | refine GrdK.ft ?_ | refine PickK.t ?_ | refine PickK.f ?_); (conv => whnf))
          refine ⟨_, _, _, rfl, rfl, by omega, ?_, ?_⟩
          · exact fun h => absurd h (by omega)
          · exact fun _ => rfl
        · have h2 : ¬ ((y : Nat) : Int) ≥ ((2 ^ (w - 1) : Nat) : Int) := dF h2
          (conv => whnf); repeat ((first | refine RngK.mk (by omega) (by omega) ?_ | refine NzK.mk (by omega) ?_ | refine NnK.mk (by omega) ?_ | refine BdK.mk (by omega) (by omega) (by omega) ?_ | refine InsK.lit (by omega) (by omega) ?_ | refine SpK.lit ?_ | refine GrdK.same ?_ | refine GrdK.tf ?_ | refine GrdK.ft ?_ | refine PickK.t ?_ | refine PickK.f ?_); (conv => whnf))
          refine ⟨_, _, _, rfl, rfl, by omega, ?_, ?_⟩
          · exact fun h => absurd h (by omega)
          · exact fun _ => rfl
      · have hb1 := bitsN_lt (num bs) p 1
        obtain ⟨b1, hb1e⟩ : ∃ b1, bitsN (num bs) p 1 = b1 := ⟨_, rfl⟩
        rw [hb1e] at hb1 ⊢
        have eshl : ishl .i64 ((b1 : Nat) : Int) ((w - 1 : Nat) : Int) = ((b1 * 2 ^ (w - 1) : Nat) : Int) := ishl_i64 (by omega) (by have := Nat.mul_le_mul_right (2 ^ (w - 1)) (show b1 ≤ 1 by omega); omega)
        have hmul : b1 * 2 ^ (w - 1) ≤ 1 * 2 ^ (w - 1) := Nat.mul_le_mul_right _ (show b1 ≤ 1 by omega)
        have eor : ior .i64 ((0 : Nat) : Int) ((b1 * 2 ^ (w - 1) : Nat) : Int) = ((0 + b1 * 2 ^ (w - 1) : Nat) : Int) := by rw [ior_i64 (by omega) (by omega), or_add (Nat.two_pow_pos (w - 1))]
        (conv => whnf); repeat ((first | refine RngK.mk (by omega) (by omega) ?_ | refine NzK.mk (by omega) ?_ | refine NnK.mk (by omega) ?_ | refine BdK.mk (by omega) (by omega) (by omega) ?_ | refine InsK.lit (by omega) (by omega) ?_ | refine SpK.lit ?_ | refine GrdK.same ?_ | refine GrdK.tf ?_ | refine GrdK.ft ?_ | refine PickK.t ?_ | refine PickK.f ?_); (conv => whnf))
        rw [ew1]
        (conv => whnf); repeat ((first | refine RngK.mk (by omega) (by omega) ?_ | refine NzK.mk (by omega) ?_ | refine NnK.mk (by omega) ?_ | refine BdK.mk (by omega) (by omega) (by omega) ?_ | refine InsK.lit (by omega) (by omega) ?_ | refine SpK.lit ?_ | refine GrdK.same ?_ | refine GrdK.tf ?_ | refine GrdK.ft ?_ | refine PickK.t ?_ | refine PickK.f ?_); (conv => whnf))
        rw [eshl, eor]
        (conv => whnf); repeat ((first | refine RngK.mk (by omega) (by omega) ?_ | refine NzK.mk (by omega) ?_ | refine NnK.mk (by omega) ?_ | refine BdK.mk (by omega) (by omega) (by omega) ?_ | refine InsK.lit (by omega) (by omega) ?_ | refine SpK.lit ?_ | refine GrdK.same ?_ | refine GrdK.tf ?_ | refine GrdK.ft ?_ | refine PickK.t ?_ | refine PickK.f ?_); (conv => whnf))
        rw [e2w]
        obtain ⟨y, hy⟩ : ∃ y, 0 + b1 * 2 ^ (w - 1) = y := ⟨_, rfl⟩
        rw [hy]
        refine Wp.cond rfl (fun h2 => ?_) (fun h2 => ?_)
        · have h2 : ((y : Nat) : Int) ≥ ((2 ^ (w - 1) : Nat) : Int) := dT h2
          (conv => whnf); repeat ((first | refine RngK.mk (by omega) (by omega) ?_ | refine NzK.mk (by omega) ?_ | refine NnK.mk (by omega) ?_ | refine BdK.mk (by omega) (by omega) (by omega) ?_ | refine InsK.lit (by omega) (by omega) ?_ | refine SpK.lit ?_ | refine GrdK.same ?_ | refine GrdK.tf ?_ | refine GrdK.ft ?_ | refine PickK.t ?_ | refine PickK.f ?_); (conv => whnf))
          refine ⟨_, _, _, rfl, rfl, by omega, ?_, ?_⟩
          · exact fun h => absurd h (by omega)
          · exact fun _ => rfl
        · have h2 : ¬ ((y : Nat) : Int) ≥ ((2 ^ (w - 1) : Nat) : Int) := dF h2
          (conv => whnf); repeat ((first | refine RngK.mk (by omega) (by omega) ?_ | refine NzK.mk (by omega) ?_ | refine NnK.mk (by omega) ?_ | refine BdK.mk (by omega) (by omega) (by omega) ?_ | refine InsK.lit (by omega) (by omega) ?_ | refine SpK.lit ?_ | refine GrdK.same ?_ | refine GrdK.tf ?_ | refine GrdK.ft ?_ | refine PickK.t ?_ | refine PickK.f ?_); (conv => whnf))
          refine ⟨_, _, _, rfl, rfl, by omega, ?_, ?_⟩
          · exact fun h => absurd h (by omega)
          · exact fun _ => rfl
  · have bl1 := bitsN_lt (num bs) p (w - 1)
    have hspl : bitsN (num bs) p w = bitsN (num bs) p (w - 1) + bitsN (num bs) (p + (w - 1)) 1 * 2 ^ (w - 1) := by
      have := bitsN_split (num bs) p (w - 1) 1
      rw [show w - 1 + 1 = w by omega] at this
      exact this
    obtain ⟨v0, hv0⟩ : ∃ v0, bitsN (num bs) p (w - 1) = v0 := ⟨_, rfl⟩
    rw [hv0] at bl1 hspl hcv ⊢
    (conv => whnf); repeat ((first | refine RngK.mk (by omega) (by omega) ?_ | refine NzK.mk (by omega) ?_ | refine NnK.mk (by omega) ?_ | refine BdK.mk (by omega) (by omega) (by omega) ?_ | refine InsK.lit (by omega) (by omega) ?_ | refine SpK.lit ?_ | refine GrdK.same ?_ | refine GrdK.tf ?_ | refine GrdK.ft ?_ | refine PickK.t ?_ | refine PickK.f ?_); (conv => whnf))
    refine Wp.cond rfl (fun h => ?_) (fun h => ?_)
    · have h : ((v0 : Nat) : Int) < ((2 ^ w : Nat) : Int) - 2 - ((left : Nat) : Int) := dT h
      rw [if_pos (by omega)] at hcv
      subst hcv
      (conv => whnf); repeat ((first | refine RngK.mk (by omega) (by omega) ?_ | refine NzK.mk (by omega) ?_ | refine NnK.mk (by omega) ?_ | refine BdK.mk (by omega) (by omega) (by omega) ?_ | refine InsK.lit (by omega) (by omega) ?_ | refine SpK.lit ?_ | refine GrdK.same ?_ | refine GrdK.tf ?_ | refine GrdK.ft ?_ | refine PickK.t ?_ | refine PickK.f ?_); (conv => whnf))
      exact ⟨_, _, sh, rfl, rfl, g1, fun _ => ⟨rfl, rfl, rfl⟩, fun h => absurd h (by simp only; omega)⟩
    · have h : ¬ ((v0 : Nat) : Int) < ((2 ^ w : Nat) : Int) - 2 - ((left : Nat) : Int) := dF h
      rw [if_neg (by omega)] at hcv
      have hc2 : cv.2 = w := by rw [hcv]
      (conv => whnf); repeat ((first | refine RngK.mk (by omega) (by omega) ?_ | refine NzK.mk (by omega) ?_ | refine NnK.mk (by omega) ?_ | refine BdK.mk (by omega) (by omega) (by omega) ?_ | refine InsK.lit (by omega) (by omega) ?_ | refine SpK.lit ?_ | refine GrdK.same ?_ | refine GrdK.tf ?_ | refine GrdK.ft ?_ | refine PickK.t ?_ | refine PickK.f ?_); (conv => whnf))
      refine CallK.of [0] (cbits_spec b A n c bs (p + (w - 1)) 1 sh hn g1 (by omega)) rfl (fun w hw => hpp.pass hw) ?_
      rintro _ _ (⟨g2, rfl, rfl⟩ | ⟨g2, rfl, rfl⟩)
      · have eshl : ishl .i64 ((0 : Nat) : Int) ((w - 1 : Nat) : Int) = ((0 * 2 ^ (w - 1) : Nat) : Int) := ishl_i64 (by omega) (by have := Nat.mul_le_mul_right (2 ^ (w - 1)) (Nat.zero_le 1); omega)
        have hmul : 0 * 2 ^ (w - 1) ≤ 1 * 2 ^ (w - 1) := Nat.mul_le_mul_right _ (Nat.zero_le 1)
        have eor : ior .i64 ((v0 : Nat) : Int) ((0 * 2 ^ (w - 1) : Nat) : Int) = ((v0 + 0 * 2 ^ (w - 1) : Nat) : Int) := by rw [ior_i64 (by omega) (by omega), or_add bl1]
        (conv => whnf); repeat ((first | refine RngK.mk (by omega) (by omega) ?_ | refine NzK.mk (by omega) ?_ | refine NnK.mk (by omega) ?_ | refine BdK.mk (by omega) (by omega) (by omega) ?_ | refine InsK.lit (by omega) (by omega) ?_ | refine SpK.lit ?_ | refine GrdK.same ?_ | refine GrdK.tf ?_ | refine GrdK.ft ?_ | refine PickK.t ?_ | refine PickK.f ?_); (conv => whnf))
        rw [ew1]
        (conv => whnf); repeat ((first | refine RngK.mk (by omega) (by omega) ?_ | refine NzK.mk (by omega) ?_ | refine NnK.mk (by omega) ?_ | refine BdK.mk (by omega) (by omega) (by omega) ?_ | refine InsK.lit (by omega) (by omega) ?_ | refine SpK.lit ?_ | refine GrdK.same ?_ | refine GrdK.tf ?_ | refine GrdK.ft ?_ | refine PickK.t ?_ | refine PickK.f ?_); (conv => whnf))
        rw [eshl, eor]
        (conv => whnf); repeat ((first | refine RngK.mk (by omega) (by omega) ?_ | refine NzK.mk (by omega) ?_ | refine NnK.mk (by omega) ?_ | refine BdK.mk (by omega) (by omega) (by omega) ?_ | refine InsK.lit (by omega) (by omega) ?_ | refine SpK.lit ?_ | refine GrdK.same ?_ | refine GrdK.tf ?_ | refine GrdK.ft ?_ | refine PickK.t ?_ | refine PickK.f ?_); (conv => whnf))
        rw [e2w]
        obtain ⟨y, hy⟩ : ∃ y, v0 + 0 * 2 ^ (w - 1) = y := ⟨_, rfl⟩
        rw [hy]
        refine Wp.cond rfl (fun h2 => ?_) (fun h2 => ?_)
        · have h2 : ((y : Nat) : Int) ≥ ((2 ^ (w - 1) : Nat) : Int) := dT h2
          (conv => whnf); repeat ((first | refine RngK.mk (by omega) (by omega) ?_ | refine NzK.mk (by omega) ?_ | refine NnK.mk (by omega) ?_ | refine BdK.mk (by omega) (by omega) (by omega) ?_ | refine InsK.lit (by omega) (by omega) ?_ | refine SpK.lit ?_ | refine GrdK.same ?_ | refine GrdK.tf ?_ | refine GrdK.ft ?_ | refine PickK.t ?_ | refine PickK.f ?_); (conv => whnf))
          refine ⟨_, _, _, rfl, rfl, by omega, ?_, ?_⟩
          · exact fun h => absurd h (by omega)
          · exact fun _ => rfl
        · have h2 : ¬ ((y : Nat) : Int) ≥ ((2 ^ (w - 1) : Nat) : Int) := dF h2
          (conv => whnf); repeat ((first | refine RngK.mk (by omega) (by omega) ?_ | refine NzK.mk (by omega) ?_ | refine NnK.mk (by omega) ?_ | refine BdK.mk (by omega) (by omega) (by omega) ?_ | refine InsK.lit (by omega) (by omega) ?_ | refine SpK.lit ?_ | refine GrdK.same ?_ | refine GrdK.tf ?_ | refine GrdK.ft ?_ | refine PickK.t ?_ | refine PickK.f ?_); (conv => whnf))
          refine ⟨_, _, _, rfl, rfl, by omega, ?_, ?_⟩
          · exact fun h => absurd h (by omega)
          · exact fun _ => rfl
      · have hb1 := bitsN_lt (num bs) (p + (w - 1)) 1
        obtain ⟨b1, hb1e⟩ : ∃ b1, bitsN (num bs) (p + (w - 1)) 1 = b1 := ⟨_, rfl⟩
        rw [hb1e] at hb1 hspl ⊢
        rw [hspl] at hcv
        have eshl : ishl .i64 ((b1 : Nat) : Int) ((w - 1 : Nat) : Int) = ((b1 * 2 ^ (w - 1) : Nat) : Int) := ishl_i64 (by omega) (by have := Nat.mul_le_mul_right (2 ^ (w - 1)) (show b1 ≤ 1 by omega); omega)
        have hmul : b1 * 2 ^ (w - 1) ≤ 1 * 2 ^ (w - 1) := Nat.mul_le_mul_right _ (show b1 ≤ 1 by omega)
        have eor : ior .i64 ((v0 : Nat) : Int) ((b1 * 2 ^ (w - 1) : Nat) : Int) = ((v0 + b1 * 2 ^ (w - 1) : Nat) : Int) := by rw [ior_i64 (by omega) (by omega), or_add bl1]
        (conv => whnf); repeat ((first | refine RngK.mk (by omega) (by omega) ?_ | refine NzK.mk (by omega) ?_ | refine NnK.mk (by omega) ?_ | refine BdK.mk (by omega) (by omega) (by omega) ?_ | refine InsK.lit (by omega) (by omega) ?_ | refine SpK.lit ?_ | refine GrdK.same ?_ | refine GrdK.tf ?_ | refine GrdK.ft ?_ | refine PickK.t ?_ | refine PickK.f ?_); (conv => whnf))
        rw [ew1]
        (conv => whnf); repeat ((first | refine RngK.mk (by omega) (by omega) ?_ | refine NzK.mk (by omega) ?_ | refine NnK.mk (by omega) ?_ | refine BdK.mk (by omega) (by omega) (by omega) ?_ | refine InsK.lit (by omega) (by omega) ?_ | refine SpK.lit ?_ | refine GrdK.same ?_ | refine GrdK.tf ?_ | refine GrdK.ft ?_ | refine PickK.t ?_ | refine PickK.f ?_); (conv => whnf))
        rw [eshl, eor]
        (conv => whnf); repeat ((first | refine RngK.mk (by omega) (by omega) ?_ | refine NzK.mk (by omega) ?_ | refine NnK.mk (by omega) ?_ | refine BdK.mk (by omega) (by omega) (by omega) ?_ | refine InsK.lit (by omega) (by omega) ?_ | refine SpK.lit ?_ | refine GrdK.same ?_ | refine GrdK.tf ?_ | refine GrdK.ft ?_ | refine PickK.t ?_ | refine PickK.f ?_); (conv => whnf))
        rw [e2w]
        obtain ⟨y, hy⟩ : ∃ y, v0 + b1 * 2 ^ (w - 1) = y := ⟨_, rfl⟩
        rw [hy]
        refine Wp.cond rfl (fun h2 => ?_) (fun h2 => ?_)
        · have h2 : ((y : Nat) : Int) ≥ ((2 ^ (w - 1) : Nat) : Int) := dT h2
          (conv => whnf); repeat ((first | refine RngK.mk (by omega) (by omega) ?_ | refine NzK.mk (by omega) ?_ | refine NnK.mk (by omega) ?_ | refine BdK.mk (by omega) (by omega) (by omega) ?_ | refine InsK.lit (by omega) (by omega) ?_ | refine SpK.lit ?_ | refine GrdK.same ?_ | refine GrdK.tf ?_ | refine GrdK.ft ?_ | refine PickK.t ?_ | refine PickK.f ?_); (conv => whnf))
          refine ⟨_, _, _, rfl, rfl, by omega, ?_, ?_⟩
          · exact fun _ => ⟨by rw [hcv, hy]; unfold intV; dsimp only; split <;> omega, by omega, rfl⟩
          · exact fun h => absurd h (by omega)
        · have h2 : ¬ ((y : Nat) : Int) ≥ ((2 ^ (w - 1) : Nat) : Int) := dF h2
          (conv => whnf); repeat ((first | refine RngK.mk (by omega) (by omega) ?_ | refine NzK.mk (by omega) ?_ | refine NnK.mk (by omega) ?_ | refine BdK.mk (by omega) (by omega) (by omega) ?_ | refine InsK.lit (by omega) (by omega) ?_ | refine SpK.lit ?_ | refine GrdK.same ?_ | refine GrdK.tf ?_ | refine GrdK.ft ?_ | refine PickK.t ?_ | refine PickK.f ?_); (conv => whnf))
          refine ⟨_, _, _, rfl, rfl, by omega, ?_, ?_⟩
          · exact fun _ => ⟨by rw [hcv, hy]; unfold intV; dsimp only; split <;> omega, by omega, rfl⟩
          · exact fun h => absurd h (by omega)
end Go.Proofs.YtgdhdkjbilifiaaDoor
