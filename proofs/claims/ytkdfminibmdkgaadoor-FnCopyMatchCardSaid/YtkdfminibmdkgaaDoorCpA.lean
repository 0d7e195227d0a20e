/- Bytes copied out of the buffer and the window of a reader. -/
import Derived.Test.YtkdfminibmdkgaaDoorWb2
import Derived.Test.YtkdfminibmdkgaaDoorCpM
import Derived.Test.YtkdfminibmdkgaaDoorErr1
namespace Go.Proofs.YtkdfminibmdkgaaDoor
open Go Go.Sx
set_option maxRecDepth 100000
abbrev rbC (r : Nat) : List Value := [.pointer (some ⟨r, 0, none⟩), .slice none 0 0, .int .u32 0, .int .u32 0, .int .u32 0, .int .u32 0]
theorem rbErr_spec (q r : Nat) (s : ByteArray) (e : Addr) : FnS Tryd.prog 16 [.pointer (some ⟨q, 0, none⟩), .string s] [.blk q 62 (rbC r)]
    (fun w => LaidE w (blocks [.blk q 62 (rbC r)]) e ∧ Rd w (blocks [.blk q 62 (rbC r)]) (some ⟨r, 6, none⟩) 1 1 [.int .i64 0])
    (fun v H => (∃ T x, v = .iface T x) ∧ H = []) := by
  refine FnS.introD Tryd.func16 rfl (by kernel_rfl) rfl fun w hH ⟨hL, hR⟩ => ?_
  generalize hW : blocks [.blk q 62 (rbC r)] = W at *
  (conv => whnf); repeat ((first | refine RngK.mk (by omega) (by omega) ?_ | refine NzK.mk (by omega) ?_ | refine NnK.mk (by omega) ?_ | refine BdK.mk (by omega) (by omega) (by omega) ?_ | refine InsK.lit (by omega) (by omega) ?_ | refine SpK.lit ?_ | refine GrdK.same ?_ | refine GrdK.tf ?_ | refine GrdK.ft ?_ | refine PickK.t ?_ | refine PickK.f ?_); (conv => whnf))
  refine DrwK.ord (by kernel_rfl) [0, 1, 2, 3, 4, 5, 6, 7, 8, 9, 10, 11] (by kernel_rfl) ?_; conv => whnf
  (conv => whnf); repeat ((first | refine RngK.mk (by omega) (by omega) ?_ | refine NzK.mk (by omega) ?_ | refine NnK.mk (by omega) ?_ | refine BdK.mk (by omega) (by omega) (by omega) ?_ | refine InsK.lit (by omega) (by omega) ?_ | refine SpK.lit ?_ | refine GrdK.same ?_ | refine GrdK.tf ?_ | refine GrdK.ft ?_ | refine PickK.t ?_ | refine PickK.f ?_); (conv => whnf))
  refine LdK.blk 0 rfl rfl rfl rfl ?_
  (conv => whnf); repeat ((first | refine RngK.mk (by omega) (by omega) ?_ | refine NzK.mk (by omega) ?_ | refine NnK.mk (by omega) ?_ | refine BdK.mk (by omega) (by omega) (by omega) ?_ | refine InsK.lit (by omega) (by omega) ?_ | refine SpK.lit ?_ | refine GrdK.same ?_ | refine GrdK.tf ?_ | refine GrdK.ft ?_ | refine PickK.t ?_ | refine PickK.f ?_); (conv => whnf))
  refine LdK.blk 0 rfl rfl rfl rfl ?_
  (conv => whnf); repeat ((first | refine RngK.mk (by omega) (by omega) ?_ | refine NzK.mk (by omega) ?_ | refine NnK.mk (by omega) ?_ | refine BdK.mk (by omega) (by omega) (by omega) ?_ | refine InsK.lit (by omega) (by omega) ?_ | refine SpK.lit ?_ | refine GrdK.same ?_ | refine GrdK.tf ?_ | refine GrdK.ft ?_ | refine PickK.t ?_ | refine PickK.f ?_); (conv => whnf))
  refine CallK.of [] (err_spec r 0 s e (by omega) (by omega)) rfl (fun w hw => ⟨hL.pass hw, hR.pass hw⟩) ?_
  rintro _ _ ⟨⟨T, x, rfl⟩, rfl⟩
  (conv => whnf); repeat ((first | refine RngK.mk (by omega) (by omega) ?_ | refine NzK.mk (by omega) ?_ | refine NnK.mk (by omega) ?_ | refine BdK.mk (by omega) (by omega) (by omega) ?_ | refine InsK.lit (by omega) (by omega) ?_ | refine SpK.lit ?_ | refine GrdK.same ?_ | refine GrdK.tf ?_ | refine GrdK.ft ?_ | refine PickK.t ?_ | refine PickK.f ?_); (conv => whnf))
  refine KfK.of (LdK.blk 0 rfl rfl rfl rfl rfl) ?_
  (conv => whnf); repeat ((first | refine RngK.mk (by omega) (by omega) ?_ | refine NzK.mk (by omega) ?_ | refine NnK.mk (by omega) ?_ | refine BdK.mk (by omega) (by omega) (by omega) ?_ | refine InsK.lit (by omega) (by omega) ?_ | refine SpK.lit ?_ | refine GrdK.same ?_ | refine GrdK.tf ?_ | refine GrdK.ft ?_ | refine PickK.t ?_ | refine PickK.f ?_); (conv => whnf))
  refine KfK.of (LdK.blk 0 rfl rfl rfl rfl rfl) ?_
  (conv => whnf); repeat ((first | refine RngK.mk (by omega) (by omega) ?_ | refine NzK.mk (by omega) ?_ | refine NnK.mk (by omega) ?_ | refine BdK.mk (by omega) (by omega) (by omega) ?_ | refine InsK.lit (by omega) (by omega) ?_ | refine SpK.lit ?_ | refine GrdK.same ?_ | refine GrdK.tf ?_ | refine GrdK.ft ?_ | refine PickK.t ?_ | refine PickK.f ?_); (conv => whnf))
  exact ⟨[], HSub.nil _, ⟨_, _, rfl⟩, rfl⟩
abbrev cpH (q r s : Nat) (D : Option Addr) (dc : Nat) (data : List UInt8) (off : Nat) (B : Option Addr) (bc : Nat) (bs : List UInt8) : Hp :=
  [.blk q 62 (rbC r), .blk r 55 (rC (.slice B bs.length bc) s (.slice D data.length dc) off), .own D data.length dc 5 1 (data.map vU8), .own B bs.length bc 5 1 (bs.map vU8)]
set_option maxHeartbeats 4000000 in
theorem copyW_spec (q r s : Nat) (D : Option Addr) (dc : Nat) (data : List UInt8) (off : Nat) (B : Option Addr) (bc : Nat) (bs : List UInt8) (o m : Nat) (e : Addr) (hd : data.length ≤ 1000000) (hon : off ≤ data.length) (hb : bs.length ≤ 1000000) (hm : m ≤ 100000) (ho : o ≤ 2147483647) :
    FnS Tryd.prog 14 [.pointer (some ⟨r, 0, none⟩), .pointer (some ⟨q, 0, none⟩), .int .u32 o, .int .u32 m] (cpH q r s D dc data off B bc bs)
      (fun w => LaidE w (blocks (cpH q r s D dc data off B bc bs)) e)
      (fun v H => ∃ B' bc' out, H = [.blk r 55 (rC (.slice B' out.length bc') s (.slice D data.length dc) off), .own B' out.length bc' 5 1 (out.map vU8)] ∧
        (((o = 0 ∨ (rot data off ++ bs).length < o) ∧ (∃ T x, v = .iface T x) ∧ out = bs) ∨ (1 ≤ o ∧ o ≤ (rot data off ++ bs).length ∧ v = .nilIface ∧ out = bs ++ per (rot data off ++ bs) o m))) := by
  refine FnS.introD Tryd.func14 rfl (by kernel_rfl) rfl fun w hH hL => ?_
  generalize hW : blocks (cpH q r s D dc data off B bc bs) = W at *
  have hrl : (rot data off).length = data.length := rot_len data hon
  have hal : (rot data off ++ bs).length = data.length + bs.length := by rw [List.length_append, hrl]
  (conv => whnf); repeat ((first | refine RngK.mk (by omega) (by omega) ?_ | refine NzK.mk (by omega) ?_ | refine NnK.mk (by omega) ?_ | refine BdK.mk (by omega) (by omega) (by omega) ?_ | refine InsK.lit (by omega) (by omega) ?_ | refine SpK.lit ?_ | refine GrdK.same ?_ | refine GrdK.tf ?_ | refine GrdK.ft ?_ | refine PickK.t ?_ | refine PickK.f ?_); (conv => whnf))
  refine Wp.cond rfl (fun h => ?_) (fun h => ?_)
  · have h : ((o : Nat) : Int) = 0 := eqT h
    (conv => whnf); repeat ((first | refine RngK.mk (by omega) (by omega) ?_ | refine NzK.mk (by omega) ?_ | refine NnK.mk (by omega) ?_ | refine BdK.mk (by omega) (by omega) (by omega) ?_ | refine InsK.lit (by omega) (by omega) ?_ | refine SpK.lit ?_ | refine GrdK.same ?_ | refine GrdK.tf ?_ | refine GrdK.ft ?_ | refine PickK.t ?_ | refine PickK.f ?_); (conv => whnf))
    refine CallK.of [0] (rbErr_spec q r _ e) rfl (fun w hw => ⟨hL.pass hw, ?_⟩) ?_
    · exact Rd.ofBlk (o := 6) (m := 1) (sz := 1) hw 0 rfl (Nat.le_of_ble_eq_true rfl)
    rintro _ _ ⟨⟨T, x, rfl⟩, rfl⟩
    (conv => whnf); repeat ((first | refine RngK.mk (by omega) (by omega) ?_ | refine NzK.mk (by omega) ?_ | refine NnK.mk (by omega) ?_ | refine BdK.mk (by omega) (by omega) (by omega) ?_ | refine InsK.lit (by omega) (by omega) ?_ | refine SpK.lit ?_ | refine GrdK.same ?_ | refine GrdK.tf ?_ | refine GrdK.ft ?_ | refine PickK.t ?_ | refine PickK.f ?_); (conv => whnf))
    exact ⟨_, HSub.of [0, 1] rfl, B, bc, bs, rfl, .inl ⟨.inl (by omega), ⟨_, _, rfl⟩, rfl⟩⟩
  have h0 : ((o : Nat) : Int) ≠ 0 := eqF h
  clear h
  have ewb : IntKind.u32.wrap ((bs.length : Nat) : Int) = ((bs.length : Nat) : Int) := IntWalk.u32_in _ (by omega)
  (conv => whnf); repeat ((first | refine RngK.mk (by omega) (by omega) ?_ | refine NzK.mk (by omega) ?_ | refine NnK.mk (by omega) ?_ | refine BdK.mk (by omega) (by omega) (by omega) ?_ | refine InsK.lit (by omega) (by omega) ?_ | refine SpK.lit ?_ | refine GrdK.same ?_ | refine GrdK.tf ?_ | refine GrdK.ft ?_ | refine PickK.t ?_ | refine PickK.f ?_); (conv => whnf))
  refine LdK.blk 1 rfl rfl rfl rfl ?_
  (conv => whnf); repeat ((first | refine RngK.mk (by omega) (by omega) ?_ | refine NzK.mk (by omega) ?_ | refine NnK.mk (by omega) ?_ | refine BdK.mk (by omega) (by omega) (by omega) ?_ | refine InsK.lit (by omega) (by omega) ?_ | refine SpK.lit ?_ | refine GrdK.same ?_ | refine GrdK.tf ?_ | refine GrdK.ft ?_ | refine PickK.t ?_ | refine PickK.f ?_); (conv => whnf))
  rw [ewb]
  refine Wp.cut (fun t : Nat × Nat × Nat × Option Addr × Nat => [(0, .pointer (some ⟨r, 0, none⟩)), (3, .int .u32 (m - t.1 : Nat)), (9, .int .u32 t.2.1)])
    (fun t => [.blk r 55 (rC (.slice t.2.2.2.1 (bs.length + t.1) t.2.2.2.2) s (.slice D data.length dc) off), .own t.2.2.2.1 (bs.length + t.1) t.2.2.2.2 5 1 ((bs ++ per (rot data off ++ bs) o t.1).map vU8)])
    (fun t => t.1 ≤ m ∧ o ≤ (rot data off ++ bs).length ∧ data.length + t.2.1 = (rot data off ++ bs).length - o + t.2.2.1 ∧ t.2.1 ≤ bs.length ∧ (t.1 < m → t.1 % o = t.2.2.1 % o) ∧ (t.1 < m → t.2.1 + o ≤ bs.length + t.1)) ?_ fun ⟨d, bo, i0, B, bc⟩ ⟨j1, j2, j3, j4, j5, j6⟩ => ?_
  · refine Wp.cond rfl (fun h => ?_) (fun h => ?_)
    · have h : ((bs.length : Nat) : Int) < ((o : Nat) : Int) := dT h
      have ec : IntKind.u32.wrap (((o : Nat) : Int) - ((bs.length : Nat) : Int)) = ((o - bs.length : Nat) : Int) := by rw [IntWalk.u32_in _ (by omega)]; omega
      (conv => whnf); repeat ((first | refine RngK.mk (by omega) (by omega) ?_ | refine NzK.mk (by omega) ?_ | refine NnK.mk (by omega) ?_ | refine BdK.mk (by omega) (by omega) (by omega) ?_ | refine InsK.lit (by omega) (by omega) ?_ | refine SpK.lit ?_ | refine GrdK.same ?_ | refine GrdK.tf ?_ | refine GrdK.ft ?_ | refine PickK.t ?_ | refine PickK.f ?_); (conv => whnf))
      refine CallK.of [1, 1] (len_spec (.slice B bs.length bc) r s D dc data off hd) rfl (fun _ _ => trivial) ?_
      rintro _ _ ⟨rfl, rfl⟩
      (conv => whnf); repeat ((first | refine RngK.mk (by omega) (by omega) ?_ | refine NzK.mk (by omega) ?_ | refine NnK.mk (by omega) ?_ | refine BdK.mk (by omega) (by omega) (by omega) ?_ | refine InsK.lit (by omega) (by omega) ?_ | refine SpK.lit ?_ | refine GrdK.same ?_ | refine GrdK.tf ?_ | refine GrdK.ft ?_ | refine PickK.t ?_ | refine PickK.f ?_); (conv => whnf))
      rw [ec]
      refine Wp.cond rfl (fun h2 => ?_) (fun h2 => ?_)
      · have h2 : ((o - bs.length : Nat) : Int) > ((data.length : Nat) : Int) := dT h2
        (conv => whnf); repeat ((first | refine RngK.mk (by omega) (by omega) ?_ | refine NzK.mk (by omega) ?_ | refine NnK.mk (by omega) ?_ | refine BdK.mk (by omega) (by omega) (by omega) ?_ | refine InsK.lit (by omega) (by omega) ?_ | refine SpK.lit ?_ | refine GrdK.same ?_ | refine GrdK.tf ?_ | refine GrdK.ft ?_ | refine PickK.t ?_ | refine PickK.f ?_); (conv => whnf))
        refine CallK.of [2] (rbErr_spec q r _ e) rfl (fun w hw => ⟨hL.pass hw, ?_⟩) ?_
        · exact Rd.ofBlk (o := 6) (m := 1) (sz := 1) hw 0 rfl (Nat.le_of_ble_eq_true rfl)
        rintro _ _ ⟨⟨T, x, rfl⟩, rfl⟩
        (conv => whnf); repeat ((first | refine RngK.mk (by omega) (by omega) ?_ | refine NzK.mk (by omega) ?_ | refine NnK.mk (by omega) ?_ | refine BdK.mk (by omega) (by omega) (by omega) ?_ | refine InsK.lit (by omega) (by omega) ?_ | refine SpK.lit ?_ | refine GrdK.same ?_ | refine GrdK.tf ?_ | refine GrdK.ft ?_ | refine PickK.t ?_ | refine PickK.f ?_); (conv => whnf))
        exact ⟨_, HSub.of [0, 1] rfl, B, bc, bs, rfl, .inl ⟨.inr (by omega), ⟨_, _, rfl⟩, rfl⟩⟩
      have h2 : ¬ ((o - bs.length : Nat) : Int) > ((data.length : Nat) : Int) := dF h2
      have ewo : IntKind.u32.wrap (((data.length : Nat) : Int) - ((o - bs.length : Nat) : Int)) = ((data.length - (o - bs.length) : Nat) : Int) := by rw [IntWalk.u32_in _ (by omega)]; omega
      obtain ⟨cc, hcc⟩ : ∃ cc, min (o - bs.length) m = cc := ⟨_, rfl⟩
      (conv => whnf); repeat ((first | refine RngK.mk (by omega) (by omega) ?_ | refine NzK.mk (by omega) ?_ | refine NnK.mk (by omega) ?_ | refine BdK.mk (by omega) (by omega) (by omega) ?_ | refine InsK.lit (by omega) (by omega) ?_ | refine SpK.lit ?_ | refine GrdK.same ?_ | refine GrdK.tf ?_ | refine GrdK.ft ?_ | refine PickK.t ?_ | refine PickK.f ?_); (conv => whnf))
      rw [ewo]
      refine Wp.cut (fun _ : Unit => [(0, .pointer (some ⟨r, 0, none⟩)), (3, .int .u32 m), (9, .int .u32 0), (12, .int .u32 cc), (13, .int .u32 (data.length - (o - bs.length) : Nat))])
        (fun _ => [.blk r 55 (rC (.slice B bs.length bc) s (.slice D data.length dc) off), .own D data.length dc 5 1 (data.map vU8), .own B bs.length bc 5 1 (bs.map vU8)]) (fun _ => True) ?_ fun _ _ => ?_
      · refine Wp.cond rfl (fun h3 => ?_) (fun h3 => ?_)
        · have h3 : ((o - bs.length : Nat) : Int) > ((m : Nat) : Int) := dT h3
          obtain rfl : cc = m := by omega
          (conv => whnf); repeat ((first | refine RngK.mk (by omega) (by omega) ?_ | refine NzK.mk (by omega) ?_ | refine NnK.mk (by omega) ?_ | refine BdK.mk (by omega) (by omega) (by omega) ?_ | refine InsK.lit (by omega) (by omega) ?_ | refine SpK.lit ?_ | refine GrdK.same ?_ | refine GrdK.tf ?_ | refine GrdK.ft ?_ | refine PickK.t ?_ | refine PickK.f ?_); (conv => whnf))
          exact ⟨(), ⟨rfl, rfl, rfl, rfl, rfl, trivial⟩, HSub.of [0, 0, 1] rfl, trivial⟩
        · have h3 : ¬ ((o - bs.length : Nat) : Int) > ((m : Nat) : Int) := dF h3
          obtain rfl : cc = o - bs.length := by omega
          (conv => whnf); repeat ((first | refine RngK.mk (by omega) (by omega) ?_ | refine NzK.mk (by omega) ?_ | refine NnK.mk (by omega) ?_ | refine BdK.mk (by omega) (by omega) (by omega) ?_ | refine InsK.lit (by omega) (by omega) ?_ | refine SpK.lit ?_ | refine GrdK.same ?_ | refine GrdK.tf ?_ | refine GrdK.ft ?_ | refine PickK.t ?_ | refine PickK.f ?_); (conv => whnf))
          exact ⟨(), ⟨rfl, rfl, rfl, rfl, rfl, trivial⟩, HSub.of [0, 0, 1] rfl, trivial⟩
      obtain ⟨wo, hwo⟩ : ∃ wo, data.length - (o - bs.length) = wo := ⟨_, rfl⟩
      rw [hwo]
      have ewc : IntKind.u32.wrap (((wo : Nat) : Int) + ((cc : Nat) : Int)) = ((wo + cc : Nat) : Int) := by rw [IntWalk.u32_in _ (by omega)]; omega
      have ewm : IntKind.u32.wrap (((m : Nat) : Int) - ((cc : Nat) : Int)) = ((m - cc : Nat) : Int) := by rw [IntWalk.u32_in _ (by omega)]; omega
      have hsub : sub (rot data off) wo (wo + cc) = per (rot data off ++ bs) o cc := by
        have := per_window (pre := rot data off) (bs := bs) (o := o) (q := cc) (by omega) (by omega) (by omega)
        unfold sub
        rw [← this]
        congr 1
        · omega
        · congr 1
          omega
      (conv => whnf); repeat ((first | refine RngK.mk (by omega) (by omega) ?_ | refine NzK.mk (by omega) ?_ | refine NnK.mk (by omega) ?_ | refine BdK.mk (by omega) (by omega) (by omega) ?_ | refine InsK.lit (by omega) (by omega) ?_ | refine SpK.lit ?_ | refine GrdK.same ?_ | refine GrdK.tf ?_ | refine GrdK.ft ?_ | refine PickK.t ?_ | refine PickK.f ?_); (conv => whnf))
      refine DrwK.ord (by kernel_rfl) [0, 1, 2, 3, 4, 5, 6, 7, 8, 9, 10, 11, 12, 13, 14, 15] (by kernel_rfl) ?_; conv => whnf
      (conv => whnf); repeat ((first | refine RngK.mk (by omega) (by omega) ?_ | refine NzK.mk (by omega) ?_ | refine NnK.mk (by omega) ?_ | refine BdK.mk (by omega) (by omega) (by omega) ?_ | refine InsK.lit (by omega) (by omega) ?_ | refine SpK.lit ?_ | refine GrdK.same ?_ | refine GrdK.tf ?_ | refine GrdK.ft ?_ | refine PickK.t ?_ | refine PickK.f ?_); (conv => whnf))
      refine LdK.blk 0 rfl rfl rfl rfl ?_
      (conv => whnf); repeat ((first | refine RngK.mk (by omega) (by omega) ?_ | refine NzK.mk (by omega) ?_ | refine NnK.mk (by omega) ?_ | refine BdK.mk (by omega) (by omega) (by omega) ?_ | refine InsK.lit (by omega) (by omega) ?_ | refine SpK.lit ?_ | refine GrdK.same ?_ | refine GrdK.tf ?_ | refine GrdK.ft ?_ | refine PickK.t ?_ | refine PickK.f ?_); (conv => whnf))
      rw [ewc]
      refine CallK.of [0, 0, 0] (appendTo_spec (.slice B bs.length bc) r s D dc data off B bs.length bc bs wo (wo + cc) hd hon rfl hb (by omega) (by omega)) rfl (fun _ _ => trivial) ?_
      rintro _ _ ⟨A', c', rfl, rfl⟩
      rw [hsub]
      have hpl : (bs ++ per (rot data off ++ bs) o cc).length = bs.length + cc := by rw [List.length_append, per_len]
      rw [hpl]
      (conv => whnf); repeat ((first | refine RngK.mk (by omega) (by omega) ?_ | refine NzK.mk (by omega) ?_ | refine NnK.mk (by omega) ?_ | refine BdK.mk (by omega) (by omega) (by omega) ?_ | refine InsK.lit (by omega) (by omega) ?_ | refine SpK.lit ?_ | refine GrdK.same ?_ | refine GrdK.tf ?_ | refine GrdK.ft ?_ | refine PickK.t ?_ | refine PickK.f ?_); (conv => whnf))
      refine KfK.of (LdK.blk 1 rfl rfl rfl rfl rfl) ?_
      (conv => whnf); repeat ((first | refine RngK.mk (by omega) (by omega) ?_ | refine NzK.mk (by omega) ?_ | refine NnK.mk (by omega) ?_ | refine BdK.mk (by omega) (by omega) (by omega) ?_ | refine InsK.lit (by omega) (by omega) ?_ | refine SpK.lit ?_ | refine GrdK.same ?_ | refine GrdK.tf ?_ | refine GrdK.ft ?_ | refine PickK.t ?_ | refine PickK.f ?_); (conv => whnf))
      refine StK.blkE 1 (rC (.slice A' (bs.length + cc) c') s (.slice D data.length dc) off) rfl rfl rfl rfl (Nat.le_of_ble_eq_true rfl) rfl ?_
      (conv => whnf); repeat ((first | refine RngK.mk (by omega) (by omega) ?_ | refine NzK.mk (by omega) ?_ | refine NnK.mk (by omega) ?_ | refine BdK.mk (by omega) (by omega) (by omega) ?_ | refine InsK.lit (by omega) (by omega) ?_ | refine SpK.lit ?_ | refine GrdK.same ?_ | refine GrdK.tf ?_ | refine GrdK.ft ?_ | refine PickK.t ?_ | refine PickK.f ?_); (conv => whnf))
      rw [ewm]
      refine ⟨(cc, 0, o - bs.length, A', c'), ⟨rfl, rfl, rfl, trivial⟩, HSub.of [1, 0] rfl, by dsimp only; omega, by omega, by dsimp only; omega, Nat.zero_le _, fun h => ?_, fun h => ?_⟩
      · dsimp only at h ⊢
        have : cc = o - bs.length := by omega
        rw [this]
      · dsimp only at h ⊢
        omega
    · have h : ¬ ((bs.length : Nat) : Int) < ((o : Nat) : Int) := dF h
      have ec : IntKind.u32.wrap (((bs.length : Nat) : Int) - ((o : Nat) : Int)) = ((bs.length - o : Nat) : Int) := by rw [IntWalk.u32_in _ (by omega)]; omega
      (conv => whnf); repeat ((first | refine RngK.mk (by omega) (by omega) ?_ | refine NzK.mk (by omega) ?_ | refine NnK.mk (by omega) ?_ | refine BdK.mk (by omega) (by omega) (by omega) ?_ | refine InsK.lit (by omega) (by omega) ?_ | refine SpK.lit ?_ | refine GrdK.same ?_ | refine GrdK.tf ?_ | refine GrdK.ft ?_ | refine PickK.t ?_ | refine PickK.f ?_); (conv => whnf))
      rw [ec]
      refine ⟨(0, bs.length - o, 0, B, bc), ⟨rfl, rfl, rfl, trivial⟩, ?_, Nat.zero_le _, by omega, by dsimp only; omega, by dsimp only; omega, fun _ => rfl, fun _ => by dsimp only; omega⟩
      have e0 : bs ++ per (rot data off ++ bs) o 0 = bs := by simp [per]
      dsimp only
      rw [e0]
      exact HSub.of [1, 2] rfl
  dsimp only at j1 j2 j3 j4 j5 j6 ⊢
  (conv => whnf); repeat ((first | refine RngK.mk (by omega) (by omega) ?_ | refine NzK.mk (by omega) ?_ | refine NnK.mk (by omega) ?_ | refine BdK.mk (by omega) (by omega) (by omega) ?_ | refine InsK.lit (by omega) (by omega) ?_ | refine SpK.lit ?_ | refine GrdK.same ?_ | refine GrdK.tf ?_ | refine GrdK.ft ?_ | refine PickK.t ?_ | refine PickK.f ?_); (conv => whnf))
  refine Wp.cutEx 0 (fun t : Option Addr × Nat => [])
    (fun t => [.blk r 55 (rC (.slice t.1 (bs.length + m) t.2) s (.slice D data.length dc) off), .own t.1 (bs.length + m) t.2 5 1 ((bs ++ per (rot data off ++ bs) o m).map vU8)])
    (fun _ => True) ?_ fun ⟨B, bc⟩ _ => ?_
  · refine Wp.loop (fun t : Nat × Option Addr × Nat => [(0, .pointer (some ⟨r, 0, none⟩)), (3, .int .u32 (m - t.1 : Nat)), (9, .int .u32 bo)])
      (fun t => [.blk r 55 (rC (.slice t.2.1 (bs.length + t.1) t.2.2) s (.slice D data.length dc) off), .own t.2.1 (bs.length + t.1) t.2.2 5 1 ((bs ++ per (rot data off ++ bs) o t.1).map vU8)])
      (fun t => t.1 ≤ m ∧ (t.1 < m → t.1 % o = i0 % o) ∧ (t.1 < m → bo + o ≤ bs.length + t.1)) (fun t => m - t.1) (d, B, bc)
      ⟨rfl, rfl, rfl, trivial⟩ (HSub.refl _) ⟨j1, j5, j6⟩ fun ⟨d, B, bc⟩ ⟨j1, j5, j6⟩ => ?_
    dsimp only at j1 j5 j6 ⊢
    (conv => whnf); repeat ((first | refine RngK.mk (by omega) (by omega) ?_ | refine NzK.mk (by omega) ?_ | refine NnK.mk (by omega) ?_ | refine BdK.mk (by omega) (by omega) (by omega) ?_ | refine InsK.lit (by omega) (by omega) ?_ | refine SpK.lit ?_ | refine GrdK.same ?_ | refine GrdK.tf ?_ | refine GrdK.ft ?_ | refine PickK.t ?_ | refine PickK.f ?_); (conv => whnf))
    refine Wp.cond rfl (fun h => ?_) (fun h => ?_)
    rotate_left
    · have h : ¬ ((m - d : Nat) : Int) > 0 := dF h
      obtain rfl : d = m := by omega
      (conv => whnf); repeat ((first | refine RngK.mk (by omega) (by omega) ?_ | refine NzK.mk (by omega) ?_ | refine NnK.mk (by omega) ?_ | refine BdK.mk (by omega) (by omega) (by omega) ?_ | refine InsK.lit (by omega) (by omega) ?_ | refine SpK.lit ?_ | refine GrdK.same ?_ | refine GrdK.tf ?_ | refine GrdK.ft ?_ | refine PickK.t ?_ | refine PickK.f ?_); (conv => whnf))
      exact ⟨(B, bc), trivial, HSub.refl _, trivial⟩
    have h : ((m - d : Nat) : Int) > 0 := dT h
    have j5 := j5 (by omega)
    have j6 := j6 (by omega)
    have ewb : IntKind.u32.wrap ((bs.length + d : Nat) : Int) = ((bs.length + d : Nat) : Int) := IntWalk.u32_in _ (by omega)
    have ewL : IntKind.u32.wrap (((bs.length + d : Nat) : Int) - ((bo : Nat) : Int)) = ((bs.length + d - bo : Nat) : Int) := by rw [IntWalk.u32_in _ (by omega)]; omega
    obtain ⟨cc, hcc⟩ : ∃ cc, min (bs.length + d - bo) (m - d) = cc := ⟨_, rfl⟩
    (conv => whnf); repeat ((first | refine RngK.mk (by omega) (by omega) ?_ | refine NzK.mk (by omega) ?_ | refine NnK.mk (by omega) ?_ | refine BdK.mk (by omega) (by omega) (by omega) ?_ | refine InsK.lit (by omega) (by omega) ?_ | refine SpK.lit ?_ | refine GrdK.same ?_ | refine GrdK.tf ?_ | refine GrdK.ft ?_ | refine PickK.t ?_ | refine PickK.f ?_); (conv => whnf))
    refine LdK.blk 0 rfl rfl rfl rfl ?_
    (conv => whnf); repeat ((first | refine RngK.mk (by omega) (by omega) ?_ | refine NzK.mk (by omega) ?_ | refine NnK.mk (by omega) ?_ | refine BdK.mk (by omega) (by omega) (by omega) ?_ | refine InsK.lit (by omega) (by omega) ?_ | refine SpK.lit ?_ | refine GrdK.same ?_ | refine GrdK.tf ?_ | refine GrdK.ft ?_ | refine PickK.t ?_ | refine PickK.f ?_); (conv => whnf))
    rw [ewb, ewL]
    refine Wp.cut (fun _ : Unit => [(0, .pointer (some ⟨r, 0, none⟩)), (3, .int .u32 (m - d : Nat)), (9, .int .u32 bo), (14, .int .u32 cc)])
      (fun _ => [.blk r 55 (rC (.slice B (bs.length + d) bc) s (.slice D data.length dc) off), .own B (bs.length + d) bc 5 1 ((bs ++ per (rot data off ++ bs) o d).map vU8)]) (fun _ => True) ?_ fun _ _ => ?_
    · refine Wp.cond rfl (fun h3 => ?_) (fun h3 => ?_)
      · have h3 : ((bs.length + d - bo : Nat) : Int) > ((m - d : Nat) : Int) := dT h3
        obtain rfl : cc = m - d := by omega
        (conv => whnf); repeat ((first | refine RngK.mk (by omega) (by omega) ?_ | refine NzK.mk (by omega) ?_ | refine NnK.mk (by omega) ?_ | refine BdK.mk (by omega) (by omega) (by omega) ?_ | refine InsK.lit (by omega) (by omega) ?_ | refine SpK.lit ?_ | refine GrdK.same ?_ | refine GrdK.tf ?_ | refine GrdK.ft ?_ | refine PickK.t ?_ | refine PickK.f ?_); (conv => whnf))
        exact ⟨(), ⟨rfl, rfl, rfl, rfl, trivial⟩, HSub.refl _, trivial⟩
      · have h3 : ¬ ((bs.length + d - bo : Nat) : Int) > ((m - d : Nat) : Int) := dF h3
        obtain rfl : cc = bs.length + d - bo := by omega
        (conv => whnf); repeat ((first | refine RngK.mk (by omega) (by omega) ?_ | refine NzK.mk (by omega) ?_ | refine NnK.mk (by omega) ?_ | refine BdK.mk (by omega) (by omega) (by omega) ?_ | refine InsK.lit (by omega) (by omega) ?_ | refine SpK.lit ?_ | refine GrdK.same ?_ | refine GrdK.tf ?_ | refine GrdK.ft ?_ | refine PickK.t ?_ | refine PickK.f ?_); (conv => whnf))
        exact ⟨(), ⟨rfl, rfl, rfl, rfl, trivial⟩, HSub.refl _, trivial⟩
    have ewc : IntKind.u32.wrap (((bo : Nat) : Int) + ((cc : Nat) : Int)) = ((bo + cc : Nat) : Int) := by rw [IntWalk.u32_in _ (by omega)]; omega
    have ewm : IntKind.u32.wrap (((m - d : Nat) : Int) - ((cc : Nat) : Int)) = ((m - (d + cc) : Nat) : Int) := by rw [IntWalk.u32_in _ (by omega)]; omega
    have hcopy := per_copy (pre := rot data off) (bs := bs) (o := o) (d := d) (bo := bo) (i0 := i0) (q := cc) (by omega) (by omega) j5 (by omega)
    have hadd := per_add (rot data off ++ bs) o d cc
    have hcont : (bs ++ per (rot data off ++ bs) o d).map vU8 ++ (((bs ++ per (rot data off ++ bs) o d).map vU8).drop (bo * 1)).take (cc * 1) = (bs ++ per (rot data off ++ bs) o (d + cc)).map vU8 := by
      rw [Nat.mul_one, Nat.mul_one, ← List.map_drop, ← List.map_take, hcopy, ← List.map_append, List.append_assoc, hadd]
    have hpl : (bs ++ per (rot data off ++ bs) o d).length = bs.length + d := by rw [List.length_append, per_len]
    (conv => whnf); repeat ((first | refine RngK.mk (by omega) (by omega) ?_ | refine NzK.mk (by omega) ?_ | refine NnK.mk (by omega) ?_ | refine BdK.mk (by omega) (by omega) (by omega) ?_ | refine InsK.lit (by omega) (by omega) ?_ | refine SpK.lit ?_ | refine GrdK.same ?_ | refine GrdK.tf ?_ | refine GrdK.ft ?_ | refine PickK.t ?_ | refine PickK.f ?_); (conv => whnf))
    refine DrwK.own 1 rfl fun hB => ?_
    have hBc := hB.1
    refine DrwK.ord (by kernel_rfl) [0, 1, 2, 3, 4, 5, 6, 7, 8, 9, 10, 11, 12, 13, 14, 15, 16, 17] (by kernel_rfl) ?_; conv => whnf
    (conv => whnf); repeat ((first | refine RngK.mk (by omega) (by omega) ?_ | refine NzK.mk (by omega) ?_ | refine NnK.mk (by omega) ?_ | refine BdK.mk (by omega) (by omega) (by omega) ?_ | refine InsK.lit (by omega) (by omega) ?_ | refine SpK.lit ?_ | refine GrdK.same ?_ | refine GrdK.tf ?_ | refine GrdK.ft ?_ | refine PickK.t ?_ | refine PickK.f ?_); (conv => whnf))
    refine LdK.blk 0 rfl rfl rfl rfl ?_
    (conv => whnf); repeat ((first | refine RngK.mk (by omega) (by omega) ?_ | refine NzK.mk (by omega) ?_ | refine NnK.mk (by omega) ?_ | refine BdK.mk (by omega) (by omega) (by omega) ?_ | refine InsK.lit (by omega) (by omega) ?_ | refine SpK.lit ?_ | refine GrdK.same ?_ | refine GrdK.tf ?_ | refine GrdK.ft ?_ | refine PickK.t ?_ | refine PickK.f ?_); (conv => whnf))
    refine LdK.blk 0 rfl rfl rfl rfl ?_
    (conv => whnf); repeat ((first | refine RngK.mk (by omega) (by omega) ?_ | refine NzK.mk (by omega) ?_ | refine NnK.mk (by omega) ?_ | refine BdK.mk (by omega) (by omega) (by omega) ?_ | refine InsK.lit (by omega) (by omega) ?_ | refine SpK.lit ?_ | refine GrdK.same ?_ | refine GrdK.tf ?_ | refine GrdK.ft ?_ | refine PickK.t ?_ | refine PickK.f ?_); (conv => whnf))
    rw [ewc]
    (conv => whnf); repeat ((first | refine RngK.mk (by omega) (by omega) ?_ | refine NzK.mk (by omega) ?_ | refine NnK.mk (by omega) ?_ | refine BdK.mk (by omega) (by omega) (by omega) ?_ | refine InsK.lit (by omega) (by omega) ?_ | refine SpK.lit ?_ | refine GrdK.same ?_ | refine GrdK.tf ?_ | refine GrdK.ft ?_ | refine PickK.t ?_ | refine PickK.f ?_); (conv => whnf))
    refine SpK.own hB ?_
    rw [Int.toNat_natCast, Int.toNat_natCast, Nat.add_sub_cancel_left]
    (conv => whnf); repeat ((first | refine RngK.mk (by omega) (by omega) ?_ | refine NzK.mk (by omega) ?_ | refine NnK.mk (by omega) ?_ | refine BdK.mk (by omega) (by omega) (by omega) ?_ | refine InsK.lit (by omega) (by omega) ?_ | refine SpK.lit ?_ | refine GrdK.same ?_ | refine GrdK.tf ?_ | refine GrdK.ft ?_ | refine PickK.t ?_ | refine PickK.f ?_); (conv => whnf))
    refine EffK.append 1 (news := (((bs ++ per (rot data off ++ bs) o d).map vU8).drop (bo * 1)).take (cc * 1)) rfl rfl rfl rfl rfl rfl rfl rfl (Src.ownCut (k := 1) rfl (by rw [List.length_map, hpl, Nat.mul_one]) rfl (by omega) hBc rfl) ?_ (by simp [maxLen]; omega) (by show (_ + _) * 1 ≤ _; omega) fun A5 c5 => ?_
    · intro u hu
      exact vU8_one u (List.mem_of_mem_drop (List.mem_of_mem_take hu))
    rw [hcont]
    (conv => whnf); repeat ((first | refine RngK.mk (by omega) (by omega) ?_ | refine NzK.mk (by omega) ?_ | refine NnK.mk (by omega) ?_ | refine BdK.mk (by omega) (by omega) (by omega) ?_ | refine InsK.lit (by omega) (by omega) ?_ | refine SpK.lit ?_ | refine GrdK.same ?_ | refine GrdK.tf ?_ | refine GrdK.ft ?_ | refine PickK.t ?_ | refine PickK.f ?_); (conv => whnf))
    refine KfK.of (LdK.blk 0 rfl rfl rfl rfl rfl) ?_
    (conv => whnf); repeat ((first | refine RngK.mk (by omega) (by omega) ?_ | refine NzK.mk (by omega) ?_ | refine NnK.mk (by omega) ?_ | refine BdK.mk (by omega) (by omega) (by omega) ?_ | refine InsK.lit (by omega) (by omega) ?_ | refine SpK.lit ?_ | refine GrdK.same ?_ | refine GrdK.tf ?_ | refine GrdK.ft ?_ | refine PickK.t ?_ | refine PickK.f ?_); (conv => whnf))
    refine KfK.of (LdK.blk 0 rfl rfl rfl rfl rfl) ?_
    (conv => whnf); repeat ((first | refine RngK.mk (by omega) (by omega) ?_ | refine NzK.mk (by omega) ?_ | refine NnK.mk (by omega) ?_ | refine BdK.mk (by omega) (by omega) (by omega) ?_ | refine InsK.lit (by omega) (by omega) ?_ | refine SpK.lit ?_ | refine GrdK.same ?_ | refine GrdK.tf ?_ | refine GrdK.ft ?_ | refine PickK.t ?_ | refine PickK.f ?_); (conv => whnf))
    refine StK.blkE 0 (rC (.slice A5 (bs.length + (d + cc)) c5) s (.slice D data.length dc) off) rfl rfl rfl rfl (Nat.le_of_ble_eq_true rfl) (by rw [← Nat.add_assoc]; rfl) ?_
    (conv => whnf); repeat ((first | refine RngK.mk (by omega) (by omega) ?_ | refine NzK.mk (by omega) ?_ | refine NnK.mk (by omega) ?_ | refine BdK.mk (by omega) (by omega) (by omega) ?_ | refine InsK.lit (by omega) (by omega) ?_ | refine SpK.lit ?_ | refine GrdK.same ?_ | refine GrdK.tf ?_ | refine GrdK.ft ?_ | refine PickK.t ?_ | refine PickK.f ?_); (conv => whnf))
    rw [ewm]
    refine ⟨(d + cc, A5, c5), ⟨rfl, rfl, rfl, trivial⟩, by dsimp only; rw [Nat.add_assoc]; exact HSub.refl _, ⟨by simp only; omega, fun hlt => ?_, fun hlt => by dsimp only at hlt ⊢; omega⟩, by dsimp only; omega⟩
    dsimp only at hlt ⊢
    have hcL : cc = bs.length + d - bo := by omega
    have e1 := Nat.sub_mod_eq_zero_of_mod_eq j5
    have e2 : d + cc = d + (d - i0) + o := by omega
    rw [e2, Nat.add_mod_right, Nat.add_mod, e1, Nat.add_zero, Nat.mod_mod, j5]
  · (conv => whnf); repeat ((first | refine RngK.mk (by omega) (by omega) ?_ | refine NzK.mk (by omega) ?_ | refine NnK.mk (by omega) ?_ | refine BdK.mk (by omega) (by omega) (by omega) ?_ | refine InsK.lit (by omega) (by omega) ?_ | refine SpK.lit ?_ | refine GrdK.same ?_ | refine GrdK.tf ?_ | refine GrdK.ft ?_ | refine PickK.t ?_ | refine PickK.f ?_); (conv => whnf))
    have hpl : (bs ++ per (rot data off ++ bs) o m).length = bs.length + m := by rw [List.length_append, per_len]
    exact ⟨_, HSub.refl _, B, bc, bs ++ per (rot data off ++ bs) o m, by rw [hpl], .inr ⟨by omega, j2, rfl, rfl⟩⟩
end Go.Proofs.YtkdfminibmdkgaaDoor
