/- A window: appending its bytes. -/
import Derived.Test.YtkdfminibmdkgaaDoorWa2
namespace Go.Proofs.YtkdfminibmdkgaaDoor
open Go Go.Sx
set_option maxRecDepth 100000
def sub (l : List UInt8) (a b : Nat) : List UInt8 := (l.drop a).take (b - a)
section
variable {data : List UInt8} {off a b : Nat}
theorem sub_len (l : List UInt8) {a b : Nat} (h : a ≤ b) (h2 : b ≤ l.length) : (sub l a b).length = b - a := by simp [sub]; omega
theorem rot_a (hab : a ≤ b) (h : b + off ≤ data.length) : sub (rot data off) a b = sub data (a + off) (b + off) := by
  unfold sub rot
  rw [List.drop_append_of_le_length (by simp; omega), List.take_append_of_le_length (by simp; omega), List.drop_drop, Nat.add_comm off a]
  congr 1
  omega
theorem rot_b (hb : b ≤ data.length) (ho : off ≤ data.length) (h : a + off ≤ data.length) (h2 : data.length < b + off) : sub (rot data off) a b = data.drop (a + off) ++ data.take (b + off - data.length) := by
  unfold sub rot
  rw [List.drop_append_of_le_length (by simp; omega), List.take_append, List.drop_drop, Nat.add_comm off a, List.take_of_length_le (by simp; omega), List.take_take]
  congr 1
  congr 1
  simp
  omega
theorem rot_c (hab : a ≤ b) (hb : b ≤ data.length) (ho : off ≤ data.length) (h : data.length < a + off) : sub (rot data off) a b = sub data (a + off - data.length) (b + off - data.length) := by
  unfold sub rot
  rw [List.drop_append, List.drop_of_length_le (l := data.drop off) (by simp; omega), List.nil_append]
  have e : a - (data.drop off).length = a + off - data.length := by simp; omega
  have e2 : b - a = b + off - data.length - (a + off - data.length) := by omega
  rw [e, List.drop_take, List.take_take, ← e2]
  congr 1
  omega
end
theorem CallK.nil {P : Program} {w0 : World} {W : Nat → Prop} {H : Hp} (e : TypeId) (sz : Nat) {f : FuncId} {args : List Value} {K : Value → Hp → Prop} (h : CallK P w0 W (.own none 0 0 e sz [] :: H) f args K) : CallK P w0 W H f args K := ⟨fun w hw => h.ex w (hw.nilOwn e sz)⟩
theorem len_spec (V : Value) (b s : Nat) (D : Option Addr) (dc : Nat) (data : List UInt8) (off : Nat) (hd : data.length ≤ 1000000) :
    FnS Tryd.prog 17 [.pointer (some ⟨b, 14, none⟩)] (wH V b s D dc data off) (fun _ => True) (fun v H => v = .int .u32 data.length ∧ H = wH V b s D dc data off) := by
  refine FnS.intro Tryd.func17 rfl (by kernel_rfl) rfl fun w hH _ => ?_
  (conv => whnf); repeat ((first | refine RngK.mk (by omega) (by omega) ?_ | refine NzK.mk (by omega) ?_ | refine NnK.mk (by omega) ?_ | refine BdK.mk (by omega) (by omega) (by omega) ?_ | refine InsK.lit (by omega) (by omega) ?_ | refine SpK.lit ?_ | refine GrdK.same ?_ | refine GrdK.tf ?_ | refine GrdK.ft ?_ | refine PickK.t ?_ | refine PickK.f ?_); (conv => whnf))
  refine LdK.blk 0 rfl rfl rfl rfl ?_
  (conv => whnf); repeat ((first | refine RngK.mk (by omega) (by omega) ?_ | refine NzK.mk (by omega) ?_ | refine NnK.mk (by omega) ?_ | refine BdK.mk (by omega) (by omega) (by omega) ?_ | refine InsK.lit (by omega) (by omega) ?_ | refine SpK.lit ?_ | refine GrdK.same ?_ | refine GrdK.tf ?_ | refine GrdK.ft ?_ | refine PickK.t ?_ | refine PickK.f ?_); (conv => whnf))
  have : IntKind.u32.wrap (data.length : Int) = (data.length : Int) := IntWalk.u32_in _ (by omega)
  rw [this]
  exact ⟨rfl, rfl⟩
theorem appendTo_spec (V : Value) (b s : Nat) (D : Option Addr) (dc : Nat) (data : List UInt8) (off : Nat) (B : Option Addr) (m bc : Nat) (xs : List UInt8) (x y : Nat) (hd : data.length ≤ 1000000) (ho : off ≤ data.length) (hxl : xs.length = m) (hm : m ≤ 1000000) (hxy : x ≤ y) (hy : y ≤ data.length) :
    FnS Tryd.prog 18 [.pointer (some ⟨b, 14, none⟩), .slice B m bc, .int .u32 x, .int .u32 y] (wH V b s D dc data off ++ [.own B m bc 5 1 (xs.map vU8)]) (fun _ => True)
      (fun v H => ∃ A' c', v = .slice A' (xs ++ sub (rot data off) x y).length c' ∧ H = .own A' (xs ++ sub (rot data off) x y).length c' 5 1 ((xs ++ sub (rot data off) x y).map vU8) :: wH V b s D dc data off) := by
  subst hxl
  refine FnS.introD Tryd.func18 rfl (by kernel_rfl) rfl fun w hH _ => ?_
  have hD : OwnA D data.length dc := OwnA.of (hH.ok _ (List.mem_cons_of_mem _ List.mem_cons_self))
  have hdc := hD.1
  have e1 : IntKind.u32.wrap (data.length : Int) = (data.length : Int) := IntWalk.u32_in _ (by omega)
  have e2 : IntKind.u32.wrap (off : Int) = (off : Int) := IntWalk.u32_in _ (by omega)
  have e3 : IntKind.u32.wrap ((x : Int) + (off : Int)) = ((x + off : Nat) : Int) := by rw [IntWalk.u32_in _ (by omega)]; omega
  have e4 : IntKind.u32.wrap ((y : Int) + (off : Int)) = ((y + off : Nat) : Int) := by rw [IntWalk.u32_in _ (by omega)]; omega
  (conv => whnf); repeat ((first | refine RngK.mk (by omega) (by omega) ?_ | refine NzK.mk (by omega) ?_ | refine NnK.mk (by omega) ?_ | refine BdK.mk (by omega) (by omega) (by omega) ?_ | refine InsK.lit (by omega) (by omega) ?_ | refine SpK.lit ?_ | refine GrdK.same ?_ | refine GrdK.tf ?_ | refine GrdK.ft ?_ | refine PickK.t ?_ | refine PickK.f ?_); (conv => whnf))
  refine LdK.blk 0 rfl rfl rfl rfl ?_
  (conv => whnf); repeat ((first | refine RngK.mk (by omega) (by omega) ?_ | refine NzK.mk (by omega) ?_ | refine NnK.mk (by omega) ?_ | refine BdK.mk (by omega) (by omega) (by omega) ?_ | refine InsK.lit (by omega) (by omega) ?_ | refine SpK.lit ?_ | refine GrdK.same ?_ | refine GrdK.tf ?_ | refine GrdK.ft ?_ | refine PickK.t ?_ | refine PickK.f ?_); (conv => whnf))
  refine LdK.blk 0 rfl rfl rfl rfl ?_
  (conv => whnf); repeat ((first | refine RngK.mk (by omega) (by omega) ?_ | refine NzK.mk (by omega) ?_ | refine NnK.mk (by omega) ?_ | refine BdK.mk (by omega) (by omega) (by omega) ?_ | refine InsK.lit (by omega) (by omega) ?_ | refine SpK.lit ?_ | refine GrdK.same ?_ | refine GrdK.tf ?_ | refine GrdK.ft ?_ | refine PickK.t ?_ | refine PickK.f ?_); (conv => whnf))
  refine LdK.blk 0 rfl rfl rfl rfl ?_
  (conv => whnf); repeat ((first | refine RngK.mk (by omega) (by omega) ?_ | refine NzK.mk (by omega) ?_ | refine NnK.mk (by omega) ?_ | refine BdK.mk (by omega) (by omega) (by omega) ?_ | refine InsK.lit (by omega) (by omega) ?_ | refine SpK.lit ?_ | refine GrdK.same ?_ | refine GrdK.tf ?_ | refine GrdK.ft ?_ | refine PickK.t ?_ | refine PickK.f ?_); (conv => whnf))
  rw [e1, e2, e3, e4]
  refine Wp.cond rfl (fun h => ?_) (fun h => ?_)
  · have h := dT h
    have e5 : IntKind.u32.wrap (((x + off : Nat) : Int) - (data.length : Int)) = ((x + off - data.length : Nat) : Int) := by rw [IntWalk.u32_in _ (by omega)]; omega
    have e6 : IntKind.u32.wrap (((y + off : Nat) : Int) - (data.length : Int)) = ((y + off - data.length : Nat) : Int) := by rw [IntWalk.u32_in _ (by omega)]; omega
    (conv => whnf); repeat ((first | refine RngK.mk (by omega) (by omega) ?_ | refine NzK.mk (by omega) ?_ | refine NnK.mk (by omega) ?_ | refine BdK.mk (by omega) (by omega) (by omega) ?_ | refine InsK.lit (by omega) (by omega) ?_ | refine SpK.lit ?_ | refine GrdK.same ?_ | refine GrdK.tf ?_ | refine GrdK.ft ?_ | refine PickK.t ?_ | refine PickK.f ?_); (conv => whnf))
    refine Wp.cond rfl (fun h2 => ?_) (fun h2 => ?_)
    · (conv => whnf); repeat ((first | refine RngK.mk (by omega) (by omega) ?_ | refine NzK.mk (by omega) ?_ | refine NnK.mk (by omega) ?_ | refine BdK.mk (by omega) (by omega) (by omega) ?_ | refine InsK.lit (by omega) (by omega) ?_ | refine SpK.lit ?_ | refine GrdK.same ?_ | refine GrdK.tf ?_ | refine GrdK.ft ?_ | refine PickK.t ?_ | refine PickK.f ?_); (conv => whnf))
      refine Wp.cond rfl (fun h => by cases h) (fun _ => ?_)
      (conv => whnf); repeat ((first | refine RngK.mk (by omega) (by omega) ?_ | refine NzK.mk (by omega) ?_ | refine NnK.mk (by omega) ?_ | refine BdK.mk (by omega) (by omega) (by omega) ?_ | refine InsK.lit (by omega) (by omega) ?_ | refine SpK.lit ?_ | refine GrdK.same ?_ | refine GrdK.tf ?_ | refine GrdK.ft ?_ | refine PickK.t ?_ | refine PickK.f ?_); (conv => whnf))
      refine LdK.blk 0 rfl rfl rfl rfl ?_
      (conv => whnf); repeat ((first | refine RngK.mk (by omega) (by omega) ?_ | refine NzK.mk (by omega) ?_ | refine NnK.mk (by omega) ?_ | refine BdK.mk (by omega) (by omega) (by omega) ?_ | refine InsK.lit (by omega) (by omega) ?_ | refine SpK.lit ?_ | refine GrdK.same ?_ | refine GrdK.tf ?_ | refine GrdK.ft ?_ | refine PickK.t ?_ | refine PickK.f ?_); (conv => whnf))
      rw [e5, e6]
      (conv => whnf); repeat ((first | refine RngK.mk (by omega) (by omega) ?_ | refine NzK.mk (by omega) ?_ | refine NnK.mk (by omega) ?_ | refine BdK.mk (by omega) (by omega) (by omega) ?_ | refine InsK.lit (by omega) (by omega) ?_ | refine SpK.lit ?_ | refine GrdK.same ?_ | refine GrdK.tf ?_ | refine GrdK.ft ?_ | refine PickK.t ?_ | refine PickK.f ?_); (conv => whnf))
      refine SpK.own hD ?_
      rw [Int.toNat_natCast, Int.toNat_natCast]
      (conv => whnf); repeat ((first | refine RngK.mk (by omega) (by omega) ?_ | refine NzK.mk (by omega) ?_ | refine NnK.mk (by omega) ?_ | refine BdK.mk (by omega) (by omega) (by omega) ?_ | refine InsK.lit (by omega) (by omega) ?_ | refine SpK.lit ?_ | refine GrdK.same ?_ | refine GrdK.tf ?_ | refine GrdK.ft ?_ | refine PickK.t ?_ | refine PickK.f ?_); (conv => whnf))
      refine EffK.append 2 (news := ((data.map vU8).drop ((x + off - data.length) * 1)).take ((y + off - data.length - (x + off - data.length)) * 1)) rfl rfl rfl rfl rfl rfl rfl rfl (Src.ownCut (k := 1) rfl (by simp) rfl (by omega) hdc rfl) ?_ (by simp [maxLen]; omega) (by show (_ + _) * 1 ≤ _; omega) fun A' c' => ?_
      · intro u hu
        exact vU8_one u (List.mem_of_mem_drop (List.mem_of_mem_take hu))
      have e7 : xs.map vU8 ++ ((data.map vU8).drop ((x + off - data.length) * 1)).take ((y + off - data.length - (x + off - data.length)) * 1) = (xs ++ sub (rot data off) x y).map vU8 := by
        rw [rot_c hxy hy ho (by omega), List.map_append, sub, List.map_take, List.map_drop, Nat.mul_one, Nat.mul_one]
      have e8 : xs.length + (y + off - data.length - (x + off - data.length)) = (xs ++ sub (rot data off) x y).length := by
        rw [rot_c hxy hy ho (by omega), List.length_append, sub_len _ (by omega) (by omega)]
      rw [e7, e8]
      (conv => whnf); repeat ((first | refine RngK.mk (by omega) (by omega) ?_ | refine NzK.mk (by omega) ?_ | refine NnK.mk (by omega) ?_ | refine BdK.mk (by omega) (by omega) (by omega) ?_ | refine InsK.lit (by omega) (by omega) ?_ | refine SpK.lit ?_ | refine GrdK.same ?_ | refine GrdK.tf ?_ | refine GrdK.ft ?_ | refine PickK.t ?_ | refine PickK.f ?_); (conv => whnf))
      exact ⟨_, HSub.of [2, 0, 0] rfl, A', c', rfl, rfl⟩
    · have h2 : ¬ ((y + off : Nat) : Int) > (data.length : Int) := dF h2
      omega
  · have h : ¬ ((x + off : Nat) : Int) > (data.length : Int) := dF h
    (conv => whnf); repeat ((first | refine RngK.mk (by omega) (by omega) ?_ | refine NzK.mk (by omega) ?_ | refine NnK.mk (by omega) ?_ | refine BdK.mk (by omega) (by omega) (by omega) ?_ | refine InsK.lit (by omega) (by omega) ?_ | refine SpK.lit ?_ | refine GrdK.same ?_ | refine GrdK.tf ?_ | refine GrdK.ft ?_ | refine PickK.t ?_ | refine PickK.f ?_); (conv => whnf))
    refine Wp.cond rfl (fun h2 => ?_) (fun h2 => ?_)
    · have h2 : ((y + off : Nat) : Int) > (data.length : Int) := dT h2
      have e6 : IntKind.u32.wrap (((y + off : Nat) : Int) - (data.length : Int)) = ((y + off - data.length : Nat) : Int) := by rw [IntWalk.u32_in _ (by omega)]; omega
      (conv => whnf); repeat ((first | refine RngK.mk (by omega) (by omega) ?_ | refine NzK.mk (by omega) ?_ | refine NnK.mk (by omega) ?_ | refine BdK.mk (by omega) (by omega) (by omega) ?_ | refine InsK.lit (by omega) (by omega) ?_ | refine SpK.lit ?_ | refine GrdK.same ?_ | refine GrdK.tf ?_ | refine GrdK.ft ?_ | refine PickK.t ?_ | refine PickK.f ?_); (conv => whnf))
      refine Wp.cond rfl (fun _ => ?_) (fun h => by cases h)
      (conv => whnf); repeat ((first | refine RngK.mk (by omega) (by omega) ?_ | refine NzK.mk (by omega) ?_ | refine NnK.mk (by omega) ?_ | refine BdK.mk (by omega) (by omega) (by omega) ?_ | refine InsK.lit (by omega) (by omega) ?_ | refine SpK.lit ?_ | refine GrdK.same ?_ | refine GrdK.tf ?_ | refine GrdK.ft ?_ | refine PickK.t ?_ | refine PickK.f ?_); (conv => whnf))
      refine LdK.blk 0 rfl rfl rfl rfl ?_
      (conv => whnf); repeat ((first | refine RngK.mk (by omega) (by omega) ?_ | refine NzK.mk (by omega) ?_ | refine NnK.mk (by omega) ?_ | refine BdK.mk (by omega) (by omega) (by omega) ?_ | refine InsK.lit (by omega) (by omega) ?_ | refine SpK.lit ?_ | refine GrdK.same ?_ | refine GrdK.tf ?_ | refine GrdK.ft ?_ | refine PickK.t ?_ | refine PickK.f ?_); (conv => whnf))
      refine SpK.own hD ?_
      rw [Int.toNat_natCast, Int.toNat_natCast]
      (conv => whnf); repeat ((first | refine RngK.mk (by omega) (by omega) ?_ | refine NzK.mk (by omega) ?_ | refine NnK.mk (by omega) ?_ | refine BdK.mk (by omega) (by omega) (by omega) ?_ | refine InsK.lit (by omega) (by omega) ?_ | refine SpK.lit ?_ | refine GrdK.same ?_ | refine GrdK.tf ?_ | refine GrdK.ft ?_ | refine PickK.t ?_ | refine PickK.f ?_); (conv => whnf))
      refine EffK.append 2 (news := ((data.map vU8).drop ((x + off) * 1)).take ((data.length - (x + off)) * 1)) rfl rfl rfl rfl rfl rfl rfl rfl (Src.ownCut (k := 1) rfl (by simp) rfl (by omega) hdc rfl) ?_ (by simp [maxLen]; omega) (by show (_ + _) * 1 ≤ _; omega) fun A' c' => ?_
      · intro u hu
        exact vU8_one u (List.mem_of_mem_drop (List.mem_of_mem_take hu))
      have e7 : xs.map vU8 ++ ((data.map vU8).drop ((x + off) * 1)).take ((data.length - (x + off)) * 1) = (xs ++ data.drop (x + off)).map vU8 := by
        rw [List.map_append, List.map_drop, Nat.mul_one, Nat.mul_one, List.take_of_length_le (by simp)]
      have e8 : xs.length + (data.length - (x + off)) = (xs ++ data.drop (x + off)).length := by simp
      rw [e7, e8]
      (conv => whnf); repeat ((first | refine RngK.mk (by omega) (by omega) ?_ | refine NzK.mk (by omega) ?_ | refine NnK.mk (by omega) ?_ | refine BdK.mk (by omega) (by omega) (by omega) ?_ | refine InsK.lit (by omega) (by omega) ?_ | refine SpK.lit ?_ | refine GrdK.same ?_ | refine GrdK.tf ?_ | refine GrdK.ft ?_ | refine PickK.t ?_ | refine PickK.f ?_); (conv => whnf))
      refine LdK.blk 0 rfl rfl rfl rfl ?_
      (conv => whnf); repeat ((first | refine RngK.mk (by omega) (by omega) ?_ | refine NzK.mk (by omega) ?_ | refine NnK.mk (by omega) ?_ | refine BdK.mk (by omega) (by omega) (by omega) ?_ | refine InsK.lit (by omega) (by omega) ?_ | refine SpK.lit ?_ | refine GrdK.same ?_ | refine GrdK.tf ?_ | refine GrdK.ft ?_ | refine PickK.t ?_ | refine PickK.f ?_); (conv => whnf))
      rw [e6]
      (conv => whnf); repeat ((first | refine RngK.mk (by omega) (by omega) ?_ | refine NzK.mk (by omega) ?_ | refine NnK.mk (by omega) ?_ | refine BdK.mk (by omega) (by omega) (by omega) ?_ | refine InsK.lit (by omega) (by omega) ?_ | refine SpK.lit ?_ | refine GrdK.same ?_ | refine GrdK.tf ?_ | refine GrdK.ft ?_ | refine PickK.t ?_ | refine PickK.f ?_); (conv => whnf))
      refine SpK.own hD ?_
      rw [Int.toNat_natCast, Int.toNat_natCast, Nat.sub_zero]
      (conv => whnf); repeat ((first | refine RngK.mk (by omega) (by omega) ?_ | refine NzK.mk (by omega) ?_ | refine NnK.mk (by omega) ?_ | refine BdK.mk (by omega) (by omega) (by omega) ?_ | refine InsK.lit (by omega) (by omega) ?_ | refine SpK.lit ?_ | refine GrdK.same ?_ | refine GrdK.tf ?_ | refine GrdK.ft ?_ | refine PickK.t ?_ | refine PickK.f ?_); (conv => whnf))
      refine EffK.append 2 (news := ((data.map vU8).drop (0 * 1)).take ((y + off - data.length) * 1)) rfl rfl rfl rfl rfl rfl rfl rfl (Src.ownCut (k := 1) rfl (by simp) rfl (by omega) hdc rfl) ?_ (by simp [maxLen]; omega) (by show (_ + _) * 1 ≤ _; simp; omega) fun A'' c'' => ?_
      · intro u hu
        exact vU8_one u (List.mem_of_mem_drop (List.mem_of_mem_take hu))
      have e9 : (xs ++ data.drop (x + off)).map vU8 ++ ((data.map vU8).drop (0 * 1)).take ((y + off - data.length) * 1) = (xs ++ sub (rot data off) x y).map vU8 := by
        rw [rot_b hy ho (by omega) (by omega), Nat.zero_mul, List.drop_zero, Nat.mul_one, ← List.append_assoc, List.map_append (l₁ := xs ++ data.drop (x + off)), List.map_take]
      have e10 : (xs ++ data.drop (x + off)).length + (y + off - data.length) = (xs ++ sub (rot data off) x y).length := by
        rw [rot_b hy ho (by omega) (by omega)]
        simp
        omega
      rw [e9, e10]
      (conv => whnf); repeat ((first | refine RngK.mk (by omega) (by omega) ?_ | refine NzK.mk (by omega) ?_ | refine NnK.mk (by omega) ?_ | refine BdK.mk (by omega) (by omega) (by omega) ?_ | refine InsK.lit (by omega) (by omega) ?_ | refine SpK.lit ?_ | refine GrdK.same ?_ | refine GrdK.tf ?_ | refine GrdK.ft ?_ | refine PickK.t ?_ | refine PickK.f ?_); (conv => whnf))
      exact ⟨_, HSub.of [2, 0, 0] rfl, A'', c'', rfl, rfl⟩
    · have h2 : ¬ ((y + off : Nat) : Int) > (data.length : Int) := dF h2
      (conv => whnf); repeat ((first | refine RngK.mk (by omega) (by omega) ?_ | refine NzK.mk (by omega) ?_ | refine NnK.mk (by omega) ?_ | refine BdK.mk (by omega) (by omega) (by omega) ?_ | refine InsK.lit (by omega) (by omega) ?_ | refine SpK.lit ?_ | refine GrdK.same ?_ | refine GrdK.tf ?_ | refine GrdK.ft ?_ | refine PickK.t ?_ | refine PickK.f ?_); (conv => whnf))
      refine Wp.cond rfl (fun h => by cases h) (fun _ => ?_)
      (conv => whnf); repeat ((first | refine RngK.mk (by omega) (by omega) ?_ | refine NzK.mk (by omega) ?_ | refine NnK.mk (by omega) ?_ | refine BdK.mk (by omega) (by omega) (by omega) ?_ | refine InsK.lit (by omega) (by omega) ?_ | refine SpK.lit ?_ | refine GrdK.same ?_ | refine GrdK.tf ?_ | refine GrdK.ft ?_ | refine PickK.t ?_ | refine PickK.f ?_); (conv => whnf))
      refine LdK.blk 0 rfl rfl rfl rfl ?_
      (conv => whnf); repeat ((first | refine RngK.mk (by omega) (by omega) ?_ | refine NzK.mk (by omega) ?_ | refine NnK.mk (by omega) ?_ | refine BdK.mk (by omega) (by omega) (by omega) ?_ | refine InsK.lit (by omega) (by omega) ?_ | refine SpK.lit ?_ | refine GrdK.same ?_ | refine GrdK.tf ?_ | refine GrdK.ft ?_ | refine PickK.t ?_ | refine PickK.f ?_); (conv => whnf))
      refine SpK.own hD ?_
      rw [Int.toNat_natCast, Int.toNat_natCast]
      (conv => whnf); repeat ((first | refine RngK.mk (by omega) (by omega) ?_ | refine NzK.mk (by omega) ?_ | refine NnK.mk (by omega) ?_ | refine BdK.mk (by omega) (by omega) (by omega) ?_ | refine InsK.lit (by omega) (by omega) ?_ | refine SpK.lit ?_ | refine GrdK.same ?_ | refine GrdK.tf ?_ | refine GrdK.ft ?_ | refine PickK.t ?_ | refine PickK.f ?_); (conv => whnf))
      refine EffK.append 2 (news := ((data.map vU8).drop ((x + off) * 1)).take ((y + off - (x + off)) * 1)) rfl rfl rfl rfl rfl rfl rfl rfl (Src.ownCut (k := 1) rfl (by simp) rfl (by omega) hdc rfl) ?_ (by simp [maxLen]; omega) (by show (_ + _) * 1 ≤ _; omega) fun A' c' => ?_
      · intro u hu
        exact vU8_one u (List.mem_of_mem_drop (List.mem_of_mem_take hu))
      have e7 : xs.map vU8 ++ ((data.map vU8).drop ((x + off) * 1)).take ((y + off - (x + off)) * 1) = (xs ++ sub (rot data off) x y).map vU8 := by
        rw [rot_a hxy (by omega), List.map_append, sub, List.map_take, List.map_drop, Nat.mul_one, Nat.mul_one]
      have e8 : xs.length + (y + off - (x + off)) = (xs ++ sub (rot data off) x y).length := by
        rw [rot_a hxy (by omega), List.length_append, sub_len _ (by omega) (by omega)]
      rw [e7, e8]
      (conv => whnf); repeat ((first | refine RngK.mk (by omega) (by omega) ?_ | refine NzK.mk (by omega) ?_ | refine NnK.mk (by omega) ?_ | refine BdK.mk (by omega) (by omega) (by omega) ?_ | refine InsK.lit (by omega) (by omega) ?_ | refine SpK.lit ?_ | refine GrdK.same ?_ | refine GrdK.tf ?_ | refine GrdK.ft ?_ | refine PickK.t ?_ | refine PickK.f ?_); (conv => whnf))
      exact ⟨_, HSub.of [2, 0, 0] rfl, A', c', rfl, rfl⟩
end Go.Proofs.YtkdfminibmdkgaaDoor
