/- The checksum's state: reset, update, digest. -/
import Derived.Test.YtnmejcgkgimgoaaHc
namespace Go.Proofs.Ytnmejcgkgimgoaa
open Go Go.Sx
/-- the cells of a state: the whole length, the accumulators, the buffered bytes, their number -/
def xh (n : Nat) (s : A4) (buf : List Value) (k : Nat) : List Value := vU64 (UInt64.ofNat n) :: (vs4 s ++ (buf ++ [vI k]))
def z32 : List Value := (List.replicate 32 (0 : UInt8)).map vU8
abbrev unit : Value := .tuple #[]
theorem reset_spec (b : Nat) : FnS Try.prog 30 [.pointer (some ⟨b, 0, none⟩)] [.blk b 48 (xh 0 ⟨0, 0, 0, 0⟩ z32 0)] (fun _ => True)
    (fun v H => v = unit ∧ H = [.blk b 48 (xh 0 acc0 z32 0)]) := by
  refine FnS.intro Try.func30 rfl (by kernel_rfl) rfl fun w hH _ => ?_
  (conv => whnf); repeat ((first | refine RngK.mk (by omega) (by omega) ?_ | refine NzK.mk (by omega) ?_ | refine NnK.mk (by omega) ?_ | refine BdK.mk (by omega) (by omega) (by omega) ?_ | refine InsK.lit (by omega) (by omega) ?_ | refine SpK.lit ?_ | refine GrdK.same ?_ | refine GrdK.tf ?_ | refine GrdK.ft ?_ | refine PickK.t ?_ | refine PickK.f ?_); (conv => whnf))
  refine StK.blk 0 rfl rfl rfl rfl rfl ?_
  (conv => whnf); repeat ((first | refine RngK.mk (by omega) (by omega) ?_ | refine NzK.mk (by omega) ?_ | refine NnK.mk (by omega) ?_ | refine BdK.mk (by omega) (by omega) (by omega) ?_ | refine InsK.lit (by omega) (by omega) ?_ | refine SpK.lit ?_ | refine GrdK.same ?_ | refine GrdK.tf ?_ | refine GrdK.ft ?_ | refine PickK.t ?_ | refine PickK.f ?_); (conv => whnf))
  refine StK.blk 0 rfl rfl rfl rfl rfl ?_
  (conv => whnf); repeat ((first | refine RngK.mk (by omega) (by omega) ?_ | refine NzK.mk (by omega) ?_ | refine NnK.mk (by omega) ?_ | refine BdK.mk (by omega) (by omega) (by omega) ?_ | refine InsK.lit (by omega) (by omega) ?_ | refine SpK.lit ?_ | refine GrdK.same ?_ | refine GrdK.tf ?_ | refine GrdK.ft ?_ | refine PickK.t ?_ | refine PickK.f ?_); (conv => whnf))
  refine DrwK.ord (by kernel_rfl) [0, 1, 2, 3, 4, 5, 6, 7, 8, 9] (by kernel_rfl) ?_; conv => whnf
  (conv => whnf); repeat ((first | refine RngK.mk (by omega) (by omega) ?_ | refine NzK.mk (by omega) ?_ | refine NnK.mk (by omega) ?_ | refine BdK.mk (by omega) (by omega) (by omega) ?_ | refine InsK.lit (by omega) (by omega) ?_ | refine SpK.lit ?_ | refine GrdK.same ?_ | refine GrdK.tf ?_ | refine GrdK.ft ?_ | refine PickK.t ?_ | refine PickK.f ?_); (conv => whnf))
  refine LdK.blk 0 rfl rfl rfl rfl ?_
  (conv => whnf); repeat ((first | refine RngK.mk (by omega) (by omega) ?_ | refine NzK.mk (by omega) ?_ | refine NnK.mk (by omega) ?_ | refine BdK.mk (by omega) (by omega) (by omega) ?_ | refine InsK.lit (by omega) (by omega) ?_ | refine SpK.lit ?_ | refine GrdK.same ?_ | refine GrdK.tf ?_ | refine GrdK.ft ?_ | refine PickK.t ?_ | refine PickK.f ?_); (conv => whnf))
  refine StK.blk 0 rfl rfl rfl rfl rfl ?_
  (conv => whnf); repeat ((first | refine RngK.mk (by omega) (by omega) ?_ | refine NzK.mk (by omega) ?_ | refine NnK.mk (by omega) ?_ | refine BdK.mk (by omega) (by omega) (by omega) ?_ | refine InsK.lit (by omega) (by omega) ?_ | refine SpK.lit ?_ | refine GrdK.same ?_ | refine GrdK.tf ?_ | refine GrdK.ft ?_ | refine PickK.t ?_ | refine PickK.f ?_); (conv => whnf))
  refine StK.blk 0 rfl rfl rfl rfl rfl ?_
  (conv => whnf); repeat ((first | refine RngK.mk (by omega) (by omega) ?_ | refine NzK.mk (by omega) ?_ | refine NnK.mk (by omega) ?_ | refine BdK.mk (by omega) (by omega) (by omega) ?_ | refine InsK.lit (by omega) (by omega) ?_ | refine SpK.lit ?_ | refine GrdK.same ?_ | refine GrdK.tf ?_ | refine GrdK.ft ?_ | refine PickK.t ?_ | refine PickK.f ?_); (conv => whnf))
  refine StK.blk 0 rfl rfl rfl rfl rfl ?_
  (conv => whnf); repeat ((first | refine RngK.mk (by omega) (by omega) ?_ | refine NzK.mk (by omega) ?_ | refine NnK.mk (by omega) ?_ | refine BdK.mk (by omega) (by omega) (by omega) ?_ | refine InsK.lit (by omega) (by omega) ?_ | refine SpK.lit ?_ | refine GrdK.same ?_ | refine GrdK.tf ?_ | refine GrdK.ft ?_ | refine PickK.t ?_ | refine PickK.f ?_); (conv => whnf))
  refine StK.blk 0 rfl rfl rfl rfl rfl ?_
  (conv => whnf); repeat ((first | refine RngK.mk (by omega) (by omega) ?_ | refine NzK.mk (by omega) ?_ | refine NnK.mk (by omega) ?_ | refine BdK.mk (by omega) (by omega) (by omega) ?_ | refine InsK.lit (by omega) (by omega) ?_ | refine SpK.lit ?_ | refine GrdK.same ?_ | refine GrdK.tf ?_ | refine GrdK.ft ?_ | refine PickK.t ?_ | refine PickK.f ?_); (conv => whnf))
  refine DrwK.ord (by kernel_rfl) [0, 1, 2, 3, 4, 5, 6, 7, 8, 9, 10] (by kernel_rfl) ?_; conv => whnf
  (conv => whnf); repeat ((first | refine RngK.mk (by omega) (by omega) ?_ | refine NzK.mk (by omega) ?_ | refine NnK.mk (by omega) ?_ | refine BdK.mk (by omega) (by omega) (by omega) ?_ | refine InsK.lit (by omega) (by omega) ?_ | refine SpK.lit ?_ | refine GrdK.same ?_ | refine GrdK.tf ?_ | refine GrdK.ft ?_ | refine PickK.t ?_ | refine PickK.f ?_); (conv => whnf))
  refine LdK.blk 0 rfl rfl rfl rfl ?_
  (conv => whnf); repeat ((first | refine RngK.mk (by omega) (by omega) ?_ | refine NzK.mk (by omega) ?_ | refine NnK.mk (by omega) ?_ | refine BdK.mk (by omega) (by omega) (by omega) ?_ | refine InsK.lit (by omega) (by omega) ?_ | refine SpK.lit ?_ | refine GrdK.same ?_ | refine GrdK.tf ?_ | refine GrdK.ft ?_ | refine PickK.t ?_ | refine PickK.f ?_); (conv => whnf))
  refine StK.blk 0 rfl rfl rfl rfl rfl ?_
  (conv => whnf); repeat ((first | refine RngK.mk (by omega) (by omega) ?_ | refine NzK.mk (by omega) ?_ | refine NnK.mk (by omega) ?_ | refine BdK.mk (by omega) (by omega) (by omega) ?_ | refine InsK.lit (by omega) (by omega) ?_ | refine SpK.lit ?_ | refine GrdK.same ?_ | refine GrdK.tf ?_ | refine GrdK.ft ?_ | refine PickK.t ?_ | refine PickK.f ?_); (conv => whnf))
  refine EffK.clearBlk 0 rfl rfl rfl rfl rfl (Nat.le_of_ble_eq_true rfl) (Nat.le_of_ble_eq_true rfl) ?_
  (conv => whnf); repeat ((first | refine RngK.mk (by omega) (by omega) ?_ | refine NzK.mk (by omega) ?_ | refine NnK.mk (by omega) ?_ | refine BdK.mk (by omega) (by omega) (by omega) ?_ | refine InsK.lit (by omega) (by omega) ?_ | refine SpK.lit ?_ | refine GrdK.same ?_ | refine GrdK.tf ?_ | refine GrdK.ft ?_ | refine PickK.t ?_ | refine PickK.f ?_); (conv => whnf))
  refine StK.blk 0 rfl rfl rfl rfl rfl ?_
  (conv => whnf); repeat ((first | refine RngK.mk (by omega) (by omega) ?_ | refine NzK.mk (by omega) ?_ | refine NnK.mk (by omega) ?_ | refine BdK.mk (by omega) (by omega) (by omega) ?_ | refine InsK.lit (by omega) (by omega) ?_ | refine SpK.lit ?_ | refine GrdK.same ?_ | refine GrdK.tf ?_ | refine GrdK.ft ?_ | refine PickK.t ?_ | refine PickK.f ?_); (conv => whnf))
  exact ⟨rfl, rfl⟩
theorem xh_len {n : Nat} {s : A4} {buf : List Value} {k : Nat} (hb : buf.length = 32) : (xh n s buf k).length = 38 := by
  simp [xh, vs4, hb]
theorem xh_cnt {n : Nat} {s : A4} {buf : List Value} {k : Nat} (hb : buf.length = 32) : (xh n s buf k)[37]? = some (vI k) := by
  simp [xh, vs4, hb]
theorem xh_set {n : Nat} {s : A4} {buf : List Value} {k : Nat} (hb : buf.length = 32) (j : Nat) : (xh n s buf k).set 37 (vI j) = xh n s buf j := by
  simp [xh, vs4, hb]
theorem xh_more (n m : Nat) (s : A4) (buf : List Value) (k : Nat) : (xh n s buf k).set 0 (.int .u64 (IntKind.u64.wrap (((UInt64.ofNat n).toNat : Int) + IntKind.u64.wrap (m : Int)))) = xh (n + m) s buf k := by
  show Value.int _ _ :: _ = Value.int _ _ :: _
  congr 2
  rw [UInt64.ofNat_add, w_add, w_len m]
theorem xh_buf {n : Nat} {s : A4} {buf : List Value} {k : Nat} (hb : buf.length = 32) {o m : Nat} (h : o + m ≤ 32) : ((xh n s buf k).drop (5 + o)).take m = (buf.drop o).take m := by
  have e : xh n s buf k = (vU64 (UInt64.ofNat n) :: vs4 s) ++ (buf ++ [vI k]) := rfl
  rw [e, List.drop_append, List.drop_of_length_le (by simp [vs4])]
  have e2 : 5 + o - (vU64 (UInt64.ofNat n) :: vs4 s).length = o := by simp [vs4]
  rw [e2, List.nil_append, List.drop_append_of_le_length (by omega), List.take_append_of_le_length (by rw [List.length_drop]; omega)]
theorem xh_copy {n : Nat} {s : A4} {buf : List Value} {k : Nat} (hb : buf.length = 32) {o q : Nat} (h : o + q ≤ 32) (news : List Value) :
    (xh n s buf k).take (5 + o) ++ news ++ (xh n s buf k).drop (5 + o + q) = xh n s (buf.take o ++ news ++ buf.drop (o + q)) k := by
  have e : ∀ buf, xh n s buf k = (vU64 (UInt64.ofNat n) :: vs4 s) ++ (buf ++ [vI k]) := fun _ => rfl
  have e2 : (vU64 (UInt64.ofNat n) :: vs4 s).length = 5 := rfl
  rw [e, e, List.take_append, List.drop_append, List.take_of_length_le (by omega), List.drop_of_length_le (by omega), e2, Nat.add_sub_cancel_left, Nat.add_assoc, Nat.add_sub_cancel_left,
    List.take_append_of_le_length (by omega), List.drop_append_of_le_length (by omega)]
  simp [List.append_assoc]
theorem bufBytes {w0 w : World} {W : Nat → Prop} {b n : Nat} {T : TypeId} {s : A4} {buf : List Value} {k : Nat} (hw : HInv w0 W ([] ++ [.blk b T (xh n s buf k)]) w) (hb : buf.length = 32) {o m : Nat} (h : o + m ≤ 32) {bs : List UInt8}
    (he : (buf.drop o).take m = bs.map vU8) {c : Nat} (hmc : m ≤ c) (hc : c ≤ 32) : Bytes w (blocks []) (some ⟨b, 5 + o, none⟩) m c bs := by
  have := Rd.ofBlk hw 0 (b := b) (o := 5 + o) (T := T) (cs := xh n s buf k) (m := m) (sz := 1) rfl (by rw [xh_len hb]; omega)
  rw [Nat.mul_one, xh_buf hb h, he] at this
  exact ⟨this, hmc, by simp [maxLen]; omega, fun _ a ha => by injection ha with ha; subst ha; rfl⟩
/-- the state behind the bytes `all` -/
def Good (b : Nat) (T : TypeId) (all : List UInt8) (H : Hp) : Prop :=
  ∃ bb : List UInt8, bb.length = 32 ∧ bb.take (all.length % 32) = tl all ∧ H = [.blk b T (xh all.length (lanes acc0 all) (bb.map vU8) (all.length % 32))]
theorem update_spec (b : Nat) (A : Option Addr) (c : Nat) (bs all : List UInt8) (bb : List UInt8) (hb0 : bb.length = 32) (ht0 : bb.take (all.length % 32) = tl all) (hn : bs.length < 2 ^ 31) :
    FnS Try.prog 31 [.pointer (some ⟨b, 0, none⟩), .slice A bs.length c] [.blk b 48 (xh all.length (lanes acc0 all) (bb.map vU8) (all.length % 32))]
      (fun w => Bytes w (blocks [.blk b 48 (xh all.length (lanes acc0 all) (bb.map vU8) (all.length % 32))]) A bs.length c bs) (fun v H => v = unit ∧ Good b 48 (all ++ bs) H) := by
  refine FnS.intro Try.func31 rfl (by kernel_rfl) rfl fun w hH hp => ?_
  have hb : (bb.map vU8).length = 32 := by simpa using hb0
  have htl : (bb.map vU8).take (all.length % 32) = (tl all).map vU8 := by rw [← List.map_take, ht0]
  generalize hbuf : bb.map vU8 = buf at *
  have hk : all.length % 32 < 32 := Nat.mod_lt _ (by omega)
  have hkt : (tl all).length = all.length % 32 := tl_len all
  generalize hcnt : all.length % 32 = k at *
  have hcl := hp.le
  (conv => whnf); repeat ((first | refine RngK.mk (by omega) (by omega) ?_ | refine NzK.mk (by omega) ?_ | refine NnK.mk (by omega) ?_ | refine BdK.mk (by omega) (by omega) (by omega) ?_ | refine InsK.lit (by omega) (by omega) ?_ | refine SpK.lit ?_ | refine GrdK.same ?_ | refine GrdK.tf ?_ | refine GrdK.ft ?_ | refine PickK.t ?_ | refine PickK.f ?_); (conv => whnf))
  refine LdK.blk 0 rfl rfl rfl rfl ?_
  (conv => whnf); repeat ((first | refine RngK.mk (by omega) (by omega) ?_ | refine NzK.mk (by omega) ?_ | refine NnK.mk (by omega) ?_ | refine BdK.mk (by omega) (by omega) (by omega) ?_ | refine InsK.lit (by omega) (by omega) ?_ | refine SpK.lit ?_ | refine GrdK.same ?_ | refine GrdK.tf ?_ | refine GrdK.ft ?_ | refine PickK.t ?_ | refine PickK.f ?_); (conv => whnf))
  refine StK.blkE 0 _ rfl rfl rfl rfl (by rw [xh_len hb]; omega) (xh_more _ _ _ _ _) ?_
  (conv => whnf); repeat ((first | refine RngK.mk (by omega) (by omega) ?_ | refine NzK.mk (by omega) ?_ | refine NnK.mk (by omega) ?_ | refine BdK.mk (by omega) (by omega) (by omega) ?_ | refine InsK.lit (by omega) (by omega) ?_ | refine SpK.lit ?_ | refine GrdK.same ?_ | refine GrdK.tf ?_ | refine GrdK.ft ?_ | refine PickK.t ?_ | refine PickK.f ?_); (conv => whnf))
  refine LdK.blk 0 rfl rfl rfl (xh_cnt hb) ?_
  (conv => whnf); repeat ((first | refine RngK.mk (by omega) (by omega) ?_ | refine NzK.mk (by omega) ?_ | refine NnK.mk (by omega) ?_ | refine BdK.mk (by omega) (by omega) (by omega) ?_ | refine InsK.lit (by omega) (by omega) ?_ | refine SpK.lit ?_ | refine GrdK.same ?_ | refine GrdK.tf ?_ | refine GrdK.ft ?_ | refine PickK.t ?_ | refine PickK.f ?_); (conv => whnf))
  refine Wp.cond rfl (fun h => ?_) (fun h => ?_)
  · have h := dT h
    (conv => whnf); repeat ((first | refine RngK.mk (by omega) (by omega) ?_ | refine NzK.mk (by omega) ?_ | refine NnK.mk (by omega) ?_ | refine BdK.mk (by omega) (by omega) (by omega) ?_ | refine InsK.lit (by omega) (by omega) ?_ | refine SpK.lit ?_ | refine GrdK.same ?_ | refine GrdK.tf ?_ | refine GrdK.ft ?_ | refine PickK.t ?_ | refine PickK.f ?_); (conv => whnf))
    refine DrwK.ord (by kernel_rfl) [0, 1, 2, 3, 4, 5, 6, 7, 8, 9] (by kernel_rfl) ?_; conv => whnf
    (conv => whnf); repeat ((first | refine RngK.mk (by omega) (by omega) ?_ | refine NzK.mk (by omega) ?_ | refine NnK.mk (by omega) ?_ | refine BdK.mk (by omega) (by omega) (by omega) ?_ | refine InsK.lit (by omega) (by omega) ?_ | refine SpK.lit ?_ | refine GrdK.same ?_ | refine GrdK.tf ?_ | refine GrdK.ft ?_ | refine PickK.t ?_ | refine PickK.f ?_); (conv => whnf))
    refine LdK.blk 0 rfl rfl rfl (xh_cnt hb) ?_
    (conv => whnf); repeat ((first | refine RngK.mk (by omega) (by omega) ?_ | refine NzK.mk (by omega) ?_ | refine NnK.mk (by omega) ?_ | refine BdK.mk (by omega) (by omega) (by omega) ?_ | refine InsK.lit (by omega) (by omega) ?_ | refine SpK.lit ?_ | refine GrdK.same ?_ | refine GrdK.tf ?_ | refine GrdK.ft ?_ | refine PickK.t ?_ | refine PickK.f ?_); (conv => whnf))
    have hl' : (buf.take k ++ bs.map vU8 ++ buf.drop (k + bs.length)).length = 32 := by
      simp only [List.length_append, List.length_take, List.length_map, List.length_drop]; omega
    refine EffK.copyBlkE 0 bs.length (5 + k) _ (cutA_lt (l := k) hk) rfl rfl rfl rfl (by omega) (Src.rd hp.rd) vU8_one (by rw [xh_len hb]; omega) (xh_copy hb (by omega) _) ?_
    (conv => whnf); repeat ((first | refine RngK.mk (by omega) (by omega) ?_ | refine NzK.mk (by omega) ?_ | refine NnK.mk (by omega) ?_ | refine BdK.mk (by omega) (by omega) (by omega) ?_ | refine InsK.lit (by omega) (by omega) ?_ | refine SpK.lit ?_ | refine GrdK.same ?_ | refine GrdK.tf ?_ | refine GrdK.ft ?_ | refine PickK.t ?_ | refine PickK.f ?_); (conv => whnf))
    refine LdK.blk 0 rfl rfl rfl (xh_cnt hl') ?_
    (conv => whnf); repeat ((first | refine RngK.mk (by omega) (by omega) ?_ | refine NzK.mk (by omega) ?_ | refine NnK.mk (by omega) ?_ | refine BdK.mk (by omega) (by omega) (by omega) ?_ | refine InsK.lit (by omega) (by omega) ?_ | refine SpK.lit ?_ | refine GrdK.same ?_ | refine GrdK.tf ?_ | refine GrdK.ft ?_ | refine PickK.t ?_ | refine PickK.f ?_); (conv => whnf))
    refine StK.blkE 0 _ rfl rfl rfl rfl (by rw [xh_len hl']; omega) (xh_set hl' (k + bs.length)) ?_
    (conv => whnf); repeat ((first | refine RngK.mk (by omega) (by omega) ?_ | refine NzK.mk (by omega) ?_ | refine NnK.mk (by omega) ?_ | refine BdK.mk (by omega) (by omega) (by omega) ?_ | refine InsK.lit (by omega) (by omega) ?_ | refine SpK.lit ?_ | refine GrdK.same ?_ | refine GrdK.tf ?_ | refine GrdK.ft ?_ | refine PickK.t ?_ | refine PickK.f ?_); (conv => whnf))
    have hlen : (all ++ bs).length = all.length + bs.length := List.length_append
    have hm : (all ++ bs).length % 32 = k + bs.length := by omega
    have e1 : tl (all ++ bs) = tl all ++ bs := by
      rw [tl_more, tl_short (by rw [List.length_append]; omega)]
    have e2 : lanes acc0 (all ++ bs) = lanes acc0 all := by
      rw [lanes_more, lanes_short _ (by rw [List.length_append]; omega)]
    refine ⟨rfl, bb.take k ++ bs ++ bb.drop (k + bs.length), ?_, ?_, ?_⟩
    · simp only [List.length_append, List.length_take, List.length_drop]; omega
    · rw [hm, e1, ← ht0, List.take_append_of_le_length (by simp; omega), List.take_of_length_le (by simp; omega)]
    · rw [hm, e2, hlen, ← hbuf, List.map_append, List.map_append, List.map_take, List.map_drop]
  · have h := dF h
    (conv => whnf); repeat ((first | refine RngK.mk (by omega) (by omega) ?_ | refine NzK.mk (by omega) ?_ | refine NnK.mk (by omega) ?_ | refine BdK.mk (by omega) (by omega) (by omega) ?_ | refine InsK.lit (by omega) (by omega) ?_ | refine SpK.lit ?_ | refine GrdK.same ?_ | refine GrdK.tf ?_ | refine GrdK.ft ?_ | refine PickK.t ?_ | refine PickK.f ?_); (conv => whnf))
    refine LdK.blk 0 rfl rfl rfl (xh_cnt hb) ?_
    (conv => whnf); repeat ((first | refine RngK.mk (by omega) (by omega) ?_ | refine NzK.mk (by omega) ?_ | refine NnK.mk (by omega) ?_ | refine BdK.mk (by omega) (by omega) (by omega) ?_ | refine InsK.lit (by omega) (by omega) ?_ | refine SpK.lit ?_ | refine GrdK.same ?_ | refine GrdK.tf ?_ | refine GrdK.ft ?_ | refine PickK.t ?_ | refine PickK.f ?_); (conv => whnf))
    refine Wp.cut (fun s : Option Addr × Nat × List UInt8 × A4 × List UInt8 => [(0, .pointer (some ⟨b, 0, none⟩)), (1, .slice s.1 s.2.2.1.length s.2.1)]) (fun s => [.blk b 48 (xh (all.length + bs.length) s.2.2.2.1 (s.2.2.2.2.map vU8) 0)])
      (fun s => Bytes w (blocks [.blk b 48 (xh all.length (lanes acc0 all) buf k)]) s.1 s.2.2.1.length s.2.1 s.2.2.1 ∧ s.2.2.1.length < 2 ^ 31 ∧ lanes s.2.2.2.1 s.2.2.1 = lanes acc0 (all ++ bs) ∧ tl s.2.2.1 = tl (all ++ bs) ∧ s.2.2.2.2.length = 32) ?_
      fun ⟨A, c, r, s, bb'⟩ ⟨hp, hn, hs, ht, hb'⟩ => ?_
    · refine Wp.cond rfl (fun h2 => ?_) (fun h2 => ?_)
      · have h2 := dT h2
        (conv => whnf); repeat ((first | refine RngK.mk (by omega) (by omega) ?_ | refine NzK.mk (by omega) ?_ | refine NnK.mk (by omega) ?_ | refine BdK.mk (by omega) (by omega) (by omega) ?_ | refine InsK.lit (by omega) (by omega) ?_ | refine SpK.lit ?_ | refine GrdK.same ?_ | refine GrdK.tf ?_ | refine GrdK.ft ?_ | refine PickK.t ?_ | refine PickK.f ?_); (conv => whnf))
        refine DrwK.ord (by kernel_rfl) [0, 1, 2, 3, 4, 5, 6, 7, 8, 9, 10] (by kernel_rfl) ?_; conv => whnf
        (conv => whnf); repeat ((first | refine RngK.mk (by omega) (by omega) ?_ | refine NzK.mk (by omega) ?_ | refine NnK.mk (by omega) ?_ | refine BdK.mk (by omega) (by omega) (by omega) ?_ | refine InsK.lit (by omega) (by omega) ?_ | refine SpK.lit ?_ | refine GrdK.same ?_ | refine GrdK.tf ?_ | refine GrdK.ft ?_ | refine PickK.t ?_ | refine PickK.f ?_); (conv => whnf))
        refine LdK.blk 0 rfl rfl rfl (xh_cnt hb) ?_
        (conv => whnf); repeat ((first | refine RngK.mk (by omega) (by omega) ?_ | refine NzK.mk (by omega) ?_ | refine NnK.mk (by omega) ?_ | refine BdK.mk (by omega) (by omega) (by omega) ?_ | refine InsK.lit (by omega) (by omega) ?_ | refine SpK.lit ?_ | refine GrdK.same ?_ | refine GrdK.tf ?_ | refine GrdK.ft ?_ | refine PickK.t ?_ | refine PickK.f ?_); (conv => whnf))
        generalize hblk : tl all ++ bs.take (32 - k) = blk
        have hbl : blk.length = 32 := by rw [← hblk]; simp; omega
        refine EffK.copyBlkE (news := (bs.take (32 - k)).map vU8) 0 (32 - k) (5 + k) (xh (all.length + bs.length) (lanes acc0 all) (blk.map vU8) k) (cutA_lt (l := k) hk) rfl rfl rfl rfl (by omega) ?_ vU8_one (by rw [xh_len hb]; omega) ?_ ?_
        · have := Src.rd (H := [.blk b 48 (xh (all.length + bs.length) (lanes acc0 all) buf k)]) (hp.rd.take (m' := 32 - k) (by omega))
          rw [Nat.mul_one, ← List.map_take] at this
          exact this
        · rw [xh_copy hb (by omega), ← hblk, List.map_append, ← htl, List.drop_of_length_le (by omega), List.append_nil]
        · have hbm : (blk.map vU8).length = 32 := by simpa using hbl
          have e1 : tl all ++ bs = blk ++ bs.drop (32 - k) := by rw [← hblk, List.append_assoc, List.take_append_drop]
          have e5 : (blk ++ bs.drop (32 - k)).drop 32 = bs.drop (32 - k) := by rw [← hbl, List.drop_left]
          have e2 : lanes (stepA (lanes acc0 all) blk) (bs.drop (32 - k)) = lanes acc0 (all ++ bs) := by
            rw [lanes_more, e1, lanes_cons (lanes acc0 all) (bs := blk ++ bs.drop (32 - k)) (by simp; omega), stepA_app _ _ (by omega)]
            rw [e5]
          have e3 : tl (bs.drop (32 - k)) = tl (all ++ bs) := by
            rw [tl_more all bs, e1, tl_cons (bs := blk ++ bs.drop (32 - k)) (by simp; omega)]
            rw [e5]
          generalize lanes acc0 all = s0 at *
          (conv => whnf); repeat ((first | refine RngK.mk (by omega) (by omega) ?_ | refine NzK.mk (by omega) ?_ | refine NnK.mk (by omega) ?_ | refine BdK.mk (by omega) (by omega) (by omega) ?_ | refine InsK.lit (by omega) (by omega) ?_ | refine SpK.lit ?_ | refine GrdK.same ?_ | refine GrdK.tf ?_ | refine GrdK.ft ?_ | refine PickK.t ?_ | refine PickK.f ?_); (conv => whnf))
          refine KfK.of (LdK.blk 0 rfl rfl rfl (xh_cnt hbm) rfl) ?_
          (conv => whnf); repeat ((first | refine RngK.mk (by omega) (by omega) ?_ | refine NzK.mk (by omega) ?_ | refine NnK.mk (by omega) ?_ | refine BdK.mk (by omega) (by omega) (by omega) ?_ | refine InsK.lit (by omega) (by omega) ?_ | refine SpK.lit ?_ | refine GrdK.same ?_ | refine GrdK.tf ?_ | refine GrdK.ft ?_ | refine PickK.t ?_ | refine PickK.f ?_); (conv => whnf))
          have e4 : (((32 - k : Nat) : Int)).toNat = 32 - k := by omega
          rw [e4]
          refine hp.sp (l := 32 - k) (by omega) ?_
          (conv => whnf); repeat ((first | refine RngK.mk (by omega) (by omega) ?_ | refine NzK.mk (by omega) ?_ | refine NnK.mk (by omega) ?_ | refine BdK.mk (by omega) (by omega) (by omega) ?_ | refine InsK.lit (by omega) (by omega) ?_ | refine SpK.lit ?_ | refine GrdK.same ?_ | refine GrdK.tf ?_ | refine GrdK.ft ?_ | refine PickK.t ?_ | refine PickK.f ?_); (conv => whnf))
          refine DrwK.ord (by kernel_rfl) [0, 1, 2, 3, 4, 5, 6, 7, 8, 9, 10, 13, 14, 11, 12, 15, 16] (by kernel_rfl) ?_; conv => whnf
          (conv => whnf); repeat ((first | refine RngK.mk (by omega) (by omega) ?_ | refine NzK.mk (by omega) ?_ | refine NnK.mk (by omega) ?_ | refine BdK.mk (by omega) (by omega) (by omega) ?_ | refine InsK.lit (by omega) (by omega) ?_ | refine SpK.lit ?_ | refine GrdK.same ?_ | refine GrdK.tf ?_ | refine GrdK.ft ?_ | refine PickK.t ?_ | refine PickK.f ?_); (conv => whnf))
          refine LdK.blk 0 rfl rfl rfl rfl ?_
          (conv => whnf); repeat ((first | refine RngK.mk (by omega) (by omega) ?_ | refine NzK.mk (by omega) ?_ | refine NnK.mk (by omega) ?_ | refine BdK.mk (by omega) (by omega) (by omega) ?_ | refine InsK.lit (by omega) (by omega) ?_ | refine SpK.lit ?_ | refine GrdK.same ?_ | refine GrdK.tf ?_ | refine GrdK.ft ?_ | refine PickK.t ?_ | refine PickK.f ?_); (conv => whnf))
          refine CallK.cast [.slice (some ⟨b, 5 + 0, none⟩) 32 32] rfl ?_
          refine CallK.of [] (le64_spec (some ⟨b, 5 + 0, none⟩) 32 32 (blk.drop 0) (by omega)) rfl (fun w hw => bufBytes (s := ⟨s0.a, s0.b, s0.c, s0.d⟩) (k := k) hw hbm (o := 0) (m := 32) (by omega) (by rw [← List.map_drop, List.take_of_length_le (by simp; omega)]) (by omega) (by omega)) ?_
          rintro _ _ ⟨rfl, rfl⟩
          (conv => whnf); repeat ((first | refine RngK.mk (by omega) (by omega) ?_ | refine NzK.mk (by omega) ?_ | refine NnK.mk (by omega) ?_ | refine BdK.mk (by omega) (by omega) (by omega) ?_ | refine InsK.lit (by omega) (by omega) ?_ | refine SpK.lit ?_ | refine GrdK.same ?_ | refine GrdK.tf ?_ | refine GrdK.ft ?_ | refine PickK.t ?_ | refine PickK.f ?_); (conv => whnf))
          refine KfK.of (LdK.blk 0 rfl rfl rfl rfl rfl) ?_
          (conv => whnf); repeat ((first | refine RngK.mk (by omega) (by omega) ?_ | refine NzK.mk (by omega) ?_ | refine NnK.mk (by omega) ?_ | refine BdK.mk (by omega) (by omega) (by omega) ?_ | refine InsK.lit (by omega) (by omega) ?_ | refine SpK.lit ?_ | refine GrdK.same ?_ | refine GrdK.tf ?_ | refine GrdK.ft ?_ | refine PickK.t ?_ | refine PickK.f ?_); (conv => whnf))
          refine CallK.of0 (zround_spec _ s0.a (num8 blk)) ?_
          rintro _ _ ⟨rfl, rfl⟩
          (conv => whnf); repeat ((first | refine RngK.mk (by omega) (by omega) ?_ | refine NzK.mk (by omega) ?_ | refine NnK.mk (by omega) ?_ | refine BdK.mk (by omega) (by omega) (by omega) ?_ | refine InsK.lit (by omega) (by omega) ?_ | refine SpK.lit ?_ | refine GrdK.same ?_ | refine GrdK.tf ?_ | refine GrdK.ft ?_ | refine PickK.t ?_ | refine PickK.f ?_); (conv => whnf))
          refine KfK.of (LdK.blk 0 rfl rfl rfl rfl rfl) ?_
          (conv => whnf); repeat ((first | refine RngK.mk (by omega) (by omega) ?_ | refine NzK.mk (by omega) ?_ | refine NnK.mk (by omega) ?_ | refine BdK.mk (by omega) (by omega) (by omega) ?_ | refine InsK.lit (by omega) (by omega) ?_ | refine SpK.lit ?_ | refine GrdK.same ?_ | refine GrdK.tf ?_ | refine GrdK.ft ?_ | refine PickK.t ?_ | refine PickK.f ?_); (conv => whnf))
          refine StK.blkE 0 (xh (all.length + bs.length) ⟨roundU s0.a (num8 blk), s0.b, s0.c, s0.d⟩ (blk.map vU8) k) rfl rfl rfl rfl (by rw [xh_len hbm]; exact Nat.le_of_ble_eq_true rfl) rfl ?_
          (conv => whnf); repeat ((first | refine RngK.mk (by omega) (by omega) ?_ | refine NzK.mk (by omega) ?_ | refine NnK.mk (by omega) ?_ | refine BdK.mk (by omega) (by omega) (by omega) ?_ | refine InsK.lit (by omega) (by omega) ?_ | refine SpK.lit ?_ | refine GrdK.same ?_ | refine GrdK.tf ?_ | refine GrdK.ft ?_ | refine PickK.t ?_ | refine PickK.f ?_); (conv => whnf))
          refine DrwK.ord (by kernel_rfl) [0, 1, 2, 3, 4, 5, 6, 7, 8, 9, 10, 13, 14, 11, 12, 15, 16] (by kernel_rfl) ?_; conv => whnf
          (conv => whnf); repeat ((first | refine RngK.mk (by omega) (by omega) ?_ | refine NzK.mk (by omega) ?_ | refine NnK.mk (by omega) ?_ | refine BdK.mk (by omega) (by omega) (by omega) ?_ | refine InsK.lit (by omega) (by omega) ?_ | refine SpK.lit ?_ | refine GrdK.same ?_ | refine GrdK.tf ?_ | refine GrdK.ft ?_ | refine PickK.t ?_ | refine PickK.f ?_); (conv => whnf))
          refine LdK.blk 0 rfl rfl rfl rfl ?_
          (conv => whnf); repeat ((first | refine RngK.mk (by omega) (by omega) ?_ | refine NzK.mk (by omega) ?_ | refine NnK.mk (by omega) ?_ | refine BdK.mk (by omega) (by omega) (by omega) ?_ | refine InsK.lit (by omega) (by omega) ?_ | refine SpK.lit ?_ | refine GrdK.same ?_ | refine GrdK.tf ?_ | refine GrdK.ft ?_ | refine PickK.t ?_ | refine PickK.f ?_); (conv => whnf))
          refine CallK.cast [.slice (some ⟨b, 5 + 8, none⟩) 24 24] rfl ?_
          refine CallK.of [] (le64_spec (some ⟨b, 5 + 8, none⟩) 24 24 (blk.drop 8) (by omega)) rfl (fun w hw => bufBytes (s := ⟨roundU s0.a (num8 blk), s0.b, s0.c, s0.d⟩) (k := k) hw hbm (o := 8) (m := 24) (by omega) (by rw [← List.map_drop, List.take_of_length_le (by simp; omega)]) (by omega) (by omega)) ?_
          rintro _ _ ⟨rfl, rfl⟩
          (conv => whnf); repeat ((first | refine RngK.mk (by omega) (by omega) ?_ | refine NzK.mk (by omega) ?_ | refine NnK.mk (by omega) ?_ | refine BdK.mk (by omega) (by omega) (by omega) ?_ | refine InsK.lit (by omega) (by omega) ?_ | refine SpK.lit ?_ | refine GrdK.same ?_ | refine GrdK.tf ?_ | refine GrdK.ft ?_ | refine PickK.t ?_ | refine PickK.f ?_); (conv => whnf))
          refine KfK.of (LdK.blk 0 rfl rfl rfl rfl rfl) ?_
          (conv => whnf); repeat ((first | refine RngK.mk (by omega) (by omega) ?_ | refine NzK.mk (by omega) ?_ | refine NnK.mk (by omega) ?_ | refine BdK.mk (by omega) (by omega) (by omega) ?_ | refine InsK.lit (by omega) (by omega) ?_ | refine SpK.lit ?_ | refine GrdK.same ?_ | refine GrdK.tf ?_ | refine GrdK.ft ?_ | refine PickK.t ?_ | refine PickK.f ?_); (conv => whnf))
          refine CallK.of0 (zround_spec _ s0.b (num8 (blk.drop 8))) ?_
          rintro _ _ ⟨rfl, rfl⟩
          (conv => whnf); repeat ((first | refine RngK.mk (by omega) (by omega) ?_ | refine NzK.mk (by omega) ?_ | refine NnK.mk (by omega) ?_ | refine BdK.mk (by omega) (by omega) (by omega) ?_ | refine InsK.lit (by omega) (by omega) ?_ | refine SpK.lit ?_ | refine GrdK.same ?_ | refine GrdK.tf ?_ | refine GrdK.ft ?_ | refine PickK.t ?_ | refine PickK.f ?_); (conv => whnf))
          refine KfK.of (LdK.blk 0 rfl rfl rfl rfl rfl) ?_
          (conv => whnf); repeat ((first | refine RngK.mk (by omega) (by omega) ?_ | refine NzK.mk (by omega) ?_ | refine NnK.mk (by omega) ?_ | refine BdK.mk (by omega) (by omega) (by omega) ?_ | refine InsK.lit (by omega) (by omega) ?_ | refine SpK.lit ?_ | refine GrdK.same ?_ | refine GrdK.tf ?_ | refine GrdK.ft ?_ | refine PickK.t ?_ | refine PickK.f ?_); (conv => whnf))
          refine StK.blkE 0 (xh (all.length + bs.length) ⟨roundU s0.a (num8 blk), roundU s0.b (num8 (blk.drop 8)), s0.c, s0.d⟩ (blk.map vU8) k) rfl rfl rfl rfl (by rw [xh_len hbm]; exact Nat.le_of_ble_eq_true rfl) rfl ?_
          (conv => whnf); repeat ((first | refine RngK.mk (by omega) (by omega) ?_ | refine NzK.mk (by omega) ?_ | refine NnK.mk (by omega) ?_ | refine BdK.mk (by omega) (by omega) (by omega) ?_ | refine InsK.lit (by omega) (by omega) ?_ | refine SpK.lit ?_ | refine GrdK.same ?_ | refine GrdK.tf ?_ | refine GrdK.ft ?_ | refine PickK.t ?_ | refine PickK.f ?_); (conv => whnf))
          refine DrwK.ord (by kernel_rfl) [0, 1, 2, 3, 4, 5, 6, 7, 8, 9, 10, 13, 14, 11, 12, 15, 16] (by kernel_rfl) ?_; conv => whnf
          (conv => whnf); repeat ((first | refine RngK.mk (by omega) (by omega) ?_ | refine NzK.mk (by omega) ?_ | refine NnK.mk (by omega) ?_ | refine BdK.mk (by omega) (by omega) (by omega) ?_ | refine InsK.lit (by omega) (by omega) ?_ | refine SpK.lit ?_ | refine GrdK.same ?_ | refine GrdK.tf ?_ | refine GrdK.ft ?_ | refine PickK.t ?_ | refine PickK.f ?_); (conv => whnf))
          refine LdK.blk 0 rfl rfl rfl rfl ?_
          (conv => whnf); repeat ((first | refine RngK.mk (by omega) (by omega) ?_ | refine NzK.mk (by omega) ?_ | refine NnK.mk (by omega) ?_ | refine BdK.mk (by omega) (by omega) (by omega) ?_ | refine InsK.lit (by omega) (by omega) ?_ | refine SpK.lit ?_ | refine GrdK.same ?_ | refine GrdK.tf ?_ | refine GrdK.ft ?_ | refine PickK.t ?_ | refine PickK.f ?_); (conv => whnf))
          refine CallK.cast [.slice (some ⟨b, 5 + 16, none⟩) 16 16] rfl ?_
          refine CallK.of [] (le64_spec (some ⟨b, 5 + 16, none⟩) 16 16 (blk.drop 16) (by omega)) rfl (fun w hw => bufBytes (s := ⟨roundU s0.a (num8 blk), roundU s0.b (num8 (blk.drop 8)), s0.c, s0.d⟩) (k := k) hw hbm (o := 16) (m := 16) (by omega) (by rw [← List.map_drop, List.take_of_length_le (by simp; omega)]) (by omega) (by omega)) ?_
          rintro _ _ ⟨rfl, rfl⟩
          (conv => whnf); repeat ((first | refine RngK.mk (by omega) (by omega) ?_ | refine NzK.mk (by omega) ?_ | refine NnK.mk (by omega) ?_ | refine BdK.mk (by omega) (by omega) (by omega) ?_ | refine InsK.lit (by omega) (by omega) ?_ | refine SpK.lit ?_ | refine GrdK.same ?_ | refine GrdK.tf ?_ | refine GrdK.ft ?_ | refine PickK.t ?_ | refine PickK.f ?_); (conv => whnf))
          refine KfK.of (LdK.blk 0 rfl rfl rfl rfl rfl) ?_
          (conv => whnf); repeat ((first | refine RngK.mk (by omega) (by omega) ?_ | refine NzK.mk (by omega) ?_ | refine NnK.mk (by omega) ?_ | refine BdK.mk (by omega) (by omega) (by omega) ?_ | refine InsK.lit (by omega) (by omega) ?_ | refine SpK.lit ?_ | refine GrdK.same ?_ | refine GrdK.tf ?_ | refine GrdK.ft ?_ | refine PickK.t ?_ | refine PickK.f ?_); (conv => whnf))
          refine CallK.of0 (zround_spec _ s0.c (num8 (blk.drop 16))) ?_
          rintro _ _ ⟨rfl, rfl⟩
          (conv => whnf); repeat ((first | refine RngK.mk (by omega) (by omega) ?_ | refine NzK.mk (by omega) ?_ | refine NnK.mk (by omega) ?_ | refine BdK.mk (by omega) (by omega) (by omega) ?_ | refine InsK.lit (by omega) (by omega) ?_ | refine SpK.lit ?_ | refine GrdK.same ?_ | refine GrdK.tf ?_ | refine GrdK.ft ?_ | refine PickK.t ?_ | refine PickK.f ?_); (conv => whnf))
          refine KfK.of (LdK.blk 0 rfl rfl rfl rfl rfl) ?_
          (conv => whnf); repeat ((first | refine RngK.mk (by omega) (by omega) ?_ | refine NzK.mk (by omega) ?_ | refine NnK.mk (by omega) ?_ | refine BdK.mk (by omega) (by omega) (by omega) ?_ | refine InsK.lit (by omega) (by omega) ?_ | refine SpK.lit ?_ | refine GrdK.same ?_ | refine GrdK.tf ?_ | refine GrdK.ft ?_ | refine PickK.t ?_ | refine PickK.f ?_); (conv => whnf))
          refine StK.blkE 0 (xh (all.length + bs.length) ⟨roundU s0.a (num8 blk), roundU s0.b (num8 (blk.drop 8)), roundU s0.c (num8 (blk.drop 16)), s0.d⟩ (blk.map vU8) k) rfl rfl rfl rfl (by rw [xh_len hbm]; exact Nat.le_of_ble_eq_true rfl) rfl ?_
          (conv => whnf); repeat ((first | refine RngK.mk (by omega) (by omega) ?_ | refine NzK.mk (by omega) ?_ | refine NnK.mk (by omega) ?_ | refine BdK.mk (by omega) (by omega) (by omega) ?_ | refine InsK.lit (by omega) (by omega) ?_ | refine SpK.lit ?_ | refine GrdK.same ?_ | refine GrdK.tf ?_ | refine GrdK.ft ?_ | refine PickK.t ?_ | refine PickK.f ?_); (conv => whnf))
          refine DrwK.ord (by kernel_rfl) [0, 1, 2, 3, 4, 5, 6, 7, 8, 9, 10, 13, 14, 11, 12, 15, 16] (by kernel_rfl) ?_; conv => whnf
          (conv => whnf); repeat ((first | refine RngK.mk (by omega) (by omega) ?_ | refine NzK.mk (by omega) ?_ | refine NnK.mk (by omega) ?_ | refine BdK.mk (by omega) (by omega) (by omega) ?_ | refine InsK.lit (by omega) (by omega) ?_ | refine SpK.lit ?_ | refine GrdK.same ?_ | refine GrdK.tf ?_ | refine GrdK.ft ?_ | refine PickK.t ?_ | refine PickK.f ?_); (conv => whnf))
          refine LdK.blk 0 rfl rfl rfl rfl ?_
          (conv => whnf); repeat ((first | refine RngK.mk (by omega) (by omega) ?_ | refine NzK.mk (by omega) ?_ | refine NnK.mk (by omega) ?_ | refine BdK.mk (by omega) (by omega) (by omega) ?_ | refine InsK.lit (by omega) (by omega) ?_ | refine SpK.lit ?_ | refine GrdK.same ?_ | refine GrdK.tf ?_ | refine GrdK.ft ?_ | refine PickK.t ?_ | refine PickK.f ?_); (conv => whnf))
          refine CallK.cast [.slice (some ⟨b, 5 + 24, none⟩) 8 8] rfl ?_
          refine CallK.of [] (le64_spec (some ⟨b, 5 + 24, none⟩) 8 8 (blk.drop 24) (by omega)) rfl (fun w hw => bufBytes (s := ⟨roundU s0.a (num8 blk), roundU s0.b (num8 (blk.drop 8)), roundU s0.c (num8 (blk.drop 16)), s0.d⟩) (k := k) hw hbm (o := 24) (m := 8) (by omega) (by rw [← List.map_drop, List.take_of_length_le (by simp; omega)]) (by omega) (by omega)) ?_
          rintro _ _ ⟨rfl, rfl⟩
          (conv => whnf); repeat ((first | refine RngK.mk (by omega) (by omega) ?_ | refine NzK.mk (by omega) ?_ | refine NnK.mk (by omega) ?_ | refine BdK.mk (by omega) (by omega) (by omega) ?_ | refine InsK.lit (by omega) (by omega) ?_ | refine SpK.lit ?_ | refine GrdK.same ?_ | refine GrdK.tf ?_ | refine GrdK.ft ?_ | refine PickK.t ?_ | refine PickK.f ?_); (conv => whnf))
          refine KfK.of (LdK.blk 0 rfl rfl rfl rfl rfl) ?_
          (conv => whnf); repeat ((first | refine RngK.mk (by omega) (by omega) ?_ | refine NzK.mk (by omega) ?_ | refine NnK.mk (by omega) ?_ | refine BdK.mk (by omega) (by omega) (by omega) ?_ | refine InsK.lit (by omega) (by omega) ?_ | refine SpK.lit ?_ | refine GrdK.same ?_ | refine GrdK.tf ?_ | refine GrdK.ft ?_ | refine PickK.t ?_ | refine PickK.f ?_); (conv => whnf))
          refine CallK.of0 (zround_spec _ s0.d (num8 (blk.drop 24))) ?_
          rintro _ _ ⟨rfl, rfl⟩
          (conv => whnf); repeat ((first | refine RngK.mk (by omega) (by omega) ?_ | refine NzK.mk (by omega) ?_ | refine NnK.mk (by omega) ?_ | refine BdK.mk (by omega) (by omega) (by omega) ?_ | refine InsK.lit (by omega) (by omega) ?_ | refine SpK.lit ?_ | refine GrdK.same ?_ | refine GrdK.tf ?_ | refine GrdK.ft ?_ | refine PickK.t ?_ | refine PickK.f ?_); (conv => whnf))
          refine KfK.of (LdK.blk 0 rfl rfl rfl rfl rfl) ?_
          (conv => whnf); repeat ((first | refine RngK.mk (by omega) (by omega) ?_ | refine NzK.mk (by omega) ?_ | refine NnK.mk (by omega) ?_ | refine BdK.mk (by omega) (by omega) (by omega) ?_ | refine InsK.lit (by omega) (by omega) ?_ | refine SpK.lit ?_ | refine GrdK.same ?_ | refine GrdK.tf ?_ | refine GrdK.ft ?_ | refine PickK.t ?_ | refine PickK.f ?_); (conv => whnf))
          refine StK.blkE 0 (xh (all.length + bs.length) ⟨roundU s0.a (num8 blk), roundU s0.b (num8 (blk.drop 8)), roundU s0.c (num8 (blk.drop 16)), roundU s0.d (num8 (blk.drop 24))⟩ (blk.map vU8) k) rfl rfl rfl rfl (by rw [xh_len hbm]; exact Nat.le_of_ble_eq_true rfl) rfl ?_
          (conv => whnf); repeat ((first | refine RngK.mk (by omega) (by omega) ?_ | refine NzK.mk (by omega) ?_ | refine NnK.mk (by omega) ?_ | refine BdK.mk (by omega) (by omega) (by omega) ?_ | refine InsK.lit (by omega) (by omega) ?_ | refine SpK.lit ?_ | refine GrdK.same ?_ | refine GrdK.tf ?_ | refine GrdK.ft ?_ | refine PickK.t ?_ | refine PickK.f ?_); (conv => whnf))
          refine StK.blkE 0 _ rfl rfl rfl rfl (by rw [xh_len hbm]; omega) (xh_set hbm 0) ?_
          (conv => whnf); repeat ((first | refine RngK.mk (by omega) (by omega) ?_ | refine NzK.mk (by omega) ?_ | refine NnK.mk (by omega) ?_ | refine BdK.mk (by omega) (by omega) (by omega) ?_ | refine InsK.lit (by omega) (by omega) ?_ | refine SpK.lit ?_ | refine GrdK.same ?_ | refine GrdK.tf ?_ | refine GrdK.ft ?_ | refine PickK.t ?_ | refine PickK.f ?_); (conv => whnf))
          refine ⟨(cutA A (32 - k) c 1, c - (32 - k), bs.drop (32 - k), stepA s0 blk, blk), ⟨rfl, ?_, trivial⟩, HSub.refl _, ?_, ?_, e2, e3, hbl⟩
          · show some _ = some _
            congr 2
            simp
          · have := hp.from_ (l := 32 - k) (by omega)
            rw [← List.length_drop] at this
            exact this
          · simp only [List.length_drop]
            omega
      · have h2 := dF h2
        obtain rfl : k = 0 := by omega
        (conv => whnf); repeat ((first | refine RngK.mk (by omega) (by omega) ?_ | refine NzK.mk (by omega) ?_ | refine NnK.mk (by omega) ?_ | refine BdK.mk (by omega) (by omega) (by omega) ?_ | refine InsK.lit (by omega) (by omega) ?_ | refine SpK.lit ?_ | refine GrdK.same ?_ | refine GrdK.tf ?_ | refine GrdK.ft ?_ | refine PickK.t ?_ | refine PickK.f ?_); (conv => whnf))
        have ht1 : tl all = [] := List.eq_nil_of_length_eq_zero hkt
        subst hbuf
        refine ⟨(A, c, bs, lanes acc0 all, bb), ⟨rfl, rfl, trivial⟩, HSub.refl _, hp, hn, ?_, ?_, hb0⟩
        · rw [lanes_more, ht1]; rfl
        · rw [tl_more, ht1]; rfl
    · dsimp only at hp hn hs ht hb' ⊢
      have hb : (bb'.map vU8).length = 32 := by simpa using hb'
      generalize hbuf' : bb'.map vU8 = buf' at *
      (conv => whnf); repeat ((first | refine RngK.mk (by omega) (by omega) ?_ | refine NzK.mk (by omega) ?_ | refine NnK.mk (by omega) ?_ | refine BdK.mk (by omega) (by omega) (by omega) ?_ | refine InsK.lit (by omega) (by omega) ?_ | refine SpK.lit ?_ | refine GrdK.same ?_ | refine GrdK.tf ?_ | refine GrdK.ft ?_ | refine PickK.t ?_ | refine PickK.f ?_); (conv => whnf))
      refine Wp.loop (fun s : Option Addr × Nat × List UInt8 × A4 => [(0, .pointer (some ⟨b, 0, none⟩)), (1, .slice s.1 s.2.2.1.length s.2.1)]) (fun s => [.blk b 48 (xh (all.length + bs.length) s.2.2.2 buf' 0)])
        (fun s => Bytes w (blocks [.blk b 48 (xh all.length (lanes acc0 all) buf k)]) s.1 s.2.2.1.length s.2.1 s.2.2.1 ∧ s.2.2.1.length < 2 ^ 31 ∧ lanes s.2.2.2 s.2.2.1 = lanes acc0 (all ++ bs) ∧ tl s.2.2.1 = tl (all ++ bs)) (fun s => s.2.2.1.length)
        (A, c, r, s) ⟨rfl, rfl, trivial⟩ (HSub.refl _) ⟨hp, hn, hs, ht⟩ fun ⟨A, c, r, s⟩ ⟨hp, hn, hs, ht⟩ => ?_
      dsimp only at hp hn hs ht ⊢
      have hcl := hp.le
      (conv => whnf); repeat ((first | refine RngK.mk (by omega) (by omega) ?_ | refine NzK.mk (by omega) ?_ | refine NnK.mk (by omega) ?_ | refine BdK.mk (by omega) (by omega) (by omega) ?_ | refine InsK.lit (by omega) (by omega) ?_ | refine SpK.lit ?_ | refine GrdK.same ?_ | refine GrdK.tf ?_ | refine GrdK.ft ?_ | refine PickK.t ?_ | refine PickK.f ?_); (conv => whnf))
      refine Wp.cond rfl (fun h3 => ?_) (fun h3 => ?_)
      · have h3 := dT h3
        (conv => whnf); repeat ((first | refine RngK.mk (by omega) (by omega) ?_ | refine NzK.mk (by omega) ?_ | refine NnK.mk (by omega) ?_ | refine BdK.mk (by omega) (by omega) (by omega) ?_ | refine InsK.lit (by omega) (by omega) ?_ | refine SpK.lit ?_ | refine GrdK.same ?_ | refine GrdK.tf ?_ | refine GrdK.ft ?_ | refine PickK.t ?_ | refine PickK.f ?_); (conv => whnf))
        refine DrwK.ord (by kernel_rfl) [0, 1, 2, 3, 4, 5, 6, 7, 10, 11, 8, 9, 12, 13] (by kernel_rfl) ?_; conv => whnf
        (conv => whnf); repeat ((first | refine RngK.mk (by omega) (by omega) ?_ | refine NzK.mk (by omega) ?_ | refine NnK.mk (by omega) ?_ | refine BdK.mk (by omega) (by omega) (by omega) ?_ | refine InsK.lit (by omega) (by omega) ?_ | refine SpK.lit ?_ | refine GrdK.same ?_ | refine GrdK.tf ?_ | refine GrdK.ft ?_ | refine PickK.t ?_ | refine PickK.f ?_); (conv => whnf))
        refine LdK.blk 0 rfl rfl rfl rfl ?_
        (conv => whnf); repeat ((first | refine RngK.mk (by omega) (by omega) ?_ | refine NzK.mk (by omega) ?_ | refine NnK.mk (by omega) ?_ | refine BdK.mk (by omega) (by omega) (by omega) ?_ | refine InsK.lit (by omega) (by omega) ?_ | refine SpK.lit ?_ | refine GrdK.same ?_ | refine GrdK.tf ?_ | refine GrdK.ft ?_ | refine PickK.t ?_ | refine PickK.f ?_); (conv => whnf))
        refine CallK.of [] (le64_spec A r.length c r (by omega)) rfl (fun w hw => hp.pass hw) ?_
        rintro _ _ ⟨rfl, rfl⟩
        (conv => whnf); repeat ((first | refine RngK.mk (by omega) (by omega) ?_ | refine NzK.mk (by omega) ?_ | refine NnK.mk (by omega) ?_ | refine BdK.mk (by omega) (by omega) (by omega) ?_ | refine InsK.lit (by omega) (by omega) ?_ | refine SpK.lit ?_ | refine GrdK.same ?_ | refine GrdK.tf ?_ | refine GrdK.ft ?_ | refine PickK.t ?_ | refine PickK.f ?_); (conv => whnf))
        refine KfK.of (LdK.blk 0 rfl rfl rfl rfl rfl) ?_
        (conv => whnf); repeat ((first | refine RngK.mk (by omega) (by omega) ?_ | refine NzK.mk (by omega) ?_ | refine NnK.mk (by omega) ?_ | refine BdK.mk (by omega) (by omega) (by omega) ?_ | refine InsK.lit (by omega) (by omega) ?_ | refine SpK.lit ?_ | refine GrdK.same ?_ | refine GrdK.tf ?_ | refine GrdK.ft ?_ | refine PickK.t ?_ | refine PickK.f ?_); (conv => whnf))
        refine CallK.of0 (zround_spec _ s.a (num8 r)) ?_
        rintro _ _ ⟨rfl, rfl⟩
        (conv => whnf); repeat ((first | refine RngK.mk (by omega) (by omega) ?_ | refine NzK.mk (by omega) ?_ | refine NnK.mk (by omega) ?_ | refine BdK.mk (by omega) (by omega) (by omega) ?_ | refine InsK.lit (by omega) (by omega) ?_ | refine SpK.lit ?_ | refine GrdK.same ?_ | refine GrdK.tf ?_ | refine GrdK.ft ?_ | refine PickK.t ?_ | refine PickK.f ?_); (conv => whnf))
        refine KfK.of (LdK.blk 0 rfl rfl rfl rfl rfl) ?_
        (conv => whnf); repeat ((first | refine RngK.mk (by omega) (by omega) ?_ | refine NzK.mk (by omega) ?_ | refine NnK.mk (by omega) ?_ | refine BdK.mk (by omega) (by omega) (by omega) ?_ | refine InsK.lit (by omega) (by omega) ?_ | refine SpK.lit ?_ | refine GrdK.same ?_ | refine GrdK.tf ?_ | refine GrdK.ft ?_ | refine PickK.t ?_ | refine PickK.f ?_); (conv => whnf))
        refine StK.blkE 0 (xh (all.length + bs.length) ⟨roundU s.a (num8 r), s.b, s.c, s.d⟩ buf' 0) rfl rfl rfl rfl (by rw [xh_len hb]; exact Nat.le_of_ble_eq_true rfl) rfl ?_
        (conv => whnf); repeat ((first | refine RngK.mk (by omega) (by omega) ?_ | refine NzK.mk (by omega) ?_ | refine NnK.mk (by omega) ?_ | refine BdK.mk (by omega) (by omega) (by omega) ?_ | refine InsK.lit (by omega) (by omega) ?_ | refine SpK.lit ?_ | refine GrdK.same ?_ | refine GrdK.tf ?_ | refine GrdK.ft ?_ | refine PickK.t ?_ | refine PickK.f ?_); (conv => whnf))
        refine DrwK.ord (by kernel_rfl) [0, 1, 2, 3, 4, 5, 6, 7, 8, 11, 12, 9, 10, 13, 14] (by kernel_rfl) ?_; conv => whnf
        (conv => whnf); repeat ((first | refine RngK.mk (by omega) (by omega) ?_ | refine NzK.mk (by omega) ?_ | refine NnK.mk (by omega) ?_ | refine BdK.mk (by omega) (by omega) (by omega) ?_ | refine InsK.lit (by omega) (by omega) ?_ | refine SpK.lit ?_ | refine GrdK.same ?_ | refine GrdK.tf ?_ | refine GrdK.ft ?_ | refine PickK.t ?_ | refine PickK.f ?_); (conv => whnf))
        refine LdK.blk 0 rfl rfl rfl rfl ?_
        (conv => whnf); repeat ((first | refine RngK.mk (by omega) (by omega) ?_ | refine NzK.mk (by omega) ?_ | refine NnK.mk (by omega) ?_ | refine BdK.mk (by omega) (by omega) (by omega) ?_ | refine InsK.lit (by omega) (by omega) ?_ | refine SpK.lit ?_ | refine GrdK.same ?_ | refine GrdK.tf ?_ | refine GrdK.ft ?_ | refine PickK.t ?_ | refine PickK.f ?_); (conv => whnf))
        refine hp.sp (l := 8) (by omega) ?_
        (conv => whnf); repeat ((first | refine RngK.mk (by omega) (by omega) ?_ | refine NzK.mk (by omega) ?_ | refine NnK.mk (by omega) ?_ | refine BdK.mk (by omega) (by omega) (by omega) ?_ | refine InsK.lit (by omega) (by omega) ?_ | refine SpK.lit ?_ | refine GrdK.same ?_ | refine GrdK.tf ?_ | refine GrdK.ft ?_ | refine PickK.t ?_ | refine PickK.f ?_); (conv => whnf))
        refine CallK.of [] (le64_spec (cutA A 8 c 1) (r.length - 8) (c - 8) (r.drop 8) (by omega)) rfl (fun w hw => (hp.from_ (l := 8) (by omega)).pass hw) ?_
        rintro _ _ ⟨rfl, rfl⟩
        (conv => whnf); repeat ((first | refine RngK.mk (by omega) (by omega) ?_ | refine NzK.mk (by omega) ?_ | refine NnK.mk (by omega) ?_ | refine BdK.mk (by omega) (by omega) (by omega) ?_ | refine InsK.lit (by omega) (by omega) ?_ | refine SpK.lit ?_ | refine GrdK.same ?_ | refine GrdK.tf ?_ | refine GrdK.ft ?_ | refine PickK.t ?_ | refine PickK.f ?_); (conv => whnf))
        refine KfK.of (LdK.blk 0 rfl rfl rfl rfl rfl) ?_
        (conv => whnf); repeat ((first | refine RngK.mk (by omega) (by omega) ?_ | refine NzK.mk (by omega) ?_ | refine NnK.mk (by omega) ?_ | refine BdK.mk (by omega) (by omega) (by omega) ?_ | refine InsK.lit (by omega) (by omega) ?_ | refine SpK.lit ?_ | refine GrdK.same ?_ | refine GrdK.tf ?_ | refine GrdK.ft ?_ | refine PickK.t ?_ | refine PickK.f ?_); (conv => whnf))
        refine CallK.of0 (zround_spec _ s.b (num8 (r.drop 8))) ?_
        rintro _ _ ⟨rfl, rfl⟩
        (conv => whnf); repeat ((first | refine RngK.mk (by omega) (by omega) ?_ | refine NzK.mk (by omega) ?_ | refine NnK.mk (by omega) ?_ | refine BdK.mk (by omega) (by omega) (by omega) ?_ | refine InsK.lit (by omega) (by omega) ?_ | refine SpK.lit ?_ | refine GrdK.same ?_ | refine GrdK.tf ?_ | refine GrdK.ft ?_ | refine PickK.t ?_ | refine PickK.f ?_); (conv => whnf))
        refine KfK.of (LdK.blk 0 rfl rfl rfl rfl rfl) ?_
        (conv => whnf); repeat ((first | refine RngK.mk (by omega) (by omega) ?_ | refine NzK.mk (by omega) ?_ | refine NnK.mk (by omega) ?_ | refine BdK.mk (by omega) (by omega) (by omega) ?_ | refine InsK.lit (by omega) (by omega) ?_ | refine SpK.lit ?_ | refine GrdK.same ?_ | refine GrdK.tf ?_ | refine GrdK.ft ?_ | refine PickK.t ?_ | refine PickK.f ?_); (conv => whnf))
        refine StK.blkE 0 (xh (all.length + bs.length) ⟨roundU s.a (num8 r), roundU s.b (num8 (r.drop 8)), s.c, s.d⟩ buf' 0) rfl rfl rfl rfl (by rw [xh_len hb]; exact Nat.le_of_ble_eq_true rfl) rfl ?_
        (conv => whnf); repeat ((first | refine RngK.mk (by omega) (by omega) ?_ | refine NzK.mk (by omega) ?_ | refine NnK.mk (by omega) ?_ | refine BdK.mk (by omega) (by omega) (by omega) ?_ | refine InsK.lit (by omega) (by omega) ?_ | refine SpK.lit ?_ | refine GrdK.same ?_ | refine GrdK.tf ?_ | refine GrdK.ft ?_ | refine PickK.t ?_ | refine PickK.f ?_); (conv => whnf))
        refine DrwK.ord (by kernel_rfl) [0, 1, 2, 3, 4, 5, 6, 7, 8, 11, 12, 9, 10, 13, 14] (by kernel_rfl) ?_; conv => whnf
        (conv => whnf); repeat ((first | refine RngK.mk (by omega) (by omega) ?_ | refine NzK.mk (by omega) ?_ | refine NnK.mk (by omega) ?_ | refine BdK.mk (by omega) (by omega) (by omega) ?_ | refine InsK.lit (by omega) (by omega) ?_ | refine SpK.lit ?_ | refine GrdK.same ?_ | refine GrdK.tf ?_ | refine GrdK.ft ?_ | refine PickK.t ?_ | refine PickK.f ?_); (conv => whnf))
        refine LdK.blk 0 rfl rfl rfl rfl ?_
        (conv => whnf); repeat ((first | refine RngK.mk (by omega) (by omega) ?_ | refine NzK.mk (by omega) ?_ | refine NnK.mk (by omega) ?_ | refine BdK.mk (by omega) (by omega) (by omega) ?_ | refine InsK.lit (by omega) (by omega) ?_ | refine SpK.lit ?_ | refine GrdK.same ?_ | refine GrdK.tf ?_ | refine GrdK.ft ?_ | refine PickK.t ?_ | refine PickK.f ?_); (conv => whnf))
        refine hp.sp (l := 16) (by omega) ?_
        (conv => whnf); repeat ((first | refine RngK.mk (by omega) (by omega) ?_ | refine NzK.mk (by omega) ?_ | refine NnK.mk (by omega) ?_ | refine BdK.mk (by omega) (by omega) (by omega) ?_ | refine InsK.lit (by omega) (by omega) ?_ | refine SpK.lit ?_ | refine GrdK.same ?_ | refine GrdK.tf ?_ | refine GrdK.ft ?_ | refine PickK.t ?_ | refine PickK.f ?_); (conv => whnf))
        refine CallK.of [] (le64_spec (cutA A 16 c 1) (r.length - 16) (c - 16) (r.drop 16) (by omega)) rfl (fun w hw => (hp.from_ (l := 16) (by omega)).pass hw) ?_
        rintro _ _ ⟨rfl, rfl⟩
        (conv => whnf); repeat ((first | refine RngK.mk (by omega) (by omega) ?_ | refine NzK.mk (by omega) ?_ | refine NnK.mk (by omega) ?_ | refine BdK.mk (by omega) (by omega) (by omega) ?_ | refine InsK.lit (by omega) (by omega) ?_ | refine SpK.lit ?_ | refine GrdK.same ?_ | refine GrdK.tf ?_ | refine GrdK.ft ?_ | refine PickK.t ?_ | refine PickK.f ?_); (conv => whnf))
        refine KfK.of (LdK.blk 0 rfl rfl rfl rfl rfl) ?_
        (conv => whnf); repeat ((first | refine RngK.mk (by omega) (by omega) ?_ | refine NzK.mk (by omega) ?_ | refine NnK.mk (by omega) ?_ | refine BdK.mk (by omega) (by omega) (by omega) ?_ | refine InsK.lit (by omega) (by omega) ?_ | refine SpK.lit ?_ | refine GrdK.same ?_ | refine GrdK.tf ?_ | refine GrdK.ft ?_ | refine PickK.t ?_ | refine PickK.f ?_); (conv => whnf))
        refine CallK.of0 (zround_spec _ s.c (num8 (r.drop 16))) ?_
        rintro _ _ ⟨rfl, rfl⟩
        (conv => whnf); repeat ((first | refine RngK.mk (by omega) (by omega) ?_ | refine NzK.mk (by omega) ?_ | refine NnK.mk (by omega) ?_ | refine BdK.mk (by omega) (by omega) (by omega) ?_ | refine InsK.lit (by omega) (by omega) ?_ | refine SpK.lit ?_ | refine GrdK.same ?_ | refine GrdK.tf ?_ | refine GrdK.ft ?_ | refine PickK.t ?_ | refine PickK.f ?_); (conv => whnf))
        refine KfK.of (LdK.blk 0 rfl rfl rfl rfl rfl) ?_
        (conv => whnf); repeat ((first | refine RngK.mk (by omega) (by omega) ?_ | refine NzK.mk (by omega) ?_ | refine NnK.mk (by omega) ?_ | refine BdK.mk (by omega) (by omega) (by omega) ?_ | refine InsK.lit (by omega) (by omega) ?_ | refine SpK.lit ?_ | refine GrdK.same ?_ | refine GrdK.tf ?_ | refine GrdK.ft ?_ | refine PickK.t ?_ | refine PickK.f ?_); (conv => whnf))
        refine StK.blkE 0 (xh (all.length + bs.length) ⟨roundU s.a (num8 r), roundU s.b (num8 (r.drop 8)), roundU s.c (num8 (r.drop 16)), s.d⟩ buf' 0) rfl rfl rfl rfl (by rw [xh_len hb]; exact Nat.le_of_ble_eq_true rfl) rfl ?_
        (conv => whnf); repeat ((first | refine RngK.mk (by omega) (by omega) ?_ | refine NzK.mk (by omega) ?_ | refine NnK.mk (by omega) ?_ | refine BdK.mk (by omega) (by omega) (by omega) ?_ | refine InsK.lit (by omega) (by omega) ?_ | refine SpK.lit ?_ | refine GrdK.same ?_ | refine GrdK.tf ?_ | refine GrdK.ft ?_ | refine PickK.t ?_ | refine PickK.f ?_); (conv => whnf))
        refine DrwK.ord (by kernel_rfl) [0, 1, 2, 3, 4, 5, 6, 7, 8, 11, 12, 9, 10, 13, 14] (by kernel_rfl) ?_; conv => whnf
        (conv => whnf); repeat ((first | refine RngK.mk (by omega) (by omega) ?_ | refine NzK.mk (by omega) ?_ | refine NnK.mk (by omega) ?_ | refine BdK.mk (by omega) (by omega) (by omega) ?_ | refine InsK.lit (by omega) (by omega) ?_ | refine SpK.lit ?_ | refine GrdK.same ?_ | refine GrdK.tf ?_ | refine GrdK.ft ?_ | refine PickK.t ?_ | refine PickK.f ?_); (conv => whnf))
        refine LdK.blk 0 rfl rfl rfl rfl ?_
        (conv => whnf); repeat ((first | refine RngK.mk (by omega) (by omega) ?_ | refine NzK.mk (by omega) ?_ | refine NnK.mk (by omega) ?_ | refine BdK.mk (by omega) (by omega) (by omega) ?_ | refine InsK.lit (by omega) (by omega) ?_ | refine SpK.lit ?_ | refine GrdK.same ?_ | refine GrdK.tf ?_ | refine GrdK.ft ?_ | refine PickK.t ?_ | refine PickK.f ?_); (conv => whnf))
        refine hp.sp (l := 24) (by omega) ?_
        (conv => whnf); repeat ((first | refine RngK.mk (by omega) (by omega) ?_ | refine NzK.mk (by omega) ?_ | refine NnK.mk (by omega) ?_ | refine BdK.mk (by omega) (by omega) (by omega) ?_ | refine InsK.lit (by omega) (by omega) ?_ | refine SpK.lit ?_ | refine GrdK.same ?_ | refine GrdK.tf ?_ | refine GrdK.ft ?_ | refine PickK.t ?_ | refine PickK.f ?_); (conv => whnf))
        refine CallK.of [] (le64_spec (cutA A 24 c 1) (r.length - 24) (c - 24) (r.drop 24) (by omega)) rfl (fun w hw => (hp.from_ (l := 24) (by omega)).pass hw) ?_
        rintro _ _ ⟨rfl, rfl⟩
        (conv => whnf); repeat ((first | refine RngK.mk (by omega) (by omega) ?_ | refine NzK.mk (by omega) ?_ | refine NnK.mk (by omega) ?_ | refine BdK.mk (by omega) (by omega) (by omega) ?_ | refine InsK.lit (by omega) (by omega) ?_ | refine SpK.lit ?_ | refine GrdK.same ?_ | refine GrdK.tf ?_ | refine GrdK.ft ?_ | refine PickK.t ?_ | refine PickK.f ?_); (conv => whnf))
        refine KfK.of (LdK.blk 0 rfl rfl rfl rfl rfl) ?_
        (conv => whnf); repeat ((first | refine RngK.mk (by omega) (by omega) ?_ | refine NzK.mk (by omega) ?_ | refine NnK.mk (by omega) ?_ | refine BdK.mk (by omega) (by omega) (by omega) ?_ | refine InsK.lit (by omega) (by omega) ?_ | refine SpK.lit ?_ | refine GrdK.same ?_ | refine GrdK.tf ?_ | refine GrdK.ft ?_ | refine PickK.t ?_ | refine PickK.f ?_); (conv => whnf))
        refine CallK.of0 (zround_spec _ s.d (num8 (r.drop 24))) ?_
        rintro _ _ ⟨rfl, rfl⟩
        (conv => whnf); repeat ((first | refine RngK.mk (by omega) (by omega) ?_ | refine NzK.mk (by omega) ?_ | refine NnK.mk (by omega) ?_ | refine BdK.mk (by omega) (by omega) (by omega) ?_ | refine InsK.lit (by omega) (by omega) ?_ | refine SpK.lit ?_ | refine GrdK.same ?_ | refine GrdK.tf ?_ | refine GrdK.ft ?_ | refine PickK.t ?_ | refine PickK.f ?_); (conv => whnf))
        refine KfK.of (LdK.blk 0 rfl rfl rfl rfl rfl) ?_
        (conv => whnf); repeat ((first | refine RngK.mk (by omega) (by omega) ?_ | refine NzK.mk (by omega) ?_ | refine NnK.mk (by omega) ?_ | refine BdK.mk (by omega) (by omega) (by omega) ?_ | refine InsK.lit (by omega) (by omega) ?_ | refine SpK.lit ?_ | refine GrdK.same ?_ | refine GrdK.tf ?_ | refine GrdK.ft ?_ | refine PickK.t ?_ | refine PickK.f ?_); (conv => whnf))
        refine StK.blkE 0 (xh (all.length + bs.length) ⟨roundU s.a (num8 r), roundU s.b (num8 (r.drop 8)), roundU s.c (num8 (r.drop 16)), roundU s.d (num8 (r.drop 24))⟩ buf' 0) rfl rfl rfl rfl (by rw [xh_len hb]; exact Nat.le_of_ble_eq_true rfl) rfl ?_
        (conv => whnf); repeat ((first | refine RngK.mk (by omega) (by omega) ?_ | refine NzK.mk (by omega) ?_ | refine NnK.mk (by omega) ?_ | refine BdK.mk (by omega) (by omega) (by omega) ?_ | refine InsK.lit (by omega) (by omega) ?_ | refine SpK.lit ?_ | refine GrdK.same ?_ | refine GrdK.tf ?_ | refine GrdK.ft ?_ | refine PickK.t ?_ | refine PickK.f ?_); (conv => whnf))
        refine hp.sp (l := 32) (by omega) ?_
        (conv => whnf); repeat ((first | refine RngK.mk (by omega) (by omega) ?_ | refine NzK.mk (by omega) ?_ | refine NnK.mk (by omega) ?_ | refine BdK.mk (by omega) (by omega) (by omega) ?_ | refine InsK.lit (by omega) (by omega) ?_ | refine SpK.lit ?_ | refine GrdK.same ?_ | refine GrdK.tf ?_ | refine GrdK.ft ?_ | refine PickK.t ?_ | refine PickK.f ?_); (conv => whnf))
        refine ⟨(cutA A 32 c 1, c - 32, r.drop 32, stepA s r), ⟨rfl, ?_, trivial⟩, HSub.refl _, ⟨?_, ?_, ?_, ?_⟩, ?_⟩
        · show some _ = some _
          congr 2
          simp
        · have := hp.from_ (l := 32) (by omega)
          rw [← List.length_drop] at this
          exact this
        · simp only [List.length_drop]
          omega
        · rw [← hs, lanes_cons s (by omega)]
        · rw [← ht, tl_cons (bs := r) (by omega)]
        · simp only [List.length_drop]
          omega
      · have h3 := dF h3
        rw [tl_short (by omega)] at ht
        rw [lanes_short _ (by omega)] at hs
        have hm : (all ++ bs).length % 32 = r.length := by rw [← tl_len, ← ht]
        have hlen : (all ++ bs).length = all.length + bs.length := List.length_append
        (conv => whnf); repeat ((first | refine RngK.mk (by omega) (by omega) ?_ | refine NzK.mk (by omega) ?_ | refine NnK.mk (by omega) ?_ | refine BdK.mk (by omega) (by omega) (by omega) ?_ | refine InsK.lit (by omega) (by omega) ?_ | refine SpK.lit ?_ | refine GrdK.same ?_ | refine GrdK.tf ?_ | refine GrdK.ft ?_ | refine PickK.t ?_ | refine PickK.f ?_); (conv => whnf))
        refine Wp.cond rfl (fun h4 => ?_) (fun h4 => ?_)
        · have h4 := dT h4
          have hl' : (r.map vU8 ++ buf'.drop r.length).length = 32 := by
            simp only [List.length_append, List.length_map, List.length_drop]; omega
          (conv => whnf); repeat ((first | refine RngK.mk (by omega) (by omega) ?_ | refine NzK.mk (by omega) ?_ | refine NnK.mk (by omega) ?_ | refine BdK.mk (by omega) (by omega) (by omega) ?_ | refine InsK.lit (by omega) (by omega) ?_ | refine SpK.lit ?_ | refine GrdK.same ?_ | refine GrdK.tf ?_ | refine GrdK.ft ?_ | refine PickK.t ?_ | refine PickK.f ?_); (conv => whnf))
          refine EffK.copyBlkE 0 r.length 5 (xh (all.length + bs.length) s (r.map vU8 ++ buf'.drop r.length) 0) rfl rfl rfl rfl rfl (by simp; omega) (Src.rd hp.rd) vU8_one (by rw [xh_len hb]; omega) ?_ ?_
          · have := xh_copy (n := all.length + bs.length) (s := s) (k := 0) hb (o := 0) (q := r.length) (by omega) (r.map vU8)
            rw [List.take_zero, List.nil_append, Nat.zero_add] at this
            exact this
          (conv => whnf); repeat ((first | refine RngK.mk (by omega) (by omega) ?_ | refine NzK.mk (by omega) ?_ | refine NnK.mk (by omega) ?_ | refine BdK.mk (by omega) (by omega) (by omega) ?_ | refine InsK.lit (by omega) (by omega) ?_ | refine SpK.lit ?_ | refine GrdK.same ?_ | refine GrdK.tf ?_ | refine GrdK.ft ?_ | refine PickK.t ?_ | refine PickK.f ?_); (conv => whnf))
          refine StK.blkE 0 _ rfl rfl rfl rfl (by rw [xh_len hl']; omega) (xh_set hl' r.length) ?_
          (conv => whnf); repeat ((first | refine RngK.mk (by omega) (by omega) ?_ | refine NzK.mk (by omega) ?_ | refine NnK.mk (by omega) ?_ | refine BdK.mk (by omega) (by omega) (by omega) ?_ | refine InsK.lit (by omega) (by omega) ?_ | refine SpK.lit ?_ | refine GrdK.same ?_ | refine GrdK.tf ?_ | refine GrdK.ft ?_ | refine PickK.t ?_ | refine PickK.f ?_); (conv => whnf))
          refine ⟨rfl, r ++ bb'.drop r.length, ?_, ?_, ?_⟩
          · simp only [List.length_append, List.length_drop]; omega
          · rw [hm, ← ht, List.take_append_of_le_length (by simp), List.take_of_length_le (by simp)]
          · rw [hm, hs, hlen, ← hbuf', List.map_append, List.map_drop]
        · have h4 := dF h4
          have hr : r = [] := List.eq_nil_of_length_eq_zero (by omega)
          subst hr
          (conv => whnf); repeat ((first | refine RngK.mk (by omega) (by omega) ?_ | refine NzK.mk (by omega) ?_ | refine NnK.mk (by omega) ?_ | refine BdK.mk (by omega) (by omega) (by omega) ?_ | refine InsK.lit (by omega) (by omega) ?_ | refine SpK.lit ?_ | refine GrdK.same ?_ | refine GrdK.tf ?_ | refine GrdK.ft ?_ | refine PickK.t ?_ | refine PickK.f ?_); (conv => whnf))
          refine ⟨rfl, bb', hb', ?_, ?_⟩
          · rw [hm, ← ht]; rfl
          · rw [hm, hs, hlen, hbuf']; rfl
end Go.Proofs.Ytnmejcgkgimgoaa
