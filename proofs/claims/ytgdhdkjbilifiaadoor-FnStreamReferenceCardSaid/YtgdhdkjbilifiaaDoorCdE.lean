/- The reference's raw literals, and the law FnRawLiterals: it returns true. -/
import Derived.Test.YtgdhdkjbilifiaaDoorCdD
namespace Go.Proofs.YtgdhdkjbilifiaaDoor
open Go Go.Sx
set_option maxRecDepth 100000
def RawT.len : RawT → Nat
  | .right l _ => l.length
  | _ => 0
def RawT.bs : RawT → List UInt8
  | .right l _ => l
  | _ => []
def RawT.pl : RawT → Nat
  | .right _ p => p
  | _ => 0
def RawT.told : RawT → Int
  | .right _ _ => 0
  | .wrong => 1
  | .unsaid => 2
set_option maxHeartbeats 4000000 in
theorem rawRead_spec (A : Option Addr) (n c : Nat) (bs : List UInt8) (off : Nat) (h : UInt8) (hn : n ≤ 16777216) (ho : off ≤ n) :
    FnS Tryd.prog 27 [.slice A n c, vN off, vU8 h] [] (fun w => Bytes w (blocks []) A n c bs)
      (fun v H => ∃ A1 c1, v = .tuple #[.slice A1 (rawM bs off h.toNat).bs.length c1, vN (rawM bs off h.toNat).pl, vI (rawM bs off h.toNat).told] ∧ H = [.own A1 (rawM bs off h.toNat).bs.length c1 5 1 ((rawM bs off h.toNat).bs.map vU8)]) := by
  refine FnS.introD Tryd.func27 rfl (by kernel_rfl) rfl fun w hH hp => ?_
  obtain rfl : bs.length = n := hp.len
  have hle := hp.le
  have hq := h.toNat_lt
  obtain ⟨q, hqe⟩ : ∃ q, h.toNat = q := ⟨_, rfl⟩
  obtain ⟨R, hR⟩ : ∃ R, rawM bs off q = R := ⟨_, rfl⟩
  rw [hqe] at hq
  rw [hqe, hR]
  have e3 : iand .u8 (q : Int) 3 = ((q % 4 : Nat) : Int) := by
    have := iand_u (k := .u8) rfl (x := q) (y := 3) hq (by decide)
    rw [show (3 : Nat) = 2 ^ 2 - 1 by rfl, Nat.and_two_pow_sub_one_eq_mod] at this
    exact this
  have e2 : ishr .u8 (q : Int) 2 = ((q / 4 : Nat) : Int) := ishr_nat .u8 _ (n := 2) (by decide)
  have e4 : ishr .i64 (q : Int) 4 = ((q / 16 : Nat) : Int) := ishr_nat .i64 _ (n := 4) (by decide)
  have e8 : ishr .i64 (q : Int) 3 = ((q / 8 : Nat) : Int) := ishr_nat .i64 _ (n := 3) (by decide)
  have e5 : iand .u8 ((q / 4 : Nat) : Int) 3 = ((q / 4 % 4 : Nat) : Int) := by
    have := iand_u (k := .u8) rfl (x := q / 4) (y := 3) (by show _ < 256; omega) (by decide)
    rw [show (3 : Nat) = 2 ^ 2 - 1 by rfl, Nat.and_two_pow_sub_one_eq_mod] at this
    exact this
  have hk4 : q / 4 % 4 < 4 := Nat.mod_lt _ (by omega)
  obtain ⟨k, hke⟩ : ∃ k, q / 4 % 4 = k := ⟨_, rfl⟩
  have hR' := hR
  unfold rawM at hR'
  have hmo : more q = if k = 1 then 1 else if k = 3 then 2 else 0 := by unfold more; rw [hke]
  have hsz : rawN bs off q = if k = 1 ∨ k = 3 then q / 16 + 16 * num ((bs.drop off).take (more q)) else q / 8 := by unfold rawN; rw [hke]
  rw [hke] at hk4 e5
  have hcl : [vI 0, vI 1, vI 0, vI 2][k]? = some (vN (more q)) := by
    rw [hmo]
    rcases (show k = 0 ∨ k = 1 ∨ k = 2 ∨ k = 3 by omega) with rfl | rfl | rfl | rfl <;> rfl
  have hm2 : more q ≤ 2 := by rw [hmo]; split <;> (try split) <;> omega
  (conv => whnf); repeat ((first | refine RngK.mk (by omega) (by omega) ?_ | refine NzK.mk (by omega) ?_ | refine NnK.mk (by omega) ?_ | refine BdK.mk (by omega) (by omega) (by omega) ?_ | refine InsK.lit (by omega) (by omega) ?_ | refine SpK.lit ?_ | refine GrdK.same ?_ | refine GrdK.tf ?_ | refine GrdK.ft ?_ | refine PickK.t ?_ | refine PickK.f ?_); (conv => whnf))
  refine EffK.litV rfl rfl rfl rfl rfl rfl rfl rfl rfl ?_
  (conv => whnf); repeat ((first | refine RngK.mk (by omega) (by omega) ?_ | refine NzK.mk (by omega) ?_ | refine NnK.mk (by omega) ?_ | refine BdK.mk (by omega) (by omega) (by omega) ?_ | refine InsK.lit (by omega) (by omega) ?_ | refine SpK.lit ?_ | refine GrdK.same ?_ | refine GrdK.tf ?_ | refine GrdK.ft ?_ | refine PickK.t ?_ | refine PickK.f ?_); (conv => whnf))
  intro b1
  (conv => whnf); repeat ((first | refine RngK.mk (by omega) (by omega) ?_ | refine NzK.mk (by omega) ?_ | refine NnK.mk (by omega) ?_ | refine BdK.mk (by omega) (by omega) (by omega) ?_ | refine InsK.lit (by omega) (by omega) ?_ | refine SpK.lit ?_ | refine GrdK.same ?_ | refine GrdK.tf ?_ | refine GrdK.ft ?_ | refine PickK.t ?_ | refine PickK.f ?_); (conv => whnf))
  rw [hqe, e2, e5]
  (conv => whnf); repeat ((first | refine RngK.mk (by omega) (by omega) ?_ | refine NzK.mk (by omega) ?_ | refine NnK.mk (by omega) ?_ | refine BdK.mk (by omega) (by omega) (by omega) ?_ | refine InsK.lit (by omega) (by omega) ?_ | refine SpK.lit ?_ | refine GrdK.same ?_ | refine GrdK.tf ?_ | refine GrdK.ft ?_ | refine PickK.t ?_ | refine PickK.f ?_); (conv => whnf))
  refine LdK.own 0 k rfl rfl rfl rfl hcl ?_
  obtain ⟨mo, hmoe⟩ : ∃ mo, more q = mo := ⟨_, rfl⟩
  rw [hmoe] at hR' hmo hsz hm2 ⊢
  (conv => whnf); repeat ((first | refine RngK.mk (by omega) (by omega) ?_ | refine NzK.mk (by omega) ?_ | refine NnK.mk (by omega) ?_ | refine BdK.mk (by omega) (by omega) (by omega) ?_ | refine InsK.lit (by omega) (by omega) ?_ | refine SpK.lit ?_ | refine GrdK.same ?_ | refine GrdK.tf ?_ | refine GrdK.ft ?_ | refine PickK.t ?_ | refine PickK.f ?_); (conv => whnf))
  refine Wp.nilC 5 1 ?_
  refine Wp.cond rfl (fun g => ?_) (fun g => ?_)
  · have g := dT g
    rw [if_pos (by omega)] at hR'
    subst hR'
    (conv => whnf); repeat ((first | refine RngK.mk (by omega) (by omega) ?_ | refine NzK.mk (by omega) ?_ | refine NnK.mk (by omega) ?_ | refine BdK.mk (by omega) (by omega) (by omega) ?_ | refine InsK.lit (by omega) (by omega) ?_ | refine SpK.lit ?_ | refine GrdK.same ?_ | refine GrdK.tf ?_ | refine GrdK.ft ?_ | refine PickK.t ?_ | refine PickK.f ?_); (conv => whnf))
    exact ⟨_, HSub.of [0] rfl, none, 0, rfl, rfl⟩
  have g := dF g
  rw [if_neg (by omega)] at hR'
  (conv => whnf); repeat ((first | refine RngK.mk (by omega) (by omega) ?_ | refine NzK.mk (by omega) ?_ | refine NnK.mk (by omega) ?_ | refine BdK.mk (by omega) (by omega) (by omega) ?_ | refine InsK.lit (by omega) (by omega) ?_ | refine SpK.lit ?_ | refine GrdK.same ?_ | refine GrdK.tf ?_ | refine GrdK.ft ?_ | refine PickK.t ?_ | refine PickK.f ?_); (conv => whnf))
  rw [hqe, e8]
  (conv => whnf); repeat ((first | refine RngK.mk (by omega) (by omega) ?_ | refine NzK.mk (by omega) ?_ | refine NnK.mk (by omega) ?_ | refine BdK.mk (by omega) (by omega) (by omega) ?_ | refine InsK.lit (by omega) (by omega) ?_ | refine SpK.lit ?_ | refine GrdK.same ?_ | refine GrdK.tf ?_ | refine GrdK.ft ?_ | refine PickK.t ?_ | refine PickK.f ?_); (conv => whnf))
  refine Wp.cut (fun _ : Unit => [(0, .slice A bs.length c), (1, vN off), (2, vU8 h), (9, vN mo), (10, vN (rawN bs off q))]) (fun _ => []) (fun _ => rawN bs off q ≤ 16777216) ?_ fun _ hsb => ?_
  · refine Wp.cond rfl (fun g => ?_) (fun g => ?_)
    · have g := dT g
      have hk13 : k = 1 ∨ k = 3 := by
        apply Decidable.byContradiction
        intro hh
        rw [if_neg (by omega), if_neg (by omega)] at hmo
        omega
      rw [if_pos hk13] at hsz
      (conv => whnf); repeat ((first | refine RngK.mk (by omega) (by omega) ?_ | refine NzK.mk (by omega) ?_ | refine NnK.mk (by omega) ?_ | refine BdK.mk (by omega) (by omega) (by omega) ?_ | refine InsK.lit (by omega) (by omega) ?_ | refine SpK.lit ?_ | refine GrdK.same ?_ | refine GrdK.tf ?_ | refine GrdK.ft ?_ | refine PickK.t ?_ | refine PickK.f ?_); (conv => whnf))
      rw [hqe]
      (conv => whnf); repeat ((first | refine RngK.mk (by omega) (by omega) ?_ | refine NzK.mk (by omega) ?_ | refine NnK.mk (by omega) ?_ | refine BdK.mk (by omega) (by omega) (by omega) ?_ | refine InsK.lit (by omega) (by omega) ?_ | refine SpK.lit ?_ | refine GrdK.same ?_ | refine GrdK.tf ?_ | refine GrdK.ft ?_ | refine PickK.t ?_ | refine PickK.f ?_); (conv => whnf))
      refine Bytes.sp hp (by omega) ?_
      (conv => whnf); repeat ((first | refine RngK.mk (by omega) (by omega) ?_ | refine NzK.mk (by omega) ?_ | refine NnK.mk (by omega) ?_ | refine BdK.mk (by omega) (by omega) (by omega) ?_ | refine InsK.lit (by omega) (by omega) ?_ | refine SpK.lit ?_ | refine GrdK.same ?_ | refine GrdK.tf ?_ | refine GrdK.ft ?_ | refine PickK.t ?_ | refine PickK.f ?_); (conv => whnf))
      have en : ((off : Int) + (mo : Int)).toNat - (off : Int).toNat = mo := by omega
      rw [en]
      have hnl := num_lt ((bs.drop off).take mo)
      have hnl2 : 2 ^ (8 * ((bs.drop off).take mo).length) ≤ 2 ^ 16 := Nat.pow_le_pow_right (by omega) (by rw [List.length_take]; omega)
      refine CallK.of [] (number_spec (cutA A off c 1) mo (c - off) ((bs.drop off).take mo) (by omega)) rfl (fun w hw => ((hp.cut (l := off) (q := mo) (by omega)).pass hw).rd) ?_
      rintro _ _ ⟨rfl, rfl⟩
      obtain ⟨N, hN⟩ : ∃ N, num ((bs.drop off).take mo) = N := ⟨_, rfl⟩
      rw [hN] at hnl hsz ⊢
      have eN : ((UInt64.ofNat N).toNat : Int) = (N : Int) := by rw [UInt64.toNat_ofNat_of_lt' (by simp [UInt64.size]; omega)]
      have eW : IntKind.i64.wrap ((N : Nat) : Int) = (N : Int) := wrap_i64_lt (by omega)
      have eS : ishl .i64 (N : Int) 4 = ((N * 16 : Nat) : Int) := ishl_i64 (x := N) (n := 4) (by omega) (by omega)
      have eO : ior .i64 ((q / 16 : Nat) : Int) ((N * 16 : Nat) : Int) = ((q / 16 + N * 16 : Nat) : Int) := by
        rw [ior_i64 (by omega) (by omega)]
        have := or_add (x := q / 16) (y := N) (i := 4) (by omega)
        rw [show N * 16 = N * 2 ^ 4 by rfl, this]
      unfold vU64
      rw [eN]
      (conv => whnf); repeat ((first | refine RngK.mk (by omega) (by omega) ?_ | refine NzK.mk (by omega) ?_ | refine NnK.mk (by omega) ?_ | refine BdK.mk (by omega) (by omega) (by omega) ?_ | refine InsK.lit (by omega) (by omega) ?_ | refine SpK.lit ?_ | refine GrdK.same ?_ | refine GrdK.tf ?_ | refine GrdK.ft ?_ | refine PickK.t ?_ | refine PickK.f ?_); (conv => whnf))
      rw [e4, eS, eO]
      (conv => whnf); repeat ((first | refine RngK.mk (by omega) (by omega) ?_ | refine NzK.mk (by omega) ?_ | refine NnK.mk (by omega) ?_ | refine BdK.mk (by omega) (by omega) (by omega) ?_ | refine InsK.lit (by omega) (by omega) ?_ | refine SpK.lit ?_ | refine GrdK.same ?_ | refine GrdK.tf ?_ | refine GrdK.ft ?_ | refine PickK.t ?_ | refine PickK.f ?_); (conv => whnf))
      exact ⟨(), ⟨rfl, rfl, rfl, rfl, by show some (vN _) = some (vN _); rw [hsz, Nat.mul_comm 16 N], trivial⟩, HSub.nil _, by omega⟩
    · have g := dF g
      have hk02 : ¬ (k = 1 ∨ k = 3) := by
        intro hh
        rcases hh with rfl | rfl
        · rw [if_pos rfl] at hmo; omega
        · rw [if_neg (by omega), if_pos rfl] at hmo; omega
      rw [if_neg hk02] at hsz
      (conv => whnf); repeat ((first | refine RngK.mk (by omega) (by omega) ?_ | refine NzK.mk (by omega) ?_ | refine NnK.mk (by omega) ?_ | refine BdK.mk (by omega) (by omega) (by omega) ?_ | refine InsK.lit (by omega) (by omega) ?_ | refine SpK.lit ?_ | refine GrdK.same ?_ | refine GrdK.tf ?_ | refine GrdK.ft ?_ | refine PickK.t ?_ | refine PickK.f ?_); (conv => whnf))
      exact ⟨(), ⟨rfl, rfl, rfl, rfl, by show some (vN _) = some (vN _); rw [hsz], trivial⟩, HSub.nil _, by omega⟩
  obtain ⟨sz, hsz'⟩ : ∃ sz, rawN bs off q = sz := ⟨_, rfl⟩
  obtain ⟨at_, hat⟩ : ∃ at_, off + mo = at_ := ⟨_, rfl⟩
  rw [hat, hsz'] at hR'
  rw [hsz'] at hsb ⊢
  have hmb : at_ ≤ bs.length := by omega
  clear hmo hsz
  (conv => whnf); repeat ((first | refine RngK.mk (by omega) (by omega) ?_ | refine NzK.mk (by omega) ?_ | refine NnK.mk (by omega) ?_ | refine BdK.mk (by omega) (by omega) (by omega) ?_ | refine InsK.lit (by omega) (by omega) ?_ | refine SpK.lit ?_ | refine GrdK.same ?_ | refine GrdK.tf ?_ | refine GrdK.ft ?_ | refine PickK.t ?_ | refine PickK.f ?_); (conv => whnf))
  refine Wp.nilC 5 1 ?_
  refine Wp.cond rfl (fun g => ?_) (fun g => ?_)
  · have g := dT g
    rw [if_pos (by omega)] at hR'
    subst hR'
    (conv => whnf); repeat ((first | refine RngK.mk (by omega) (by omega) ?_ | refine NzK.mk (by omega) ?_ | refine NnK.mk (by omega) ?_ | refine BdK.mk (by omega) (by omega) (by omega) ?_ | refine InsK.lit (by omega) (by omega) ?_ | refine SpK.lit ?_ | refine GrdK.same ?_ | refine GrdK.tf ?_ | refine GrdK.ft ?_ | refine PickK.t ?_ | refine PickK.f ?_); (conv => whnf))
    exact ⟨_, HSub.of [0] rfl, none, 0, rfl, rfl⟩
  have g := dF g
  rw [if_neg (by omega)] at hR'
  have ea : (off : Int) + (mo : Int) = ((at_ : Nat) : Int) := by omega
  (conv => whnf); repeat ((first | refine RngK.mk (by omega) (by omega) ?_ | refine NzK.mk (by omega) ?_ | refine NnK.mk (by omega) ?_ | refine BdK.mk (by omega) (by omega) (by omega) ?_ | refine InsK.lit (by omega) (by omega) ?_ | refine SpK.lit ?_ | refine GrdK.same ?_ | refine GrdK.tf ?_ | refine GrdK.ft ?_ | refine PickK.t ?_ | refine PickK.f ?_); (conv => whnf))
  rw [hqe, e3]
  (conv => whnf); repeat ((first | refine RngK.mk (by omega) (by omega) ?_ | refine NzK.mk (by omega) ?_ | refine NnK.mk (by omega) ?_ | refine BdK.mk (by omega) (by omega) (by omega) ?_ | refine InsK.lit (by omega) (by omega) ?_ | refine SpK.lit ?_ | refine GrdK.same ?_ | refine GrdK.tf ?_ | refine GrdK.ft ?_ | refine PickK.t ?_ | refine PickK.f ?_); (conv => whnf))
  by_cases hq4 : q % 4 = 0
  · rw [if_pos hq4] at hR'
    have : (((q % 4 : Nat) : Int) == 0) = true := by simp; omega
    rw [this]
    refine Wp.cond rfl (fun _ => ?_) (fun h => by cases h)
    (conv => whnf); repeat ((first | refine RngK.mk (by omega) (by omega) ?_ | refine NzK.mk (by omega) ?_ | refine NnK.mk (by omega) ?_ | refine BdK.mk (by omega) (by omega) (by omega) ?_ | refine InsK.lit (by omega) (by omega) ?_ | refine SpK.lit ?_ | refine GrdK.same ?_ | refine GrdK.tf ?_ | refine GrdK.ft ?_ | refine PickK.t ?_ | refine PickK.f ?_); (conv => whnf))
    rw [ea]
    refine Wp.cond rfl (fun g => ?_) (fun g => ?_)
    · have g := dT g
      rw [if_pos (by omega)] at hR'
      subst hR'
      (conv => whnf); repeat ((first | refine RngK.mk (by omega) (by omega) ?_ | refine NzK.mk (by omega) ?_ | refine NnK.mk (by omega) ?_ | refine BdK.mk (by omega) (by omega) (by omega) ?_ | refine InsK.lit (by omega) (by omega) ?_ | refine SpK.lit ?_ | refine GrdK.same ?_ | refine GrdK.tf ?_ | refine GrdK.ft ?_ | refine PickK.t ?_ | refine PickK.f ?_); (conv => whnf))
      exact ⟨_, HSub.of [0] rfl, none, 0, rfl, rfl⟩
    have g := dF g
    rw [if_neg (by omega)] at hR'
    subst hR'
    (conv => whnf); repeat ((first | refine RngK.mk (by omega) (by omega) ?_ | refine NzK.mk (by omega) ?_ | refine NnK.mk (by omega) ?_ | refine BdK.mk (by omega) (by omega) (by omega) ?_ | refine InsK.lit (by omega) (by omega) ?_ | refine SpK.lit ?_ | refine GrdK.same ?_ | refine GrdK.tf ?_ | refine GrdK.ft ?_ | refine PickK.t ?_ | refine PickK.f ?_); (conv => whnf))
    refine EffK.lit0 rfl rfl fun b => ?_
    (conv => whnf); repeat ((first | refine RngK.mk (by omega) (by omega) ?_ | refine NzK.mk (by omega) ?_ | refine NnK.mk (by omega) ?_ | refine BdK.mk (by omega) (by omega) (by omega) ?_ | refine InsK.lit (by omega) (by omega) ?_ | refine SpK.lit ?_ | refine GrdK.same ?_ | refine GrdK.tf ?_ | refine GrdK.ft ?_ | refine PickK.t ?_ | refine PickK.f ?_); (conv => whnf))
    refine Bytes.sp hp (by omega) ?_
    (conv => whnf); repeat ((first | refine RngK.mk (by omega) (by omega) ?_ | refine NzK.mk (by omega) ?_ | refine NnK.mk (by omega) ?_ | refine BdK.mk (by omega) (by omega) (by omega) ?_ | refine InsK.lit (by omega) (by omega) ?_ | refine SpK.lit ?_ | refine GrdK.same ?_ | refine GrdK.tf ?_ | refine GrdK.ft ?_ | refine PickK.t ?_ | refine PickK.f ?_); (conv => whnf))
    have en : ((at_ : Int) + (sz : Int)).toNat - (at_ : Int).toNat = sz := by omega
    rw [en]
    have hlt : ((bs.drop at_).take sz).length = sz := by simp; omega
    refine EffK.append 0 (news := ((bs.drop at_).take sz).map vU8) rfl rfl rfl rfl rfl rfl rfl rfl (Src.rd (hp.cut (l := at_) (q := sz) (by omega)).rd) vU8_one (by simp [maxLen]; omega) (by show (_ + _) * 1 ≤ _; omega) fun A5 c5 => ?_
    (conv => whnf); repeat ((first | refine RngK.mk (by omega) (by omega) ?_ | refine NzK.mk (by omega) ?_ | refine NnK.mk (by omega) ?_ | refine BdK.mk (by omega) (by omega) (by omega) ?_ | refine InsK.lit (by omega) (by omega) ?_ | refine SpK.lit ?_ | refine GrdK.same ?_ | refine GrdK.tf ?_ | refine GrdK.ft ?_ | refine PickK.t ?_ | refine PickK.f ?_); (conv => whnf))
    refine ⟨_, HSub.of [0] rfl, A5, c5, ?_, ?_⟩
    · show _ = Value.tuple #[.slice A5 ((bs.drop at_).take sz).length c5, _, _]
      rw [hlt, Nat.zero_add]
      rfl
    · show _ = [Chunk.own A5 ((bs.drop at_).take sz).length c5 _ _ _]
      rw [hlt, Nat.zero_add]
      rfl
  · rw [if_neg hq4] at hR'
    have : (((q % 4 : Nat) : Int) == 0) = false := by simp; omega
    rw [this]
    refine Wp.cond rfl (fun h => by cases h) (fun _ => ?_)
    (conv => whnf); repeat ((first | refine RngK.mk (by omega) (by omega) ?_ | refine NzK.mk (by omega) ?_ | refine NnK.mk (by omega) ?_ | refine BdK.mk (by omega) (by omega) (by omega) ?_ | refine InsK.lit (by omega) (by omega) ?_ | refine SpK.lit ?_ | refine GrdK.same ?_ | refine GrdK.tf ?_ | refine GrdK.ft ?_ | refine PickK.t ?_ | refine PickK.f ?_); (conv => whnf))
    rw [ea]
    refine Wp.cond rfl (fun g => ?_) (fun g => ?_)
    · have g := dT g
      rw [if_pos (by omega)] at hR'
      subst hR'
      (conv => whnf); repeat ((first | refine RngK.mk (by omega) (by omega) ?_ | refine NzK.mk (by omega) ?_ | refine NnK.mk (by omega) ?_ | refine BdK.mk (by omega) (by omega) (by omega) ?_ | refine InsK.lit (by omega) (by omega) ?_ | refine SpK.lit ?_ | refine GrdK.same ?_ | refine GrdK.tf ?_ | refine GrdK.ft ?_ | refine PickK.t ?_ | refine PickK.f ?_); (conv => whnf))
      exact ⟨_, HSub.of [0] rfl, none, 0, rfl, rfl⟩
    have g := dF g
    rw [if_neg (by omega)] at hR'
    subst hR'
    have ha : at_ < bs.length := by omega
    have hgd : bs.getD at_ 0 = bs[at_] := by simp [ha]
    rw [hgd]
    (conv => whnf); repeat ((first | refine RngK.mk (by omega) (by omega) ?_ | refine NzK.mk (by omega) ?_ | refine NnK.mk (by omega) ?_ | refine BdK.mk (by omega) (by omega) (by omega) ?_ | refine InsK.lit (by omega) (by omega) ?_ | refine SpK.lit ?_ | refine GrdK.same ?_ | refine GrdK.tf ?_ | refine GrdK.ft ?_ | refine PickK.t ?_ | refine PickK.f ?_); (conv => whnf))
    refine EffK.lit0 rfl rfl fun b => ?_
    (conv => whnf); repeat ((first | refine RngK.mk (by omega) (by omega) ?_ | refine NzK.mk (by omega) ?_ | refine NnK.mk (by omega) ?_ | refine BdK.mk (by omega) (by omega) (by omega) ?_ | refine InsK.lit (by omega) (by omega) ?_ | refine SpK.lit ?_ | refine GrdK.same ?_ | refine GrdK.tf ?_ | refine GrdK.ft ?_ | refine PickK.t ?_ | refine PickK.f ?_); (conv => whnf))
    refine Wp.cutEx 0 (fun t : Option Addr × Nat => [(11, vN at_), (12, .slice t.1 sz t.2)]) (fun t => [.own t.1 sz t.2 5 1 (List.replicate sz (vU8 bs[at_]))]) (fun _ => True) ?_ fun ⟨A1, c1⟩ _ => ?_
    · refine Wp.loop (fun t : Nat × Option Addr × Nat => [(0, .slice A bs.length c), (11, vN at_), (12, .slice t.2.1 t.1 t.2.2), (73, vN sz), (74, vN t.1)]) (fun t => [.own t.2.1 t.1 t.2.2 5 1 (List.replicate t.1 (vU8 bs[at_]))]) (fun t => t.1 ≤ sz) (fun t => sz - t.1) (0, some ⟨b, 0, none⟩, 0)
        ⟨rfl, rfl, rfl, rfl, rfl, trivial⟩ (HSub.of [0] rfl) (Nat.zero_le _) fun ⟨j, A1, c1⟩ hj => ?_
      dsimp only at hj ⊢
      (conv => whnf); repeat ((first | refine RngK.mk (by omega) (by omega) ?_ | refine NzK.mk (by omega) ?_ | refine NnK.mk (by omega) ?_ | refine BdK.mk (by omega) (by omega) (by omega) ?_ | refine InsK.lit (by omega) (by omega) ?_ | refine SpK.lit ?_ | refine GrdK.same ?_ | refine GrdK.tf ?_ | refine GrdK.ft ?_ | refine PickK.t ?_ | refine PickK.f ?_); (conv => whnf))
      refine Wp.cond rfl (fun g => ?_) (fun g => ?_)
      · have g := dT g
        (conv => whnf); repeat ((first | refine RngK.mk (by omega) (by omega) ?_ | refine NzK.mk (by omega) ?_ | refine NnK.mk (by omega) ?_ | refine BdK.mk (by omega) (by omega) (by omega) ?_ | refine InsK.lit (by omega) (by omega) ?_ | refine SpK.lit ?_ | refine GrdK.same ?_ | refine GrdK.tf ?_ | refine GrdK.ft ?_ | refine PickK.t ?_ | refine PickK.f ?_); (conv => whnf))
        refine InsK.rd hp.rd (by omega) (by omega) ?_
        (conv => whnf); repeat ((first | refine RngK.mk (by omega) (by omega) ?_ | refine NzK.mk (by omega) ?_ | refine NnK.mk (by omega) ?_ | refine BdK.mk (by omega) (by omega) (by omega) ?_ | refine InsK.lit (by omega) (by omega) ?_ | refine SpK.lit ?_ | refine GrdK.same ?_ | refine GrdK.tf ?_ | refine GrdK.ft ?_ | refine PickK.t ?_ | refine PickK.f ?_); (conv => whnf))
        refine LdK.rd (v := vU8 bs[at_]) hp.rd at_ rfl rfl rfl (by simp [ha]) ?_
        (conv => whnf); repeat ((first | refine RngK.mk (by omega) (by omega) ?_ | refine NzK.mk (by omega) ?_ | refine NnK.mk (by omega) ?_ | refine BdK.mk (by omega) (by omega) (by omega) ?_ | refine InsK.lit (by omega) (by omega) ?_ | refine SpK.lit ?_ | refine GrdK.same ?_ | refine GrdK.tf ?_ | refine GrdK.ft ?_ | refine PickK.t ?_ | refine PickK.f ?_); (conv => whnf))
        refine EffK.litV rfl rfl rfl rfl rfl rfl rfl rfl rfl ?_
        (conv => whnf); repeat ((first | refine RngK.mk (by omega) (by omega) ?_ | refine NzK.mk (by omega) ?_ | refine NnK.mk (by omega) ?_ | refine BdK.mk (by omega) (by omega) (by omega) ?_ | refine InsK.lit (by omega) (by omega) ?_ | refine SpK.lit ?_ | refine GrdK.same ?_ | refine GrdK.tf ?_ | refine GrdK.ft ?_ | refine PickK.t ?_ | refine PickK.f ?_); (conv => whnf))
        intro b2
        (conv => whnf); repeat ((first | refine RngK.mk (by omega) (by omega) ?_ | refine NzK.mk (by omega) ?_ | refine NnK.mk (by omega) ?_ | refine BdK.mk (by omega) (by omega) (by omega) ?_ | refine InsK.lit (by omega) (by omega) ?_ | refine SpK.lit ?_ | refine GrdK.same ?_ | refine GrdK.tf ?_ | refine GrdK.ft ?_ | refine PickK.t ?_ | refine PickK.f ?_); (conv => whnf))
        refine EffK.append 1 (news := [vU8 bs[at_]]) rfl rfl rfl rfl rfl rfl rfl rfl (Src.ownW (k := 0) rfl rfl) (by intro u hu; rcases List.mem_singleton.1 hu with rfl; rfl) (by simp [maxLen]; omega) (by show (_ + _) * 1 ≤ _; omega) fun A5 c5 => ?_
        (conv => whnf); repeat ((first | refine RngK.mk (by omega) (by omega) ?_ | refine NzK.mk (by omega) ?_ | refine NnK.mk (by omega) ?_ | refine BdK.mk (by omega) (by omega) (by omega) ?_ | refine InsK.lit (by omega) (by omega) ?_ | refine SpK.lit ?_ | refine GrdK.same ?_ | refine GrdK.tf ?_ | refine GrdK.ft ?_ | refine PickK.t ?_ | refine PickK.f ?_); (conv => whnf))
        refine ⟨(j + 1, A5, c5), ⟨rfl, rfl, rfl, rfl, rfl, trivial⟩, ?_, by simp only; omega, by simp only; omega⟩
        dsimp only
        rw [List.replicate_succ']
        exact HSub.of [1] rfl
      · have g := dF g
        obtain rfl : j = sz := by omega
        (conv => whnf); repeat ((first | refine RngK.mk (by omega) (by omega) ?_ | refine NzK.mk (by omega) ?_ | refine NnK.mk (by omega) ?_ | refine BdK.mk (by omega) (by omega) (by omega) ?_ | refine InsK.lit (by omega) (by omega) ?_ | refine SpK.lit ?_ | refine GrdK.same ?_ | refine GrdK.tf ?_ | refine GrdK.ft ?_ | refine PickK.t ?_ | refine PickK.f ?_); (conv => whnf))
        exact ⟨(A1, c1), ⟨rfl, rfl, trivial⟩, HSub.refl _, trivial⟩
    (conv => whnf); repeat ((first | refine RngK.mk (by omega) (by omega) ?_ | refine NzK.mk (by omega) ?_ | refine NnK.mk (by omega) ?_ | refine BdK.mk (by omega) (by omega) (by omega) ?_ | refine InsK.lit (by omega) (by omega) ?_ | refine SpK.lit ?_ | refine GrdK.same ?_ | refine GrdK.tf ?_ | refine GrdK.ft ?_ | refine PickK.t ?_ | refine PickK.f ?_); (conv => whnf))
    refine ⟨_, HSub.refl _, A1, c1, ?_, ?_⟩
    · show _ = Value.tuple #[.slice A1 (List.replicate sz bs[at_]).length c1, _, _]
      rw [List.length_replicate]
      rfl
    · show _ = [Chunk.own A1 (List.replicate sz bs[at_]).length c1 _ _ ((List.replicate sz bs[at_]).map vU8)]
      rw [List.length_replicate, List.map_replicate]
end Go.Proofs.YtgdhdkjbilifiaaDoor
