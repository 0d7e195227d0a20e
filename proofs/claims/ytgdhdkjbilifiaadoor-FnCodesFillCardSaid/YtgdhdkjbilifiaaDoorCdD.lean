/- Numbers of bytes, the lowest one first. Literals that stand as they are, or are one byte many times. The reference's raw literals, and the law FnRawLiterals: it returns true. The law FnRawLiterals: it returns true. -/
import Derived.Test.YtgdhdkjbilifiaaDoorSize
import Derived.Test.YtgdhdkjbilifiaaDoorBits
import Derived.Test.YtgdhdkjbilifiaaDoorU64
import Derived.Test.YtgdhdkjbilifiaaDoorCdB
namespace Go.Proofs.YtgdhdkjbilifiaaDoor
open Go Go.Sx
set_option maxRecDepth 100000
theorem number_spec (A : Option Addr) (n c : Nat) (bs : List UInt8) (h8 : n ≤ 8) : FnS Tryd.prog 45 [.slice A n c] [] (fun w => Rd w (blocks []) A n 1 (bs.map vU8)) (Is (vU64 (UInt64.ofNat (num bs)))) := by
  refine FnS.intro Tryd.func45 rfl (by kernel_rfl) rfl fun w hH hp => ?_
  have hl : bs.length = n := by simpa using hp.len
  conv => whnf
  refine RngK.mk (by omega) (by omega) ?_
  conv => whnf
  refine Wp.loop (fun k : Nat => [(0, .slice A n c), (3, .int .u64 (num (bs.drop k) : Nat)), (4, vI ((k : Int) - 1))]) (fun _ => []) (fun k => k ≤ n) (fun k => k) n
    ⟨rfl, by rw [List.drop_of_length_le (by omega)]; rfl, rfl, trivial⟩ (HSub.refl _) (Nat.le_refl _) fun k hk => ?_
  dsimp only at hk ⊢
  conv => whnf
  refine Wp.cond rfl (fun h => ?_) (fun h => ?_)
  · have h := dT h
    obtain ⟨j, rfl⟩ : ∃ j, k = j + 1 := ⟨k - 1, by omega⟩
    have hj : j < bs.length := by omega
    have hlt := num_lt (bs.drop (j + 1))
    have hle : 2 ^ (8 * (bs.drop (j + 1)).length) ≤ 2 ^ 56 := Nat.pow_le_pow_right (by omega) (by rw [List.length_drop]; omega)
    have hb := bs[j].toNat_lt
    conv => whnf
    refine NnK.mk (by omega) ?_
    conv => whnf
    refine InsK.rd hp (by omega) (by omega) ?_
    conv => whnf
    refine LdK.rd (v := vU8 bs[j]) hp j (by congr 1; omega) rfl rfl (by simp [hj]) ?_
    conv => whnf
    refine RngK.mk (by omega) (by omega) ?_
    conv => whnf
    refine ⟨j, ⟨rfl, ?_, ?_, trivial⟩, HSub.refl _, by omega, by omega⟩
    · show some _ = some _
      congr 2
      rw [wrap_u_lt (k := .u64) rfl (n := bs[j].toNat) (by show _ < 2 ^ 64; omega)]
      have e : ishl .u64 ((num (bs.drop (j + 1)) : Nat) : Int) 8 = _ := ishl_u (k := .u64) rfl (num (bs.drop (j + 1))) (n := 8) (by show 8 ≤ 64; omega)
      rw [e, Nat.mod_eq_of_lt (by show _ < 2 ^ 64; omega), ior_u (k := .u64) rfl (by show _ < 2 ^ 64; omega) (by show _ < 2 ^ 64; omega), Nat.or_comm, or_add (by omega), drop_at hj, num_cons]
      congr 1
      omega
    · show some _ = some _
      congr 2
      omega
  · have h := dF h
    obtain rfl : k = 0 := by omega
    conv => whnf
    refine ⟨?_, rfl⟩
    have hlt := num_lt bs
    have hle : 2 ^ (8 * bs.length) ≤ 2 ^ 64 := Nat.pow_le_pow_right (by omega) (by omega)
    rw [List.drop_zero]
    unfold vU64
    rw [UInt64.toNat_ofNat_of_lt' (by simp [UInt64.size]; omega)]
end Go.Proofs.YtgdhdkjbilifiaaDoor
namespace Go.Proofs.YtgdhdkjbilifiaaDoor
open Go Go.Sx
set_option maxRecDepth 100000
theorem Wp.nilC {P : Program} {n : Nat} {w0 : World} {W : Nat → Prop} {H : Hp} (e : TypeId) (sz : Nat) {c : Code} {σ : Sl} {κ : Conts} (h : Wp P n w0 W c σ (.own none 0 0 e sz [] :: H) κ) : Wp P n w0 W c σ H κ := ⟨fun hok a w hr hw => h.wp hok a w hr (hw.nilOwn e sz)⟩
def more (h : Nat) : Nat := if h / 4 % 4 = 1 then 1 else if h / 4 % 4 = 3 then 2 else 0
def rawN (bs : List UInt8) (off h : Nat) : Nat := if h / 4 % 4 = 1 ∨ h / 4 % 4 = 3 then h / 16 + 16 * num ((bs.drop off).take (more h)) else h / 8
inductive RawT | right (l : List UInt8) (p : Nat) | wrong | unsaid
def rawM (bs : List UInt8) (off h : Nat) : RawT :=
  if bs.length < off + more h then .wrong
  else if 131072 < rawN bs off h then .unsaid
  else if h % 4 = 0 then if bs.length < off + more h + rawN bs off h then .wrong else .right ((bs.drop (off + more h)).take (rawN bs off h)) (off + more h + rawN bs off h)
  else if bs.length ≤ off + more h then .wrong else .right (List.replicate (rawN bs off h) (bs.getD (off + more h) 0)) (off + more h + 1)
theorem num_take1 {bs : List UInt8} {o : Nat} (h : o < bs.length) : num ((bs.drop o).take 1) = bs[o].toNat := by
  rw [List.drop_eq_getElem_cons h, List.take_succ_cons, List.take_zero, num_cons, num_nil]
  omega
theorem num_take2 {bs : List UInt8} {o : Nat} (h : o + 1 < bs.length) : num ((bs.drop o).take 2) = bs[o].toNat + 256 * bs[o + 1].toNat := by
  rw [List.drop_eq_getElem_cons (show o < bs.length by omega), List.drop_eq_getElem_cons h, List.take_succ_cons, List.take_succ_cons, List.take_zero, num_cons, num_cons, num_nil]
  omega
set_option maxHeartbeats 4000000 in
theorem readRaw_spec (r : Nat) (A : Option Addr) (n c : Nat) (bs : List UInt8) (e u : Addr) (off : Nat) (h : UInt8) (hn : n ≤ 16777216) (ho : off ≤ n) :
    FnS Tryd.prog 56 [.pointer (some ⟨r, 0, none⟩), .slice A n c, vN off, vU8 h, .slice none 0 0] [] (fun w => BrPre w (blocks []) r A n c bs e u)
      (fun v H => match rawM bs off h.toNat with
        | .right l p => ∃ A1 c1, v = .tuple #[vN p, .slice A1 l.length c1, .nilIface] ∧ H = [.own A1 l.length c1 5 1 (l.map vU8)]
        | _ => ∃ T' x, v = .tuple #[vI 0, .slice none 0 0, .iface T' x] ∧ H = []) := by
  refine FnS.introD Tryd.func56 rfl (by kernel_rfl) rfl fun w hH hp => ?_
  obtain rfl : bs.length = n := hp.by_.len
  have hq := h.toNat_lt
  obtain ⟨q, hqe⟩ : ∃ q, h.toNat = q := ⟨_, rfl⟩
  obtain ⟨R, hR⟩ : ∃ R, rawM bs off q = R := ⟨_, rfl⟩
  have e3 : iand .u8 (q : Int) 3 = ((q % 4 : Nat) : Int) := by
    have := iand_u (k := .u8) rfl (x := q) (y := 3) (by rw [← hqe]; exact hq) (by decide)
    rw [show (3 : Nat) = 2 ^ 2 - 1 by rfl, Nat.and_two_pow_sub_one_eq_mod] at this
    exact this
  have e2 : ishr .u8 (q : Int) 2 = ((q / 4 : Nat) : Int) := ishr_nat .u8 _ (n := 2) (by decide)
  have e4 : ishr .u8 (q : Int) 4 = ((q / 16 : Nat) : Int) := ishr_nat .u8 _ (n := 4) (by decide)
  have e8 : ishr .u8 (q : Int) 3 = ((q / 8 : Nat) : Int) := ishr_nat .u8 _ (n := 3) (by decide)
  have e5 : iand .u8 ((q / 4 : Nat) : Int) 3 = ((q / 4 % 4 : Nat) : Int) := by
    have := iand_u (k := .u8) rfl (x := q / 4) (y := 3) (by rw [← hqe]; show _ < 256; omega) (by decide)
    rw [show (3 : Nat) = 2 ^ 2 - 1 by rfl, Nat.and_two_pow_sub_one_eq_mod] at this
    exact this
  rw [hqe, hR]
  rw [hqe] at hq
  (conv => whnf); repeat ((first | refine RngK.mk (by omega) (by omega) ?_ | refine NzK.mk (by omega) ?_ | refine NnK.mk (by omega) ?_ | refine BdK.mk (by omega) (by omega) (by omega) ?_ | refine InsK.lit (by omega) (by omega) ?_ | refine SpK.lit ?_ | refine GrdK.same ?_ | refine GrdK.tf ?_ | refine GrdK.ft ?_ | refine PickK.t ?_ | refine PickK.f ?_); (conv => whnf))
  rw [hqe, e3, e2, e5]
  have hk4 : q / 4 % 4 < 4 := Nat.mod_lt _ (by omega)
  obtain ⟨k, hke⟩ : ∃ k, q / 4 % 4 = k := ⟨_, rfl⟩
  have hR' := hR
  unfold rawM at hR'
  have hmo : more q = if k = 1 then 1 else if k = 3 then 2 else 0 := by unfold more; rw [hke]
  have hsz : rawN bs off q = if k = 1 ∨ k = 3 then q / 16 + 16 * num ((bs.drop off).take (more q)) else q / 8 := by unfold rawN; rw [hke]
  rw [hke] at hk4 ⊢
  refine Wp.cut (fun _ : Unit => [(0, .pointer (some ⟨r, 0, none⟩)), (1, .slice A bs.length c), (2, vN off), (3, vU8 h), (4, .slice none 0 0), (13, vB ((q % 4 : Nat) == (0 : Int))), (22, .int .u8 k), (23, vB (decide (k = 0 ∨ k = 2)))]) (fun _ => []) (fun _ => True) ?_ fun _ _ => ?_
  · refine Wp.cond rfl (fun g => ?_) (fun g => ?_)
    · have g : (k : Int) = 0 := eqT g
      obtain rfl : k = 0 := by omega
      (conv => whnf); repeat ((first | refine RngK.mk (by omega) (by omega) ?_ | refine NzK.mk (by omega) ?_ | refine NnK.mk (by omega) ?_ | refine BdK.mk (by omega) (by omega) (by omega) ?_ | refine InsK.lit (by omega) (by omega) ?_ | refine SpK.lit ?_ | refine GrdK.same ?_ | refine GrdK.tf ?_ | refine GrdK.ft ?_ | refine PickK.t ?_ | refine PickK.f ?_); (conv => whnf))
      exact ⟨(), ⟨rfl, rfl, rfl, rfl, rfl, rfl, rfl, rfl, trivial⟩, HSub.refl _, trivial⟩
    · have g : (k : Int) ≠ 0 := eqF g
      (conv => whnf); repeat ((first | refine RngK.mk (by omega) (by omega) ?_ | refine NzK.mk (by omega) ?_ | refine NnK.mk (by omega) ?_ | refine BdK.mk (by omega) (by omega) (by omega) ?_ | refine InsK.lit (by omega) (by omega) ?_ | refine SpK.lit ?_ | refine GrdK.same ?_ | refine GrdK.tf ?_ | refine GrdK.ft ?_ | refine PickK.t ?_ | refine PickK.f ?_); (conv => whnf))
      refine ⟨(), ⟨rfl, rfl, rfl, rfl, rfl, rfl, rfl, ?_, trivial⟩, HSub.refl _, trivial⟩
      show some (Value.bool _) = some (Value.bool _)
      congr 2
      rw [Bool.eq_iff_iff]
      simp
      omega
  (conv => whnf); repeat ((first | refine RngK.mk (by omega) (by omega) ?_ | refine NzK.mk (by omega) ?_ | refine NnK.mk (by omega) ?_ | refine BdK.mk (by omega) (by omega) (by omega) ?_ | refine InsK.lit (by omega) (by omega) ?_ | refine SpK.lit ?_ | refine GrdK.same ?_ | refine GrdK.tf ?_ | refine GrdK.ft ?_ | refine PickK.t ?_ | refine PickK.f ?_); (conv => whnf))
  refine Wp.cut (fun _ : Unit => [(0, .pointer (some ⟨r, 0, none⟩)), (1, .slice A bs.length c), (2, vN (off + more q)), (4, .slice none 0 0), (13, vB ((q % 4 : Nat) == (0 : Int))), (14, vN (rawN bs off q))]) (fun _ => []) (fun _ => off + more q ≤ bs.length ∧ rawN bs off q ≤ 16777216) ?_ fun _ ⟨hmb, hsb⟩ => ?_
  · by_cases h02 : k = 0 ∨ k = 2
    · rw [decide_eq_true h02]
      have hm0 : more q = 0 := by rw [hmo, if_neg (by omega), if_neg (by omega)]
      have hs0 : rawN bs off q = q / 8 := by rw [hsz, if_neg (by omega)]
      refine Wp.cond rfl (fun _ => ?_) (fun h => by cases h)
      (conv => whnf); repeat ((first | refine RngK.mk (by omega) (by omega) ?_ | refine NzK.mk (by omega) ?_ | refine NnK.mk (by omega) ?_ | refine BdK.mk (by omega) (by omega) (by omega) ?_ | refine InsK.lit (by omega) (by omega) ?_ | refine SpK.lit ?_ | refine GrdK.same ?_ | refine GrdK.tf ?_ | refine GrdK.ft ?_ | refine PickK.t ?_ | refine PickK.f ?_); (conv => whnf))
      rw [hqe, e8]
      (conv => whnf); repeat ((first | refine RngK.mk (by omega) (by omega) ?_ | refine NzK.mk (by omega) ?_ | refine NnK.mk (by omega) ?_ | refine BdK.mk (by omega) (by omega) (by omega) ?_ | refine InsK.lit (by omega) (by omega) ?_ | refine SpK.lit ?_ | refine GrdK.same ?_ | refine GrdK.tf ?_ | refine GrdK.ft ?_ | refine PickK.t ?_ | refine PickK.f ?_); (conv => whnf))
      exact ⟨(), ⟨rfl, rfl, by show some (vN _) = some (vN _); rw [hm0]; rfl, rfl, rfl, by show some (vN _) = some (vN _); rw [hs0], trivial⟩, HSub.refl _, by omega, by omega⟩
    rw [decide_eq_false h02]
    refine Wp.cond rfl (fun h => by cases h) (fun _ => ?_)
    have e16 : ∀ x : Nat, x < 256 → ishl .i64 (x : Int) 4 = ((x * 16 : Nat) : Int) := fun x hx => ishl_i64 (x := x) (n := 4) (by omega) (by omega)
    have e4k : ∀ x : Nat, x < 256 → ishl .i64 (x : Int) 12 = ((x * 4096 : Nat) : Int) := fun x hx => ishl_i64 (x := x) (n := 12) (by omega) (by omega)
    by_cases h1 : k = 1
    · subst h1
      have hm1 : more q = 1 := by rw [hmo]; rfl
      rw [hm1] at hR' hsz
      (conv => whnf); repeat ((first | refine RngK.mk (by omega) (by omega) ?_ | refine NzK.mk (by omega) ?_ | refine NnK.mk (by omega) ?_ | refine BdK.mk (by omega) (by omega) (by omega) ?_ | refine InsK.lit (by omega) (by omega) ?_ | refine SpK.lit ?_ | refine GrdK.same ?_ | refine GrdK.tf ?_ | refine GrdK.ft ?_ | refine PickK.t ?_ | refine PickK.f ?_); (conv => whnf))
      refine Wp.cond rfl (fun _ => ?_) (fun h => by cases h)
      (conv => whnf); repeat ((first | refine RngK.mk (by omega) (by omega) ?_ | refine NzK.mk (by omega) ?_ | refine NnK.mk (by omega) ?_ | refine BdK.mk (by omega) (by omega) (by omega) ?_ | refine InsK.lit (by omega) (by omega) ?_ | refine SpK.lit ?_ | refine GrdK.same ?_ | refine GrdK.tf ?_ | refine GrdK.ft ?_ | refine PickK.t ?_ | refine PickK.f ?_); (conv => whnf))
      refine Wp.cond rfl (fun g => ?_) (fun g => ?_)
      · have g := dT g
        rw [if_pos (by omega)] at hR'
        subst hR'
        (conv => whnf); repeat ((first | refine RngK.mk (by omega) (by omega) ?_ | refine NzK.mk (by omega) ?_ | refine NnK.mk (by omega) ?_ | refine BdK.mk (by omega) (by omega) (by omega) ?_ | refine InsK.lit (by omega) (by omega) ?_ | refine SpK.lit ?_ | refine GrdK.same ?_ | refine GrdK.tf ?_ | refine GrdK.ft ?_ | refine PickK.t ?_ | refine PickK.f ?_); (conv => whnf))
        refine CallK.of [] (eof_spec r off e u (by omega) (by omega)) rfl (fun w hw => ⟨hp.la.pass hw, hp.rr.pass hw⟩) ?_
        rintro _ _ ⟨⟨T0, x0, rfl⟩, rfl⟩
        (conv => whnf); repeat ((first | refine RngK.mk (by omega) (by omega) ?_ | refine NzK.mk (by omega) ?_ | refine NnK.mk (by omega) ?_ | refine BdK.mk (by omega) (by omega) (by omega) ?_ | refine InsK.lit (by omega) (by omega) ?_ | refine SpK.lit ?_ | refine GrdK.same ?_ | refine GrdK.tf ?_ | refine GrdK.ft ?_ | refine PickK.t ?_ | refine PickK.f ?_); (conv => whnf))
        exact ⟨_, HSub.nil _, _, _, rfl, rfl⟩
      have g := dF g
      have ho1 : off < bs.length := by omega
      have hd := bs[off].toNat_lt
      rw [if_pos (by omega), num_take1 ho1] at hsz
      (conv => whnf); repeat ((first | refine RngK.mk (by omega) (by omega) ?_ | refine NzK.mk (by omega) ?_ | refine NnK.mk (by omega) ?_ | refine BdK.mk (by omega) (by omega) (by omega) ?_ | refine InsK.lit (by omega) (by omega) ?_ | refine SpK.lit ?_ | refine GrdK.same ?_ | refine GrdK.tf ?_ | refine GrdK.ft ?_ | refine PickK.t ?_ | refine PickK.f ?_); (conv => whnf))
      rw [hqe, e4]
      (conv => whnf); repeat ((first | refine RngK.mk (by omega) (by omega) ?_ | refine NzK.mk (by omega) ?_ | refine NnK.mk (by omega) ?_ | refine BdK.mk (by omega) (by omega) (by omega) ?_ | refine InsK.lit (by omega) (by omega) ?_ | refine SpK.lit ?_ | refine GrdK.same ?_ | refine GrdK.tf ?_ | refine GrdK.ft ?_ | refine PickK.t ?_ | refine PickK.f ?_); (conv => whnf))
      refine InsK.rd hp.by_.rd (by omega) (by omega) ?_
      (conv => whnf); repeat ((first | refine RngK.mk (by omega) (by omega) ?_ | refine NzK.mk (by omega) ?_ | refine NnK.mk (by omega) ?_ | refine BdK.mk (by omega) (by omega) (by omega) ?_ | refine InsK.lit (by omega) (by omega) ?_ | refine SpK.lit ?_ | refine GrdK.same ?_ | refine GrdK.tf ?_ | refine GrdK.ft ?_ | refine PickK.t ?_ | refine PickK.f ?_); (conv => whnf))
      refine LdK.rd (v := vU8 bs[off]) hp.by_.rd off rfl rfl rfl (by simp [ho1]) ?_
      (conv => whnf); repeat ((first | refine RngK.mk (by omega) (by omega) ?_ | refine NzK.mk (by omega) ?_ | refine NnK.mk (by omega) ?_ | refine BdK.mk (by omega) (by omega) (by omega) ?_ | refine InsK.lit (by omega) (by omega) ?_ | refine SpK.lit ?_ | refine GrdK.same ?_ | refine GrdK.tf ?_ | refine GrdK.ft ?_ | refine PickK.t ?_ | refine PickK.f ?_); (conv => whnf))
      rw [e16 _ hd]
      (conv => whnf); repeat ((first | refine RngK.mk (by omega) (by omega) ?_ | refine NzK.mk (by omega) ?_ | refine NnK.mk (by omega) ?_ | refine BdK.mk (by omega) (by omega) (by omega) ?_ | refine InsK.lit (by omega) (by omega) ?_ | refine SpK.lit ?_ | refine GrdK.same ?_ | refine GrdK.tf ?_ | refine GrdK.ft ?_ | refine PickK.t ?_ | refine PickK.f ?_); (conv => whnf))
      exact ⟨(), ⟨rfl, rfl, by show some (vI _) = some (vN _); rw [hm1]; rfl, rfl, rfl, by show some (vI _) = some (vN _); rw [hsz]; congr 2; omega, trivial⟩, HSub.refl _, by omega, by omega⟩
    · obtain rfl : k = 3 := by omega
      have hm2 : more q = 2 := by rw [hmo]; rfl
      rw [hm2] at hR' hsz
      (conv => whnf); repeat ((first | refine RngK.mk (by omega) (by omega) ?_ | refine NzK.mk (by omega) ?_ | refine NnK.mk (by omega) ?_ | refine BdK.mk (by omega) (by omega) (by omega) ?_ | refine InsK.lit (by omega) (by omega) ?_ | refine SpK.lit ?_ | refine GrdK.same ?_ | refine GrdK.tf ?_ | refine GrdK.ft ?_ | refine PickK.t ?_ | refine PickK.f ?_); (conv => whnf))
      refine Wp.cond rfl (fun h => by cases h) (fun _ => ?_)
      (conv => whnf); repeat ((first | refine RngK.mk (by omega) (by omega) ?_ | refine NzK.mk (by omega) ?_ | refine NnK.mk (by omega) ?_ | refine BdK.mk (by omega) (by omega) (by omega) ?_ | refine InsK.lit (by omega) (by omega) ?_ | refine SpK.lit ?_ | refine GrdK.same ?_ | refine GrdK.tf ?_ | refine GrdK.ft ?_ | refine PickK.t ?_ | refine PickK.f ?_); (conv => whnf))
      refine Wp.cond rfl (fun _ => ?_) (fun h => by cases h)
      (conv => whnf); repeat ((first | refine RngK.mk (by omega) (by omega) ?_ | refine NzK.mk (by omega) ?_ | refine NnK.mk (by omega) ?_ | refine BdK.mk (by omega) (by omega) (by omega) ?_ | refine InsK.lit (by omega) (by omega) ?_ | refine SpK.lit ?_ | refine GrdK.same ?_ | refine GrdK.tf ?_ | refine GrdK.ft ?_ | refine PickK.t ?_ | refine PickK.f ?_); (conv => whnf))
      refine Wp.cond rfl (fun g => ?_) (fun g => ?_)
      · have g := dT g
        rw [if_pos (by omega)] at hR'
        subst hR'
        (conv => whnf); repeat ((first | refine RngK.mk (by omega) (by omega) ?_ | refine NzK.mk (by omega) ?_ | refine NnK.mk (by omega) ?_ | refine BdK.mk (by omega) (by omega) (by omega) ?_ | refine InsK.lit (by omega) (by omega) ?_ | refine SpK.lit ?_ | refine GrdK.same ?_ | refine GrdK.tf ?_ | refine GrdK.ft ?_ | refine PickK.t ?_ | refine PickK.f ?_); (conv => whnf))
        refine CallK.of [] (eof_spec r off e u (by omega) (by omega)) rfl (fun w hw => ⟨hp.la.pass hw, hp.rr.pass hw⟩) ?_
        rintro _ _ ⟨⟨T0, x0, rfl⟩, rfl⟩
        (conv => whnf); repeat ((first | refine RngK.mk (by omega) (by omega) ?_ | refine NzK.mk (by omega) ?_ | refine NnK.mk (by omega) ?_ | refine BdK.mk (by omega) (by omega) (by omega) ?_ | refine InsK.lit (by omega) (by omega) ?_ | refine SpK.lit ?_ | refine GrdK.same ?_ | refine GrdK.tf ?_ | refine GrdK.ft ?_ | refine PickK.t ?_ | refine PickK.f ?_); (conv => whnf))
        exact ⟨_, HSub.nil _, _, _, rfl, rfl⟩
      have g := dF g
      have ho2 : off + 1 < bs.length := by omega
      have ho1 : off < bs.length := by omega
      have hd := bs[off].toNat_lt
      have hd2 := bs[off + 1].toNat_lt
      rw [if_pos (by omega), num_take2 ho2] at hsz
      (conv => whnf); repeat ((first | refine RngK.mk (by omega) (by omega) ?_ | refine NzK.mk (by omega) ?_ | refine NnK.mk (by omega) ?_ | refine BdK.mk (by omega) (by omega) (by omega) ?_ | refine InsK.lit (by omega) (by omega) ?_ | refine SpK.lit ?_ | refine GrdK.same ?_ | refine GrdK.tf ?_ | refine GrdK.ft ?_ | refine PickK.t ?_ | refine PickK.f ?_); (conv => whnf))
      refine DrwK.ord (by kernel_rfl) [0, 1, 2, 3, 4, 5, 6, 7, 8, 9, 10, 11, 12, 13, 14, 15, 16, 17, 18] (by kernel_rfl) ?_; conv => whnf
      (conv => whnf); repeat ((first | refine RngK.mk (by omega) (by omega) ?_ | refine NzK.mk (by omega) ?_ | refine NnK.mk (by omega) ?_ | refine BdK.mk (by omega) (by omega) (by omega) ?_ | refine InsK.lit (by omega) (by omega) ?_ | refine SpK.lit ?_ | refine GrdK.same ?_ | refine GrdK.tf ?_ | refine GrdK.ft ?_ | refine PickK.t ?_ | refine PickK.f ?_); (conv => whnf))
      rw [hqe, e4]
      (conv => whnf); repeat ((first | refine RngK.mk (by omega) (by omega) ?_ | refine NzK.mk (by omega) ?_ | refine NnK.mk (by omega) ?_ | refine BdK.mk (by omega) (by omega) (by omega) ?_ | refine InsK.lit (by omega) (by omega) ?_ | refine SpK.lit ?_ | refine GrdK.same ?_ | refine GrdK.tf ?_ | refine GrdK.ft ?_ | refine PickK.t ?_ | refine PickK.f ?_); (conv => whnf))
      refine InsK.rd hp.by_.rd (by omega) (by omega) ?_
      (conv => whnf); repeat ((first | refine RngK.mk (by omega) (by omega) ?_ | refine NzK.mk (by omega) ?_ | refine NnK.mk (by omega) ?_ | refine BdK.mk (by omega) (by omega) (by omega) ?_ | refine InsK.lit (by omega) (by omega) ?_ | refine SpK.lit ?_ | refine GrdK.same ?_ | refine GrdK.tf ?_ | refine GrdK.ft ?_ | refine PickK.t ?_ | refine PickK.f ?_); (conv => whnf))
      refine LdK.rd (v := vU8 bs[off]) hp.by_.rd off rfl rfl rfl (by simp [ho1]) ?_
      (conv => whnf); repeat ((first | refine RngK.mk (by omega) (by omega) ?_ | refine NzK.mk (by omega) ?_ | refine NnK.mk (by omega) ?_ | refine BdK.mk (by omega) (by omega) (by omega) ?_ | refine InsK.lit (by omega) (by omega) ?_ | refine SpK.lit ?_ | refine GrdK.same ?_ | refine GrdK.tf ?_ | refine GrdK.ft ?_ | refine PickK.t ?_ | refine PickK.f ?_); (conv => whnf))
      rw [e16 _ hd]
      (conv => whnf); repeat ((first | refine RngK.mk (by omega) (by omega) ?_ | refine NzK.mk (by omega) ?_ | refine NnK.mk (by omega) ?_ | refine BdK.mk (by omega) (by omega) (by omega) ?_ | refine InsK.lit (by omega) (by omega) ?_ | refine SpK.lit ?_ | refine GrdK.same ?_ | refine GrdK.tf ?_ | refine GrdK.ft ?_ | refine PickK.t ?_ | refine PickK.f ?_); (conv => whnf))
      refine InsK.rd hp.by_.rd (by omega) (by omega) ?_
      (conv => whnf); repeat ((first | refine RngK.mk (by omega) (by omega) ?_ | refine NzK.mk (by omega) ?_ | refine NnK.mk (by omega) ?_ | refine BdK.mk (by omega) (by omega) (by omega) ?_ | refine InsK.lit (by omega) (by omega) ?_ | refine SpK.lit ?_ | refine GrdK.same ?_ | refine GrdK.tf ?_ | refine GrdK.ft ?_ | refine PickK.t ?_ | refine PickK.f ?_); (conv => whnf))
      refine LdK.rd (v := vU8 bs[off + 1]) hp.by_.rd (off + 1) rfl rfl rfl (by simp [ho2]) ?_
      (conv => whnf); repeat ((first | refine RngK.mk (by omega) (by omega) ?_ | refine NzK.mk (by omega) ?_ | refine NnK.mk (by omega) ?_ | refine BdK.mk (by omega) (by omega) (by omega) ?_ | refine InsK.lit (by omega) (by omega) ?_ | refine SpK.lit ?_ | refine GrdK.same ?_ | refine GrdK.tf ?_ | refine GrdK.ft ?_ | refine PickK.t ?_ | refine PickK.f ?_); (conv => whnf))
      rw [e4k _ hd2]
      (conv => whnf); repeat ((first | refine RngK.mk (by omega) (by omega) ?_ | refine NzK.mk (by omega) ?_ | refine NnK.mk (by omega) ?_ | refine BdK.mk (by omega) (by omega) (by omega) ?_ | refine InsK.lit (by omega) (by omega) ?_ | refine SpK.lit ?_ | refine GrdK.same ?_ | refine GrdK.tf ?_ | refine GrdK.ft ?_ | refine PickK.t ?_ | refine PickK.f ?_); (conv => whnf))
      exact ⟨(), ⟨rfl, rfl, by show some (vI _) = some (vN _); rw [hm2]; rfl, rfl, rfl, by show some (vI _) = some (vN _); rw [hsz]; congr 2; omega, trivial⟩, HSub.refl _, by omega, by omega⟩
  rw [if_neg (by omega)] at hR'
  obtain ⟨at_, hat⟩ : ∃ at_, off + more q = at_ := ⟨_, rfl⟩
  obtain ⟨sz, hsz'⟩ : ∃ sz, rawN bs off q = sz := ⟨_, rfl⟩
  rw [hat, hsz'] at hR'
  rw [hat] at hmb ⊢
  rw [hsz'] at hsb ⊢
  clear hmo hsz
  (conv => whnf); repeat ((first | refine RngK.mk (by omega) (by omega) ?_ | refine NzK.mk (by omega) ?_ | refine NnK.mk (by omega) ?_ | refine BdK.mk (by omega) (by omega) (by omega) ?_ | refine InsK.lit (by omega) (by omega) ?_ | refine SpK.lit ?_ | refine GrdK.same ?_ | refine GrdK.tf ?_ | refine GrdK.ft ?_ | refine PickK.t ?_ | refine PickK.f ?_); (conv => whnf))
  refine Wp.cond rfl (fun g => ?_) (fun g => ?_)
  · have g := dT g
    rw [if_pos (by omega)] at hR'
    subst hR'
    (conv => whnf); repeat ((first | refine RngK.mk (by omega) (by omega) ?_ | refine NzK.mk (by omega) ?_ | refine NnK.mk (by omega) ?_ | refine BdK.mk (by omega) (by omega) (by omega) ?_ | refine InsK.lit (by omega) (by omega) ?_ | refine SpK.lit ?_ | refine GrdK.same ?_ | refine GrdK.tf ?_ | refine GrdK.ft ?_ | refine PickK.t ?_ | refine PickK.f ?_); (conv => whnf))
    refine CallK.of [] (err_spec r at_ _ e u (by omega) (by omega)) rfl (fun w hw => ⟨hp.la.pass hw, hp.rr.pass hw⟩) ?_
    rintro _ _ ⟨⟨T0, x0, rfl⟩, rfl⟩
    (conv => whnf); repeat ((first | refine RngK.mk (by omega) (by omega) ?_ | refine NzK.mk (by omega) ?_ | refine NnK.mk (by omega) ?_ | refine BdK.mk (by omega) (by omega) (by omega) ?_ | refine InsK.lit (by omega) (by omega) ?_ | refine SpK.lit ?_ | refine GrdK.same ?_ | refine GrdK.tf ?_ | refine GrdK.ft ?_ | refine PickK.t ?_ | refine PickK.f ?_); (conv => whnf))
    exact ⟨_, HSub.nil _, _, _, rfl, rfl⟩
  have g := dF g
  rw [if_neg (by omega)] at hR'
  (conv => whnf); repeat ((first | refine RngK.mk (by omega) (by omega) ?_ | refine NzK.mk (by omega) ?_ | refine NnK.mk (by omega) ?_ | refine BdK.mk (by omega) (by omega) (by omega) ?_ | refine InsK.lit (by omega) (by omega) ?_ | refine SpK.lit ?_ | refine GrdK.same ?_ | refine GrdK.tf ?_ | refine GrdK.ft ?_ | refine PickK.t ?_ | refine PickK.f ?_); (conv => whnf))
  by_cases hq4 : q % 4 = 0
  · rw [if_pos hq4] at hR'
    have : (((q % 4 : Nat) : Int) == 0) = true := by simp; omega
    rw [this]
    have hle := hp.by_.le
    refine Wp.cond rfl (fun _ => ?_) (fun h => by cases h)
    (conv => whnf); repeat ((first | refine RngK.mk (by omega) (by omega) ?_ | refine NzK.mk (by omega) ?_ | refine NnK.mk (by omega) ?_ | refine BdK.mk (by omega) (by omega) (by omega) ?_ | refine InsK.lit (by omega) (by omega) ?_ | refine SpK.lit ?_ | refine GrdK.same ?_ | refine GrdK.tf ?_ | refine GrdK.ft ?_ | refine PickK.t ?_ | refine PickK.f ?_); (conv => whnf))
    refine Wp.nilC 5 1 ?_
    refine Wp.cond rfl (fun g => ?_) (fun g => ?_)
    · have g := dT g
      rw [if_pos (by omega)] at hR'
      subst hR'
      (conv => whnf); repeat ((first | refine RngK.mk (by omega) (by omega) ?_ | refine NzK.mk (by omega) ?_ | refine NnK.mk (by omega) ?_ | refine BdK.mk (by omega) (by omega) (by omega) ?_ | refine InsK.lit (by omega) (by omega) ?_ | refine SpK.lit ?_ | refine GrdK.same ?_ | refine GrdK.tf ?_ | refine GrdK.ft ?_ | refine PickK.t ?_ | refine PickK.f ?_); (conv => whnf))
      refine CallK.of [] (err_spec r at_ _ e u (by omega) (by omega)) rfl (fun w hw => ⟨hp.la.pass hw, hp.rr.pass hw⟩) ?_
      rintro _ _ ⟨⟨T0, x0, rfl⟩, rfl⟩
      (conv => whnf); repeat ((first | refine RngK.mk (by omega) (by omega) ?_ | refine NzK.mk (by omega) ?_ | refine NnK.mk (by omega) ?_ | refine BdK.mk (by omega) (by omega) (by omega) ?_ | refine InsK.lit (by omega) (by omega) ?_ | refine SpK.lit ?_ | refine GrdK.same ?_ | refine GrdK.tf ?_ | refine GrdK.ft ?_ | refine PickK.t ?_ | refine PickK.f ?_); (conv => whnf))
      exact ⟨_, HSub.nil _, _, _, rfl, rfl⟩
    have g := dF g
    rw [if_neg (by omega)] at hR'
    subst hR'
    (conv => whnf); repeat ((first | refine RngK.mk (by omega) (by omega) ?_ | refine NzK.mk (by omega) ?_ | refine NnK.mk (by omega) ?_ | refine BdK.mk (by omega) (by omega) (by omega) ?_ | refine InsK.lit (by omega) (by omega) ?_ | refine SpK.lit ?_ | refine GrdK.same ?_ | refine GrdK.tf ?_ | refine GrdK.ft ?_ | refine PickK.t ?_ | refine PickK.f ?_); (conv => whnf))
    refine Bytes.sp hp.by_ (by omega) ?_
    (conv => whnf); repeat ((first | refine RngK.mk (by omega) (by omega) ?_ | refine NzK.mk (by omega) ?_ | refine NnK.mk (by omega) ?_ | refine BdK.mk (by omega) (by omega) (by omega) ?_ | refine InsK.lit (by omega) (by omega) ?_ | refine SpK.lit ?_ | refine GrdK.same ?_ | refine GrdK.tf ?_ | refine GrdK.ft ?_ | refine PickK.t ?_ | refine PickK.f ?_); (conv => whnf))
    have en : ((at_ : Int) + (sz : Int)).toNat - (at_ : Int).toNat = sz := by omega
    rw [en]
    have hlt : ((bs.drop at_).take sz).length = sz := by simp; omega
    refine EffK.append 0 (news := ((bs.drop at_).take sz).map vU8) rfl rfl rfl rfl rfl rfl rfl rfl (Src.rd (hp.by_.cut (l := at_) (q := sz) (by omega)).rd) vU8_one (by simp [maxLen]; omega) (by show (_ + _) * 1 ≤ _; omega) fun A5 c5 => ?_
    (conv => whnf); repeat ((first | refine RngK.mk (by omega) (by omega) ?_ | refine NzK.mk (by omega) ?_ | refine NnK.mk (by omega) ?_ | refine BdK.mk (by omega) (by omega) (by omega) ?_ | refine InsK.lit (by omega) (by omega) ?_ | refine SpK.lit ?_ | refine GrdK.same ?_ | refine GrdK.tf ?_ | refine GrdK.ft ?_ | refine PickK.t ?_ | refine PickK.f ?_); (conv => whnf))
    refine ⟨_, HSub.of [0] rfl, A5, c5, ?_, ?_⟩
    · rw [hlt, Nat.zero_add]
      rfl
    · rw [hlt, Nat.zero_add]
      rfl
  · rw [if_neg hq4] at hR'
    have : (((q % 4 : Nat) : Int) == 0) = false := by simp; omega
    rw [this]
    refine Wp.cond rfl (fun h => by cases h) (fun _ => ?_)
    (conv => whnf); repeat ((first | refine RngK.mk (by omega) (by omega) ?_ | refine NzK.mk (by omega) ?_ | refine NnK.mk (by omega) ?_ | refine BdK.mk (by omega) (by omega) (by omega) ?_ | refine InsK.lit (by omega) (by omega) ?_ | refine SpK.lit ?_ | refine GrdK.same ?_ | refine GrdK.tf ?_ | refine GrdK.ft ?_ | refine PickK.t ?_ | refine PickK.f ?_); (conv => whnf))
    refine Wp.cond rfl (fun g => ?_) (fun g => ?_)
    · have g := dT g
      rw [if_pos (by omega)] at hR'
      subst hR'
      (conv => whnf); repeat ((first | refine RngK.mk (by omega) (by omega) ?_ | refine NzK.mk (by omega) ?_ | refine NnK.mk (by omega) ?_ | refine BdK.mk (by omega) (by omega) (by omega) ?_ | refine InsK.lit (by omega) (by omega) ?_ | refine SpK.lit ?_ | refine GrdK.same ?_ | refine GrdK.tf ?_ | refine GrdK.ft ?_ | refine PickK.t ?_ | refine PickK.f ?_); (conv => whnf))
      refine CallK.of [] (err_spec r at_ _ e u (by omega) (by omega)) rfl (fun w hw => ⟨hp.la.pass hw, hp.rr.pass hw⟩) ?_
      rintro _ _ ⟨⟨T0, x0, rfl⟩, rfl⟩
      (conv => whnf); repeat ((first | refine RngK.mk (by omega) (by omega) ?_ | refine NzK.mk (by omega) ?_ | refine NnK.mk (by omega) ?_ | refine BdK.mk (by omega) (by omega) (by omega) ?_ | refine InsK.lit (by omega) (by omega) ?_ | refine SpK.lit ?_ | refine GrdK.same ?_ | refine GrdK.tf ?_ | refine GrdK.ft ?_ | refine PickK.t ?_ | refine PickK.f ?_); (conv => whnf))
      exact ⟨_, HSub.nil _, _, _, rfl, rfl⟩
    have g := dF g
    rw [if_neg (by omega)] at hR'
    subst hR'
    have ha : at_ < bs.length := by omega
    have hgd : bs.getD at_ 0 = bs[at_] := by simp [ha]
    rw [hgd]
    (conv => whnf); repeat ((first | refine RngK.mk (by omega) (by omega) ?_ | refine NzK.mk (by omega) ?_ | refine NnK.mk (by omega) ?_ | refine BdK.mk (by omega) (by omega) (by omega) ?_ | refine InsK.lit (by omega) (by omega) ?_ | refine SpK.lit ?_ | refine GrdK.same ?_ | refine GrdK.tf ?_ | refine GrdK.ft ?_ | refine PickK.t ?_ | refine PickK.f ?_); (conv => whnf))
    refine InsK.rd hp.by_.rd (by omega) (by omega) ?_
    (conv => whnf); repeat ((first | refine RngK.mk (by omega) (by omega) ?_ | refine NzK.mk (by omega) ?_ | refine NnK.mk (by omega) ?_ | refine BdK.mk (by omega) (by omega) (by omega) ?_ | refine InsK.lit (by omega) (by omega) ?_ | refine SpK.lit ?_ | refine GrdK.same ?_ | refine GrdK.tf ?_ | refine GrdK.ft ?_ | refine PickK.t ?_ | refine PickK.f ?_); (conv => whnf))
    refine LdK.rd (v := vU8 bs[at_]) hp.by_.rd at_ rfl rfl rfl (by simp [ha]) ?_
    (conv => whnf); repeat ((first | refine RngK.mk (by omega) (by omega) ?_ | refine NzK.mk (by omega) ?_ | refine NnK.mk (by omega) ?_ | refine BdK.mk (by omega) (by omega) (by omega) ?_ | refine InsK.lit (by omega) (by omega) ?_ | refine SpK.lit ?_ | refine GrdK.same ?_ | refine GrdK.tf ?_ | refine GrdK.ft ?_ | refine PickK.t ?_ | refine PickK.f ?_); (conv => whnf))
    refine Wp.nilC 5 1 ?_
    refine Wp.cutEx 1 (fun t : Option Addr × Nat => [(2, vN (at_ + 1)), (4, .slice t.1 sz t.2)]) (fun t => [.own t.1 sz t.2 5 1 (List.replicate sz (vU8 bs[at_]))]) (fun _ => True) ?_ fun ⟨A1, c1⟩ _ => ?_
    · refine Wp.loop (fun t : Nat × Option Addr × Nat => [(2, vN (at_ + 1)), (4, .slice t.2.1 t.1 t.2.2), (14, vN sz), (15, vU8 bs[at_]), (16, vN t.1)]) (fun t => [.own t.2.1 t.1 t.2.2 5 1 (List.replicate t.1 (vU8 bs[at_]))]) (fun t => t.1 ≤ sz) (fun t => sz - t.1) (0, none, 0)
        ⟨rfl, rfl, rfl, rfl, rfl, trivial⟩ (HSub.refl _) (Nat.zero_le _) fun ⟨j, A1, c1⟩ hj => ?_
      dsimp only at hj ⊢
      (conv => whnf); repeat ((first | refine RngK.mk (by omega) (by omega) ?_ | refine NzK.mk (by omega) ?_ | refine NnK.mk (by omega) ?_ | refine BdK.mk (by omega) (by omega) (by omega) ?_ | refine InsK.lit (by omega) (by omega) ?_ | refine SpK.lit ?_ | refine GrdK.same ?_ | refine GrdK.tf ?_ | refine GrdK.ft ?_ | refine PickK.t ?_ | refine PickK.f ?_); (conv => whnf))
      refine Wp.cond rfl (fun g => ?_) (fun g => ?_)
      · have g := dT g
        (conv => whnf); repeat ((first | refine RngK.mk (by omega) (by omega) ?_ | refine NzK.mk (by omega) ?_ | refine NnK.mk (by omega) ?_ | refine BdK.mk (by omega) (by omega) (by omega) ?_ | refine InsK.lit (by omega) (by omega) ?_ | refine SpK.lit ?_ | refine GrdK.same ?_ | refine GrdK.tf ?_ | refine GrdK.ft ?_ | refine PickK.t ?_ | refine PickK.f ?_); (conv => whnf))
        refine EffK.litV rfl rfl rfl rfl rfl rfl rfl rfl rfl ?_
        (conv => whnf); repeat ((first | refine RngK.mk (by omega) (by omega) ?_ | refine NzK.mk (by omega) ?_ | refine NnK.mk (by omega) ?_ | refine BdK.mk (by omega) (by omega) (by omega) ?_ | refine InsK.lit (by omega) (by omega) ?_ | refine SpK.lit ?_ | refine GrdK.same ?_ | refine GrdK.tf ?_ | refine GrdK.ft ?_ | refine PickK.t ?_ | refine PickK.f ?_); (conv => whnf))
        intro b2
        (conv => whnf); repeat ((first | refine RngK.mk (by omega) (by omega) ?_ | refine NzK.mk (by omega) ?_ | refine NnK.mk (by omega) ?_ | refine BdK.mk (by omega) (by omega) (by omega) ?_ | refine InsK.lit (by omega) (by omega) ?_ | refine SpK.lit ?_ | refine GrdK.same ?_ | refine GrdK.tf ?_ | refine GrdK.ft ?_ | refine PickK.t ?_ | refine PickK.f ?_); (conv => whnf))
        refine EffK.append 1 (news := [vU8 bs[at_]]) rfl rfl rfl rfl rfl rfl rfl rfl (Src.ownW (k := 0) rfl rfl) (by intro u hu; rcases List.mem_singleton.1 hu with rfl; rfl) (by simp [maxLen]; omega) (by show (_ + _) * 1 ≤ _; omega) fun A5 c5 => ?_
        (conv => whnf); repeat ((first | refine RngK.mk (by omega) (by omega) ?_ | refine NzK.mk (by omega) ?_ | refine NnK.mk (by omega) ?_ | refine BdK.mk (by omega) (by omega) (by omega) ?_ | refine InsK.lit (by omega) (by omega) ?_ | refine SpK.lit ?_ | refine GrdK.same ?_ | refine GrdK.tf ?_ | refine GrdK.ft ?_ | refine PickK.t ?_ | refine PickK.f ?_); (conv => whnf))
        refine ⟨(j + 1, A5, c5), ⟨rfl, rfl, rfl, rfl, rfl, trivial⟩, ?_, by simp only; omega, by simp only; omega⟩
        dsimp only
        rw [List.replicate_succ']
        exact HSub.of [1] rfl
      · have g := dF g
        obtain rfl : j = sz := by omega
        (conv => whnf); repeat ((first | refine RngK.mk (by omega) (by omega) ?_ | refine NzK.mk (by omega) ?_ | refine NnK.mk (by omega) ?_ | refine BdK.mk (by omega) (by omega) (by omega) ?_ | refine InsK.lit (by omega) (by omega) ?_ | refine SpK.lit ?_ | refine GrdK.same ?_ | refine GrdK.tf ?_ | refine GrdK.ft ?_ | refine PickK.t ?_ | refine PickK.f ?_); (conv => whnf))
        exact ⟨(A1, c1), ⟨rfl, rfl, trivial⟩, HSub.refl _, trivial⟩
    (conv => whnf); repeat ((first | refine RngK.mk (by omega) (by omega) ?_ | refine NzK.mk (by omega) ?_ | refine NnK.mk (by omega) ?_ | refine BdK.mk (by omega) (by omega) (by omega) ?_ | refine InsK.lit (by omega) (by omega) ?_ | refine SpK.lit ?_ | refine GrdK.same ?_ | refine GrdK.tf ?_ | refine GrdK.ft ?_ | refine PickK.t ?_ | refine PickK.f ?_); (conv => whnf))
    refine ⟨_, HSub.refl _, A1, c1, ?_, ?_⟩
    · rw [List.length_replicate]
    · rw [List.length_replicate, List.map_replicate]
theorem zzraw_spec (A : Option Addr) (n c : Nat) (bs : List UInt8) (e u : Addr) (off : Nat) (h : UInt8) (hn : n ≤ 16777216) (ho : off ≤ n) :
    FnS Tryd.prog 46 [.slice A n c, vN off, vU8 h] [] (fun w => Bytes w (blocks []) A n c bs ∧ Laid w (blocks []) e u)
      (fun v H => match rawM bs off h.toNat with
        | .right l p => ∃ A1 c1, v = .tuple #[.slice A1 l.length c1, vN p, .nilIface] ∧ H = [.own A1 l.length c1 5 1 (l.map vU8)]
        | _ => ∃ T' x, v = .tuple #[.slice none 0 0, vI 0, .iface T' x] ∧ H = []) := by
  refine FnS.introD Tryd.func46 rfl (by kernel_rfl) rfl fun w hH ⟨hp, hL⟩ => ?_
  have hrf := fun r => readRaw_spec r A n c bs e u off h hn ho
  obtain ⟨R, hR⟩ : ∃ R, rawM bs off h.toNat = R := ⟨_, rfl⟩
  rw [hR] at hrf ⊢
  (conv => whnf); repeat ((first | refine RngK.mk (by omega) (by omega) ?_ | refine NzK.mk (by omega) ?_ | refine NnK.mk (by omega) ?_ | refine BdK.mk (by omega) (by omega) (by omega) ?_ | refine InsK.lit (by omega) (by omega) ?_ | refine SpK.lit ?_ | refine GrdK.same ?_ | refine GrdK.tf ?_ | refine GrdK.ft ?_ | refine PickK.t ?_ | refine PickK.f ?_); (conv => whnf))
  refine ⟨_, _, rfl, rfl, ?_⟩
  intro b17
  (conv => whnf); repeat ((first | refine RngK.mk (by omega) (by omega) ?_ | refine NzK.mk (by omega) ?_ | refine NnK.mk (by omega) ?_ | refine BdK.mk (by omega) (by omega) (by omega) ?_ | refine InsK.lit (by omega) (by omega) ?_ | refine SpK.lit ?_ | refine GrdK.same ?_ | refine GrdK.tf ?_ | refine GrdK.ft ?_ | refine PickK.t ?_ | refine PickK.f ?_); (conv => whnf))
  refine CallK.of [] (hrf b17) rfl (fun w hw => ⟨hp.pass hw, hL.pass hw, Rd.ofBlk (o := 6) (m := 1) (sz := 1) hw 0 rfl (by decide)⟩) ?_
  cases hRR : R with
  | right l p =>
    rintro _ _ ⟨A1, c1, rfl, rfl⟩
    (conv => whnf); repeat ((first | refine RngK.mk (by omega) (by omega) ?_ | refine NzK.mk (by omega) ?_ | refine NnK.mk (by omega) ?_ | refine BdK.mk (by omega) (by omega) (by omega) ?_ | refine InsK.lit (by omega) (by omega) ?_ | refine SpK.lit ?_ | refine GrdK.same ?_ | refine GrdK.tf ?_ | refine GrdK.ft ?_ | refine PickK.t ?_ | refine PickK.f ?_); (conv => whnf))
    exact ⟨_, HSub.of [0] rfl, A1, c1, rfl, rfl⟩
  | wrong =>
    rintro _ _ ⟨T', x, rfl, rfl⟩
    (conv => whnf); repeat ((first | refine RngK.mk (by omega) (by omega) ?_ | refine NzK.mk (by omega) ?_ | refine NnK.mk (by omega) ?_ | refine BdK.mk (by omega) (by omega) (by omega) ?_ | refine InsK.lit (by omega) (by omega) ?_ | refine SpK.lit ?_ | refine GrdK.same ?_ | refine GrdK.tf ?_ | refine GrdK.ft ?_ | refine PickK.t ?_ | refine PickK.f ?_); (conv => whnf))
    exact ⟨_, HSub.nil _, T', x, rfl, rfl⟩
  | unsaid =>
    rintro _ _ ⟨T', x, rfl, rfl⟩
    (conv => whnf); repeat ((first | refine RngK.mk (by omega) (by omega) ?_ | refine NzK.mk (by omega) ?_ | refine NnK.mk (by omega) ?_ | refine BdK.mk (by omega) (by omega) (by omega) ?_ | refine InsK.lit (by omega) (by omega) ?_ | refine SpK.lit ?_ | refine GrdK.same ?_ | refine GrdK.tf ?_ | refine GrdK.ft ?_ | refine PickK.t ?_ | refine PickK.f ?_); (conv => whnf))
    exact ⟨_, HSub.nil _, T', x, rfl, rfl⟩
def RawT.out : RawT → List UInt8 × Nat × Bool
  | .right l p => (l, p, true)
  | _ => ([], 0, false)
theorem raw_len {bs : List UInt8} {off h p : Nat} {l : List UInt8} (hh : rawM bs off h = .right l p) : l.length ≤ 131072 := by
  unfold rawM at hh
  split at hh
  · cases hh
  split at hh
  · cases hh
  rename_i h1
  split at hh
  · split at hh
    · cases hh
    · injection hh with e1 e2
      subst e1
      simp; omega
  · split at hh
    · cases hh
    · injection hh with e1 e2
      subst e1
      simp; omega
theorem implRaw_spec (A : Option Addr) (n c : Nat) (bs : List UInt8) (e u : Addr) (off : Nat) (h : UInt8) (hn : n ≤ 16777216) (ho : off ≤ n) :
    FnS Tryd.prog 28 [.slice A n c, vN off, vU8 h] [] (fun w => Bytes w (blocks []) A n c bs ∧ Laid w (blocks []) e u)
      (fun v H => ∃ A1 c1, v = .tuple #[.slice A1 (rawM bs off h.toNat).out.1.length c1, vN (rawM bs off h.toNat).out.2.1, vB (rawM bs off h.toNat).out.2.2] ∧ H = [.own A1 (rawM bs off h.toNat).out.1.length c1 5 1 ((rawM bs off h.toNat).out.1.map vU8)]) := by
  refine FnS.introD Tryd.func28 rfl (by kernel_rfl) rfl fun w hH ⟨hp, hL⟩ => ?_
  have hrf := zzraw_spec A n c bs e u off h hn ho
  obtain ⟨R, hR⟩ : ∃ R, rawM bs off h.toNat = R := ⟨_, rfl⟩
  rw [hR] at hrf ⊢
  (conv => whnf); repeat ((first | refine RngK.mk (by omega) (by omega) ?_ | refine NzK.mk (by omega) ?_ | refine NnK.mk (by omega) ?_ | refine BdK.mk (by omega) (by omega) (by omega) ?_ | refine InsK.lit (by omega) (by omega) ?_ | refine SpK.lit ?_ | refine GrdK.same ?_ | refine GrdK.tf ?_ | refine GrdK.ft ?_ | refine PickK.t ?_ | refine PickK.f ?_); (conv => whnf))
  refine CallK.of [] hrf rfl (fun w hw => ⟨hp.pass hw, hL.pass hw⟩) ?_
  cases hRR : R with
  | right l p =>
    rintro _ _ ⟨A1, c1, rfl, rfl⟩
    have hll := raw_len (hR.trans hRR)
    (conv => whnf); repeat ((first | refine RngK.mk (by omega) (by omega) ?_ | refine NzK.mk (by omega) ?_ | refine NnK.mk (by omega) ?_ | refine BdK.mk (by omega) (by omega) (by omega) ?_ | refine InsK.lit (by omega) (by omega) ?_ | refine SpK.lit ?_ | refine GrdK.same ?_ | refine GrdK.tf ?_ | refine GrdK.ft ?_ | refine PickK.t ?_ | refine PickK.f ?_); (conv => whnf))
    refine DrwK.ord (by kernel_rfl) [1, 3, 4, 5, 0, 2, 6, 7, 8] (by kernel_rfl) ?_; conv => whnf
    (conv => whnf); repeat ((first | refine RngK.mk (by omega) (by omega) ?_ | refine NzK.mk (by omega) ?_ | refine NnK.mk (by omega) ?_ | refine BdK.mk (by omega) (by omega) (by omega) ?_ | refine InsK.lit (by omega) (by omega) ?_ | refine SpK.lit ?_ | refine GrdK.same ?_ | refine GrdK.tf ?_ | refine GrdK.ft ?_ | refine PickK.t ?_ | refine PickK.f ?_); (conv => whnf))
    refine ValK.eqNil rfl ?_
    (conv => whnf); repeat ((first | refine RngK.mk (by omega) (by omega) ?_ | refine NzK.mk (by omega) ?_ | refine NnK.mk (by omega) ?_ | refine BdK.mk (by omega) (by omega) (by omega) ?_ | refine InsK.lit (by omega) (by omega) ?_ | refine SpK.lit ?_ | refine GrdK.same ?_ | refine GrdK.tf ?_ | refine GrdK.ft ?_ | refine PickK.t ?_ | refine PickK.f ?_); (conv => whnf))
    refine EffK.lit0 rfl rfl fun b => ?_
    (conv => whnf); repeat ((first | refine RngK.mk (by omega) (by omega) ?_ | refine NzK.mk (by omega) ?_ | refine NnK.mk (by omega) ?_ | refine BdK.mk (by omega) (by omega) (by omega) ?_ | refine InsK.lit (by omega) (by omega) ?_ | refine SpK.lit ?_ | refine GrdK.same ?_ | refine GrdK.tf ?_ | refine GrdK.ft ?_ | refine PickK.t ?_ | refine PickK.f ?_); (conv => whnf))
    refine EffK.append 0 (news := l.map vU8) rfl rfl rfl rfl rfl rfl rfl rfl (Src.ownW (sz := 1) (k := 1) rfl (by simp)) vU8_one (by simp [maxLen]; omega) (by show (_ + _) * 1 ≤ _; omega) fun A5 c5 => ?_
    (conv => whnf); repeat ((first | refine RngK.mk (by omega) (by omega) ?_ | refine NzK.mk (by omega) ?_ | refine NnK.mk (by omega) ?_ | refine BdK.mk (by omega) (by omega) (by omega) ?_ | refine InsK.lit (by omega) (by omega) ?_ | refine SpK.lit ?_ | refine GrdK.same ?_ | refine GrdK.tf ?_ | refine GrdK.ft ?_ | refine PickK.t ?_ | refine PickK.f ?_); (conv => whnf))
    refine ⟨_, HSub.of [0] rfl, A5, c5, ?_, ?_⟩
    · rw [Nat.zero_add]; rfl
    · rw [Nat.zero_add]; rfl
  | wrong =>
    rintro _ _ ⟨T', x, rfl, rfl⟩
    (conv => whnf); repeat ((first | refine RngK.mk (by omega) (by omega) ?_ | refine NzK.mk (by omega) ?_ | refine NnK.mk (by omega) ?_ | refine BdK.mk (by omega) (by omega) (by omega) ?_ | refine InsK.lit (by omega) (by omega) ?_ | refine SpK.lit ?_ | refine GrdK.same ?_ | refine GrdK.tf ?_ | refine GrdK.ft ?_ | refine PickK.t ?_ | refine PickK.f ?_); (conv => whnf))
    refine DrwK.ord (by kernel_rfl) [1, 3, 4, 5, 0, 2, 6, 7, 8] (by kernel_rfl) ?_; conv => whnf
    (conv => whnf); repeat ((first | refine RngK.mk (by omega) (by omega) ?_ | refine NzK.mk (by omega) ?_ | refine NnK.mk (by omega) ?_ | refine BdK.mk (by omega) (by omega) (by omega) ?_ | refine InsK.lit (by omega) (by omega) ?_ | refine SpK.lit ?_ | refine GrdK.same ?_ | refine GrdK.tf ?_ | refine GrdK.ft ?_ | refine PickK.t ?_ | refine PickK.f ?_); (conv => whnf))
    refine ValK.eqIface rfl ?_
    (conv => whnf); repeat ((first | refine RngK.mk (by omega) (by omega) ?_ | refine NzK.mk (by omega) ?_ | refine NnK.mk (by omega) ?_ | refine BdK.mk (by omega) (by omega) (by omega) ?_ | refine InsK.lit (by omega) (by omega) ?_ | refine SpK.lit ?_ | refine GrdK.same ?_ | refine GrdK.tf ?_ | refine GrdK.ft ?_ | refine PickK.t ?_ | refine PickK.f ?_); (conv => whnf))
    refine EffK.lit0 rfl rfl fun b => ?_
    (conv => whnf); repeat ((first | refine RngK.mk (by omega) (by omega) ?_ | refine NzK.mk (by omega) ?_ | refine NnK.mk (by omega) ?_ | refine BdK.mk (by omega) (by omega) (by omega) ?_ | refine InsK.lit (by omega) (by omega) ?_ | refine SpK.lit ?_ | refine GrdK.same ?_ | refine GrdK.tf ?_ | refine GrdK.ft ?_ | refine PickK.t ?_ | refine PickK.f ?_); (conv => whnf))
    refine EffK.append 0 (news := []) rfl rfl rfl rfl rfl rfl rfl rfl (Src.rd (Rd.nil 1)) (fun u hu => by cases hu) (by simp [maxLen]) (by show (_ + _) * 1 ≤ _; omega) fun A5 c5 => ?_
    (conv => whnf); repeat ((first | refine RngK.mk (by omega) (by omega) ?_ | refine NzK.mk (by omega) ?_ | refine NnK.mk (by omega) ?_ | refine BdK.mk (by omega) (by omega) (by omega) ?_ | refine InsK.lit (by omega) (by omega) ?_ | refine SpK.lit ?_ | refine GrdK.same ?_ | refine GrdK.tf ?_ | refine GrdK.ft ?_ | refine PickK.t ?_ | refine PickK.f ?_); (conv => whnf))
    exact ⟨_, HSub.of [0] rfl, A5, c5, rfl, rfl⟩
  | unsaid =>
    rintro _ _ ⟨T', x, rfl, rfl⟩
    (conv => whnf); repeat ((first | refine RngK.mk (by omega) (by omega) ?_ | refine NzK.mk (by omega) ?_ | refine NnK.mk (by omega) ?_ | refine BdK.mk (by omega) (by omega) (by omega) ?_ | refine InsK.lit (by omega) (by omega) ?_ | refine SpK.lit ?_ | refine GrdK.same ?_ | refine GrdK.tf ?_ | refine GrdK.ft ?_ | refine PickK.t ?_ | refine PickK.f ?_); (conv => whnf))
    refine DrwK.ord (by kernel_rfl) [1, 3, 4, 5, 0, 2, 6, 7, 8] (by kernel_rfl) ?_; conv => whnf
    (conv => whnf); repeat ((first | refine RngK.mk (by omega) (by omega) ?_ | refine NzK.mk (by omega) ?_ | refine NnK.mk (by omega) ?_ | refine BdK.mk (by omega) (by omega) (by omega) ?_ | refine InsK.lit (by omega) (by omega) ?_ | refine SpK.lit ?_ | refine GrdK.same ?_ | refine GrdK.tf ?_ | refine GrdK.ft ?_ | refine PickK.t ?_ | refine PickK.f ?_); (conv => whnf))
    refine ValK.eqIface rfl ?_
    (conv => whnf); repeat ((first | refine RngK.mk (by omega) (by omega) ?_ | refine NzK.mk (by omega) ?_ | refine NnK.mk (by omega) ?_ | refine BdK.mk (by omega) (by omega) (by omega) ?_ | refine InsK.lit (by omega) (by omega) ?_ | refine SpK.lit ?_ | refine GrdK.same ?_ | refine GrdK.tf ?_ | refine GrdK.ft ?_ | refine PickK.t ?_ | refine PickK.f ?_); (conv => whnf))
    refine EffK.lit0 rfl rfl fun b => ?_
    (conv => whnf); repeat ((first | refine RngK.mk (by omega) (by omega) ?_ | refine NzK.mk (by omega) ?_ | refine NnK.mk (by omega) ?_ | refine BdK.mk (by omega) (by omega) (by omega) ?_ | refine InsK.lit (by omega) (by omega) ?_ | refine SpK.lit ?_ | refine GrdK.same ?_ | refine GrdK.tf ?_ | refine GrdK.ft ?_ | refine PickK.t ?_ | refine PickK.f ?_); (conv => whnf))
    refine EffK.append 0 (news := []) rfl rfl rfl rfl rfl rfl rfl rfl (Src.rd (Rd.nil 1)) (fun u hu => by cases hu) (by simp [maxLen]) (by show (_ + _) * 1 ≤ _; omega) fun A5 c5 => ?_
    (conv => whnf); repeat ((first | refine RngK.mk (by omega) (by omega) ?_ | refine NzK.mk (by omega) ?_ | refine NnK.mk (by omega) ?_ | refine BdK.mk (by omega) (by omega) (by omega) ?_ | refine InsK.lit (by omega) (by omega) ?_ | refine SpK.lit ?_ | refine GrdK.same ?_ | refine GrdK.tf ?_ | refine GrdK.ft ?_ | refine PickK.t ?_ | refine PickK.f ?_); (conv => whnf))
    exact ⟨_, HSub.of [0] rfl, A5, c5, rfl, rfl⟩
end Go.Proofs.YtgdhdkjbilifiaaDoor
namespace Go.Proofs.YtgdhdkjbilifiaaDoor
open Go Go.Sx
set_option maxRecDepth 100000
def RawT.len : RawT → Nat
  | .right l _ => l.length
  | _ => 0
def RawT.bs : RawT → List UInt8
  | .right l _ => l
  | _ => []
def RawT.pl : RawT → Nat
  | .right _ p => p
  | _ => 0
def RawT.told : RawT → Int
  | .right _ _ => 0
  | .wrong => 1
  | .unsaid => 2
set_option maxHeartbeats 4000000 in
theorem rawRead_spec (A : Option Addr) (n c : Nat) (bs : List UInt8) (off : Nat) (h : UInt8) (hn : n ≤ 16777216) (ho : off ≤ n) :
    FnS Tryd.prog 27 [.slice A n c, vN off, vU8 h] [] (fun w => Bytes w (blocks []) A n c bs)
      (fun v H => ∃ A1 c1, v = .tuple #[.slice A1 (rawM bs off h.toNat).bs.length c1, vN (rawM bs off h.toNat).pl, vI (rawM bs off h.toNat).told] ∧ H = [.own A1 (rawM bs off h.toNat).bs.length c1 5 1 ((rawM bs off h.toNat).bs.map vU8)]) := by
  refine FnS.introD Tryd.func27 rfl (by kernel_rfl) rfl fun w hH hp => ?_
  obtain rfl : bs.length = n := hp.len
  have hle := hp.le
  have hq := h.toNat_lt
  obtain ⟨q, hqe⟩ : ∃ q, h.toNat = q := ⟨_, rfl⟩
  obtain ⟨R, hR⟩ : ∃ R, rawM bs off q = R := ⟨_, rfl⟩
  rw [hqe] at hq
  rw [hqe, hR]
  have e3 : iand .u8 (q : Int) 3 = ((q % 4 : Nat) : Int) := by
    have := iand_u (k := .u8) rfl (x := q) (y := 3) hq (by decide)
    rw [show (3 : Nat) = 2 ^ 2 - 1 by rfl, Nat.and_two_pow_sub_one_eq_mod] at this
    exact this
  have e2 : ishr .u8 (q : Int) 2 = ((q / 4 : Nat) : Int) := ishr_nat .u8 _ (n := 2) (by decide)
  have e4 : ishr .i64 (q : Int) 4 = ((q / 16 : Nat) : Int) := ishr_nat .i64 _ (n := 4) (by decide)
  have e8 : ishr .i64 (q : Int) 3 = ((q / 8 : Nat) : Int) := ishr_nat .i64 _ (n := 3) (by decide)
  have e5 : iand .u8 ((q / 4 : Nat) : Int) 3 = ((q / 4 % 4 : Nat) : Int) := by
    have := iand_u (k := .u8) rfl (x := q / 4) (y := 3) (by show _ < 256; omega) (by decide)
    rw [show (3 : Nat) = 2 ^ 2 - 1 by rfl, Nat.and_two_pow_sub_one_eq_mod] at this
    exact this
  have hk4 : q / 4 % 4 < 4 := Nat.mod_lt _ (by omega)
  obtain ⟨k, hke⟩ : ∃ k, q / 4 % 4 = k := ⟨_, rfl⟩
  have hR' := hR
  unfold rawM at hR'
  have hmo : more q = if k = 1 then 1 else if k = 3 then 2 else 0 := by unfold more; rw [hke]
  have hsz : rawN bs off q = if k = 1 ∨ k = 3 then q / 16 + 16 * num ((bs.drop off).take (more q)) else q / 8 := by unfold rawN; rw [hke]
  rw [hke] at hk4 e5
  have hcl : [vI 0, vI 1, vI 0, vI 2][k]? = some (vN (more q)) := by
    rw [hmo]
    rcases (show k = 0 ∨ k = 1 ∨ k = 2 ∨ k = 3 by omega) with rfl | rfl | rfl | rfl <;> rfl
  have hm2 : more q ≤ 2 := by rw [hmo]; split <;> (try split) <;> omega
  (conv => whnf); repeat ((first | refine RngK.mk (by omega) (by omega) ?_ | refine NzK.mk (by omega) ?_ | refine NnK.mk (by omega) ?_ | refine BdK.mk (by omega) (by omega) (by omega) ?_ | refine InsK.lit (by omega) (by omega) ?_ | refine SpK.lit ?_ | refine GrdK.same ?_ | refine GrdK.tf ?_ | refine GrdK.ft ?_ | refine PickK.t ?_ | refine PickK.f ?_); (conv => whnf))
  refine EffK.litV rfl rfl rfl rfl rfl rfl rfl rfl rfl ?_
  (conv => whnf); repeat ((first | refine RngK.mk (by omega) (by omega) ?_ | refine NzK.mk (by omega) ?_ | refine NnK.mk (by omega) ?_ | refine BdK.mk (by omega) (by omega) (by omega) ?_ | refine InsK.lit (by omega) (by omega) ?_ | refine SpK.lit ?_ | refine GrdK.same ?_ | refine GrdK.tf ?_ | refine GrdK.ft ?_ | refine PickK.t ?_ | refine PickK.f ?_); (conv => whnf))
  intro b1
  (conv => whnf); repeat ((first | refine RngK.mk (by omega) (by omega) ?_ | refine NzK.mk (by omega) ?_ | refine NnK.mk (by omega) ?_ | refine BdK.mk (by omega) (by omega) (by omega) ?_ | refine InsK.lit (by omega) (by omega) ?_ | refine SpK.lit ?_ | refine GrdK.same ?_ | refine GrdK.tf ?_ | refine GrdK.ft ?_ | refine PickK.t ?_ | refine PickK.f ?_); (conv => whnf))
  rw [hqe, e2, e5]
  (conv => whnf); repeat ((first | refine RngK.mk (by omega) (by omega) ?_ | refine NzK.mk (by omega) ?_ | refine NnK.mk (by omega) ?_ | refine BdK.mk (by omega) (by omega) (by omega) ?_ | refine InsK.lit (by omega) (by omega) ?_ | refine SpK.lit ?_ | refine GrdK.same ?_ | refine GrdK.tf ?_ | refine GrdK.ft ?_ | refine PickK.t ?_ | refine PickK.f ?_); (conv => whnf))
  refine LdK.own 0 k rfl rfl rfl rfl hcl ?_
  obtain ⟨mo, hmoe⟩ : ∃ mo, more q = mo := ⟨_, rfl⟩
  rw [hmoe] at hR' hmo hsz hm2 ⊢
  (conv => whnf); repeat ((first | refine RngK.mk (by omega) (by omega) ?_ | refine NzK.mk (by omega) ?_ | refine NnK.mk (by omega) ?_ | refine BdK.mk (by omega) (by omega) (by omega) ?_ | refine InsK.lit (by omega) (by omega) ?_ | refine SpK.lit ?_ | refine GrdK.same ?_ | refine GrdK.tf ?_ | refine GrdK.ft ?_ | refine PickK.t ?_ | refine PickK.f ?_); (conv => whnf))
  refine Wp.nilC 5 1 ?_
  refine Wp.cond rfl (fun g => ?_) (fun g => ?_)
  · have g := dT g
    rw [if_pos (by omega)] at hR'
    subst hR'
    (conv => whnf); repeat ((first | refine RngK.mk (by omega) (by omega) ?_ | refine NzK.mk (by omega) ?_ | refine NnK.mk (by omega) ?_ | refine BdK.mk (by omega) (by omega) (by omega) ?_ | refine InsK.lit (by omega) (by omega) ?_ | refine SpK.lit ?_ | refine GrdK.same ?_ | refine GrdK.tf ?_ | refine GrdK.ft ?_ | refine PickK.t ?_ | refine PickK.f ?_); (conv => whnf))
    exact ⟨_, HSub.of [0] rfl, none, 0, rfl, rfl⟩
  have g := dF g
  rw [if_neg (by omega)] at hR'
  (conv => whnf); repeat ((first | refine RngK.mk (by omega) (by omega) ?_ | refine NzK.mk (by omega) ?_ | refine NnK.mk (by omega) ?_ | refine BdK.mk (by omega) (by omega) (by omega) ?_ | refine InsK.lit (by omega) (by omega) ?_ | refine SpK.lit ?_ | refine GrdK.same ?_ | refine GrdK.tf ?_ | refine GrdK.ft ?_ | refine PickK.t ?_ | refine PickK.f ?_); (conv => whnf))
  rw [hqe, e8]
  (conv => whnf); repeat ((first | refine RngK.mk (by omega) (by omega) ?_ | refine NzK.mk (by omega) ?_ | refine NnK.mk (by omega) ?_ | refine BdK.mk (by omega) (by omega) (by omega) ?_ | refine InsK.lit (by omega) (by omega) ?_ | refine SpK.lit ?_ | refine GrdK.same ?_ | refine GrdK.tf ?_ | refine GrdK.ft ?_ | refine PickK.t ?_ | refine PickK.f ?_); (conv => whnf))
  refine Wp.cut (fun _ : Unit => [(0, .slice A bs.length c), (1, vN off), (2, vU8 h), (9, vN mo), (10, vN (rawN bs off q))]) (fun _ => []) (fun _ => rawN bs off q ≤ 16777216) ?_ fun _ hsb => ?_
  · refine Wp.cond rfl (fun g => ?_) (fun g => ?_)
    · have g := dT g
      have hk13 : k = 1 ∨ k = 3 := by
        apply Decidable.byContradiction
        intro hh
        rw [if_neg (by omega), if_neg (by omega)] at hmo
        omega
      rw [if_pos hk13] at hsz
      (conv => whnf); repeat ((first | refine RngK.mk (by omega) (by omega) ?_ | refine NzK.mk (by omega) ?_ | refine NnK.mk (by omega) ?_ | refine BdK.mk (by omega) (by omega) (by omega) ?_ | refine InsK.lit (by omega) (by omega) ?_ | refine SpK.lit ?_ | refine GrdK.same ?_ | refine GrdK.tf ?_ | refine GrdK.ft ?_ | refine PickK.t ?_ | refine PickK.f ?_); (conv => whnf))
      rw [hqe]
      (conv => whnf); repeat ((first | refine RngK.mk (by omega) (by omega) ?_ | refine NzK.mk (by omega) ?_ | refine NnK.mk (by omega) ?_ | refine BdK.mk (by omega) (by omega) (by omega) ?_ | refine InsK.lit (by omega) (by omega) ?_ | refine SpK.lit ?_ | refine GrdK.same ?_ | refine GrdK.tf ?_ | refine GrdK.ft ?_ | refine PickK.t ?_ | refine PickK.f ?_); (conv => whnf))
      refine Bytes.sp hp (by omega) ?_
      (conv => whnf); repeat ((first | refine RngK.mk (by omega) (by omega) ?_ | refine NzK.mk (by omega) ?_ | refine NnK.mk (by omega) ?_ | refine BdK.mk (by omega) (by omega) (by omega) ?_ | refine InsK.lit (by omega) (by omega) ?_ | refine SpK.lit ?_ | refine GrdK.same ?_ | refine GrdK.tf ?_ | refine GrdK.ft ?_ | refine PickK.t ?_ | refine PickK.f ?_); (conv => whnf))
      have en : ((off : Int) + (mo : Int)).toNat - (off : Int).toNat = mo := by omega
      rw [en]
      have hnl := num_lt ((bs.drop off).take mo)
      have hnl2 : 2 ^ (8 * ((bs.drop off).take mo).length) ≤ 2 ^ 16 := Nat.pow_le_pow_right (by omega) (by rw [List.length_take]; omega)
      refine CallK.of [] (number_spec (cutA A off c 1) mo (c - off) ((bs.drop off).take mo) (by omega)) rfl (fun w hw => ((hp.cut (l := off) (q := mo) (by omega)).pass hw).rd) ?_
      rintro _ _ ⟨rfl, rfl⟩
      obtain ⟨N, hN⟩ : ∃ N, num ((bs.drop off).take mo) = N := ⟨_, rfl⟩
      rw [hN] at hnl hsz ⊢
      have eN : ((UInt64.ofNat N).toNat : Int) = (N : Int) := by rw [UInt64.toNat_ofNat_of_lt' (by simp [UInt64.size]; omega)]
      have eW : IntKind.i64.wrap ((N : Nat) : Int) = (N : Int) := wrap_i64_lt (by omega)
      have eS : ishl .i64 (N : Int) 4 = ((N * 16 : Nat) : Int) := ishl_i64 (x := N) (n := 4) (by omega) (by omega)
      have eO : ior .i64 ((q / 16 : Nat) : Int) ((N * 16 : Nat) : Int) = ((q / 16 + N * 16 : Nat) : Int) := by
        rw [ior_i64 (by omega) (by omega)]
        have := or_add (x := q / 16) (y := N) (i := 4) (by omega)
        rw [show N * 16 = N * 2 ^ 4 by rfl, this]
      unfold vU64
      rw [eN]
      (conv => whnf); repeat ((first | refine RngK.mk (by omega) (by omega) ?_ | refine NzK.mk (by omega) ?_ | refine NnK.mk (by omega) ?_ | refine BdK.mk (by omega) (by omega) (by omega) ?_ | refine InsK.lit (by omega) (by omega) ?_ | refine SpK.lit ?_ | refine GrdK.same ?_ | refine GrdK.tf ?_ | refine GrdK.ft ?_ | refine PickK.t ?_ | refine PickK.f ?_); (conv => whnf))
      rw [e4, eS, eO]
      (conv => whnf); repeat ((first | refine RngK.mk (by omega) (by omega) ?_ | refine NzK.mk (by omega) ?_ | refine NnK.mk (by omega) ?_ | refine BdK.mk (by omega) (by omega) (by omega) ?_ | refine InsK.lit (by omega) (by omega) ?_ | refine SpK.lit ?_ | refine GrdK.same ?_ | refine GrdK.tf ?_ | refine GrdK.ft ?_ | refine PickK.t ?_ | refine PickK.f ?_); (conv => whnf))
      exact ⟨(), ⟨rfl, rfl, rfl, rfl, by show some (vN _) = some (vN _); rw [hsz, Nat.mul_comm 16 N], trivial⟩, HSub.nil _, by omega⟩
    · have g := dF g
      have hk02 : ¬ (k = 1 ∨ k = 3) := by
        intro hh
        rcases hh with rfl | rfl
        · rw [if_pos rfl] at hmo; omega
        · rw [if_neg (by omega), if_pos rfl] at hmo; omega
      rw [if_neg hk02] at hsz
      (conv => whnf); repeat ((first | refine RngK.mk (by omega) (by omega) ?_ | refine NzK.mk (by omega) ?_ | refine NnK.mk (by omega) ?_ | refine BdK.mk (by omega) (by omega) (by omega) ?_ | refine InsK.lit (by omega) (by omega) ?_ | refine SpK.lit ?_ | refine GrdK.same ?_ | refine GrdK.tf ?_ | refine GrdK.ft ?_ | refine PickK.t ?_ | refine PickK.f ?_); (conv => whnf))
      exact ⟨(), ⟨rfl, rfl, rfl, rfl, by show some (vN _) = some (vN _); rw [hsz], trivial⟩, HSub.nil _, by omega⟩
  obtain ⟨sz, hsz'⟩ : ∃ sz, rawN bs off q = sz := ⟨_, rfl⟩
  obtain ⟨at_, hat⟩ : ∃ at_, off + mo = at_ := ⟨_, rfl⟩
  rw [hat, hsz'] at hR'
  rw [hsz'] at hsb ⊢
  have hmb : at_ ≤ bs.length := by omega
  clear hmo hsz
  (conv => whnf); repeat ((first | refine RngK.mk (by omega) (by omega) ?_ | refine NzK.mk (by omega) ?_ | refine NnK.mk (by omega) ?_ | refine BdK.mk (by omega) (by omega) (by omega) ?_ | refine InsK.lit (by omega) (by omega) ?_ | refine SpK.lit ?_ | refine GrdK.same ?_ | refine GrdK.tf ?_ | refine GrdK.ft ?_ | refine PickK.t ?_ | refine PickK.f ?_); (conv => whnf))
  refine Wp.nilC 5 1 ?_
  refine Wp.cond rfl (fun g => ?_) (fun g => ?_)
  · have g := dT g
    rw [if_pos (by omega)] at hR'
    subst hR'
    (conv => whnf); repeat ((first | refine RngK.mk (by omega) (by omega) ?_ | refine NzK.mk (by omega) ?_ | refine NnK.mk (by omega) ?_ | refine BdK.mk (by omega) (by omega) (by omega) ?_ | refine InsK.lit (by omega) (by omega) ?_ | refine SpK.lit ?_ | refine GrdK.same ?_ | refine GrdK.tf ?_ | refine GrdK.ft ?_ | refine PickK.t ?_ | refine PickK.f ?_); (conv => whnf))
    exact ⟨_, HSub.of [0] rfl, none, 0, rfl, rfl⟩
  have g := dF g
  rw [if_neg (by omega)] at hR'
  have ea : (off : Int) + (mo : Int) = ((at_ : Nat) : Int) := by omega
  (conv => whnf); repeat ((first | refine RngK.mk (by omega) (by omega) ?_ | refine NzK.mk (by omega) ?_ | refine NnK.mk (by omega) ?_ | refine BdK.mk (by omega) (by omega) (by omega) ?_ | refine InsK.lit (by omega) (by omega) ?_ | refine SpK.lit ?_ | refine GrdK.same ?_ | refine GrdK.tf ?_ | refine GrdK.ft ?_ | refine PickK.t ?_ | refine PickK.f ?_); (conv => whnf))
  rw [hqe, e3]
  (conv => whnf); repeat ((first | refine RngK.mk (by omega) (by omega) ?_ | refine NzK.mk (by omega) ?_ | refine NnK.mk (by omega) ?_ | refine BdK.mk (by omega) (by omega) (by omega) ?_ | refine InsK.lit (by omega) (by omega) ?_ | refine SpK.lit ?_ | refine GrdK.same ?_ | refine GrdK.tf ?_ | refine GrdK.ft ?_ | refine PickK.t ?_ | refine PickK.f ?_); (conv => whnf))
  by_cases hq4 : q % 4 = 0
  · rw [if_pos hq4] at hR'
    have : (((q % 4 : Nat) : Int) == 0) = true := by simp; omega
    rw [this]
    refine Wp.cond rfl (fun _ => ?_) (fun h => by cases h)
    (conv => whnf); repeat ((first | refine RngK.mk (by omega) (by omega) ?_ | refine NzK.mk (by omega) ?_ | refine NnK.mk (by omega) ?_ | refine BdK.mk (by omega) (by omega) (by omega) ?_ | refine InsK.lit (by omega) (by omega) ?_ | refine SpK.lit ?_ | refine GrdK.same ?_ | refine GrdK.tf ?_ | refine GrdK.ft ?_ | refine PickK.t ?_ | refine PickK.f ?_); (conv => whnf))
    rw [ea]
    refine Wp.cond rfl (fun g => ?_) (fun g => ?_)
    · have g := dT g
      rw [if_pos (by omega)] at hR'
      subst hR'
      (conv => whnf); repeat ((first | refine RngK.mk (by omega) (by omega) ?_ | refine NzK.mk (by omega) ?_ | refine NnK.mk (by omega) ?_ | refine BdK.mk (by omega) (by omega) (by omega) ?_ | refine InsK.lit (by omega) (by omega) ?_ | refine SpK.lit ?_ | refine GrdK.same ?_ | refine GrdK.tf ?_ | refine GrdK.ft ?_ | refine PickK.t ?_ | refine PickK.f ?_); (conv => whnf))
      exact ⟨_, HSub.of [0] rfl, none, 0, rfl, rfl⟩
    have g := dF g
    rw [if_neg (by omega)] at hR'
    subst hR'
    (conv => whnf); repeat ((first | refine RngK.mk (by omega) (by omega) ?_ | refine NzK.mk (by omega) ?_ | refine NnK.mk (by omega) ?_ | refine BdK.mk (by omega) (by omega) (by omega) ?_ | refine InsK.lit (by omega) (by omega) ?_ | refine SpK.lit ?_ | refine GrdK.same ?_ | refine GrdK.tf ?_ | refine GrdK.ft ?_ | refine PickK.t ?_ | refine PickK.f ?_); (conv => whnf))
    refine EffK.lit0 rfl rfl fun b => ?_
    (conv => whnf); repeat ((first | refine RngK.mk (by omega) (by omega) ?_ | refine NzK.mk (by omega) ?_ | refine NnK.mk (by omega) ?_ | refine BdK.mk (by omega) (by omega) (by omega) ?_ | refine InsK.lit (by omega) (by omega) ?_ | refine SpK.lit ?_ | refine GrdK.same ?_ | refine GrdK.tf ?_ | refine GrdK.ft ?_ | refine PickK.t ?_ | refine PickK.f ?_); (conv => whnf))
    refine Bytes.sp hp (by omega) ?_
    (conv => whnf); repeat ((first | refine RngK.mk (by omega) (by omega) ?_ | refine NzK.mk (by omega) ?_ | refine NnK.mk (by omega) ?_ | refine BdK.mk (by omega) (by omega) (by omega) ?_ | refine InsK.lit (by omega) (by omega) ?_ | refine SpK.lit ?_ | refine GrdK.same ?_ | refine GrdK.tf ?_ | refine GrdK.ft ?_ | refine PickK.t ?_ | refine PickK.f ?_); (conv => whnf))
    have en : ((at_ : Int) + (sz : Int)).toNat - (at_ : Int).toNat = sz := by omega
    rw [en]
    have hlt : ((bs.drop at_).take sz).length = sz := by simp; omega
    refine EffK.append 0 (news := ((bs.drop at_).take sz).map vU8) rfl rfl rfl rfl rfl rfl rfl rfl (Src.rd (hp.cut (l := at_) (q := sz) (by omega)).rd) vU8_one (by simp [maxLen]; omega) (by show (_ + _) * 1 ≤ _; omega) fun A5 c5 => ?_
    (conv => whnf); repeat ((first | refine RngK.mk (by omega) (by omega) ?_ | refine NzK.mk (by omega) ?_ | refine NnK.mk (by omega) ?_ | refine BdK.mk (by omega) (by omega) (by omega) ?_ | refine InsK.lit (by omega) (by omega) ?_ | refine SpK.lit ?_ | refine GrdK.same ?_ | refine GrdK.tf ?_ | refine GrdK.ft ?_ | refine PickK.t ?_ | refine PickK.f ?_); (conv => whnf))
    refine ⟨_, HSub.of [0] rfl, A5, c5, ?_, ?_⟩
    · show _ = Value.tuple #[.slice A5 ((bs.drop at_).take sz).length c5, _, _]
      rw [hlt, Nat.zero_add]
      rfl
    · show _ = [Chunk.own A5 ((bs.drop at_).take sz).length c5 _ _ _]
      rw [hlt, Nat.zero_add]
      rfl
  · rw [if_neg hq4] at hR'
    have : (((q % 4 : Nat) : Int) == 0) = false := by simp; omega
    rw [this]
    refine Wp.cond rfl (fun h => by cases h) (fun _ => ?_)
    (conv => whnf); repeat ((first | refine RngK.mk (by omega) (by omega) ?_ | refine NzK.mk (by omega) ?_ | refine NnK.mk (by omega) ?_ | refine BdK.mk (by omega) (by omega) (by omega) ?_ | refine InsK.lit (by omega) (by omega) ?_ | refine SpK.lit ?_ | refine GrdK.same ?_ | refine GrdK.tf ?_ | refine GrdK.ft ?_ | refine PickK.t ?_ | refine PickK.f ?_); (conv => whnf))
    rw [ea]
    refine Wp.cond rfl (fun g => ?_) (fun g => ?_)
    · have g := dT g
      rw [if_pos (by omega)] at hR'
      subst hR'
      (conv => whnf); repeat ((first | refine RngK.mk (by omega) (by omega) ?_ | refine NzK.mk (by omega) ?_ | refine NnK.mk (by omega) ?_ | refine BdK.mk (by omega) (by omega) (by omega) ?_ | refine InsK.lit (by omega) (by omega) ?_ | refine SpK.lit ?_ | refine GrdK.same ?_ | refine GrdK.tf ?_ | refine GrdK.ft ?_ | refine PickK.t ?_ | refine PickK.f ?_); (conv => whnf))
      exact ⟨_, HSub.of [0] rfl, none, 0, rfl, rfl⟩
    have g := dF g
    rw [if_neg (by omega)] at hR'
    subst hR'
    have ha : at_ < bs.length := by omega
    have hgd : bs.getD at_ 0 = bs[at_] := by simp [ha]
    rw [hgd]
    (conv => whnf); repeat ((first | refine RngK.mk (by omega) (by omega) ?_ | refine NzK.mk (by omega) ?_ | refine NnK.mk (by omega) ?_ | refine BdK.mk (by omega) (by omega) (by omega) ?_ | refine InsK.lit (by omega) (by omega) ?_ | refine SpK.lit ?_ | refine GrdK.same ?_ | refine GrdK.tf ?_ | refine GrdK.ft ?_ | refine PickK.t ?_ | refine PickK.f ?_); (conv => whnf))
    refine EffK.lit0 rfl rfl fun b => ?_
    (conv => whnf); repeat ((first | refine RngK.mk (by omega) (by omega) ?_ | refine NzK.mk (by omega) ?_ | refine NnK.mk (by omega) ?_ | refine BdK.mk (by omega) (by omega) (by omega) ?_ | refine InsK.lit (by omega) (by omega) ?_ | refine SpK.lit ?_ | refine GrdK.same ?_ | refine GrdK.tf ?_ | refine GrdK.ft ?_ | refine PickK.t ?_ | refine PickK.f ?_); (conv => whnf))
    refine Wp.cutEx 0 (fun t : Option Addr × Nat => [(11, vN at_), (12, .slice t.1 sz t.2)]) (fun t => [.own t.1 sz t.2 5 1 (List.replicate sz (vU8 bs[at_]))]) (fun _ => True) ?_ fun ⟨A1, c1⟩ _ => ?_
    · refine Wp.loop (fun t : Nat × Option Addr × Nat => [(0, .slice A bs.length c), (11, vN at_), (12, .slice t.2.1 t.1 t.2.2), (73, vN sz), (74, vN t.1)]) (fun t => [.own t.2.1 t.1 t.2.2 5 1 (List.replicate t.1 (vU8 bs[at_]))]) (fun t => t.1 ≤ sz) (fun t => sz - t.1) (0, some ⟨b, 0, none⟩, 0)
        ⟨rfl, rfl, rfl, rfl, rfl, trivial⟩ (HSub.of [0] rfl) (Nat.zero_le _) fun ⟨j, A1, c1⟩ hj => ?_
      dsimp only at hj ⊢
      (conv => whnf); repeat ((first | refine RngK.mk (by omega) (by omega) ?_ | refine NzK.mk (by omega) ?_ | refine NnK.mk (by omega) ?_ | refine BdK.mk (by omega) (by omega) (by omega) ?_ | refine InsK.lit (by omega) (by omega) ?_ | refine SpK.lit ?_ | refine GrdK.same ?_ | refine GrdK.tf ?_ | refine GrdK.ft ?_ | refine PickK.t ?_ | refine PickK.f ?_); (conv => whnf))
      refine Wp.cond rfl (fun g => ?_) (fun g => ?_)
      · have g := dT g
        (conv => whnf); repeat ((first | refine RngK.mk (by omega) (by omega) ?_ | refine NzK.mk (by omega) ?_ | refine NnK.mk (by omega) ?_ | refine BdK.mk (by omega) (by omega) (by omega) ?_ | refine InsK.lit (by omega) (by omega) ?_ | refine SpK.lit ?_ | refine GrdK.same ?_ | refine GrdK.tf ?_ | refine GrdK.ft ?_ | refine PickK.t ?_ | refine PickK.f ?_); (conv => whnf))
        refine InsK.rd hp.rd (by omega) (by omega) ?_
        (conv => whnf); repeat ((first | refine RngK.mk (by omega) (by omega) ?_ | refine NzK.mk (by omega) ?_ | refine NnK.mk (by omega) ?_ | refine BdK.mk (by omega) (by omega) (by omega) ?_ | refine InsK.lit (by omega) (by omega) ?_ | refine SpK.lit ?_ | refine GrdK.same ?_ | refine GrdK.tf ?_ | refine GrdK.ft ?_ | refine PickK.t ?_ | refine PickK.f ?_); (conv => whnf))
        refine LdK.rd (v := vU8 bs[at_]) hp.rd at_ rfl rfl rfl (by simp [ha]) ?_
        (conv => whnf); repeat ((first | refine RngK.mk (by omega) (by omega) ?_ | refine NzK.mk (by omega) ?_ | refine NnK.mk (by omega) ?_ | refine BdK.mk (by omega) (by omega) (by omega) ?_ | refine InsK.lit (by omega) (by omega) ?_ | refine SpK.lit ?_ | refine GrdK.same ?_ | refine GrdK.tf ?_ | refine GrdK.ft ?_ | refine PickK.t ?_ | refine PickK.f ?_); (conv => whnf))
        refine EffK.litV rfl rfl rfl rfl rfl rfl rfl rfl rfl ?_
        (conv => whnf); repeat ((first | refine RngK.mk (by omega) (by omega) ?_ | refine NzK.mk (by omega) ?_ | refine NnK.mk (by omega) ?_ | refine BdK.mk (by omega) (by omega) (by omega) ?_ | refine InsK.lit (by omega) (by omega) ?_ | refine SpK.lit ?_ | refine GrdK.same ?_ | refine GrdK.tf ?_ | refine GrdK.ft ?_ | refine PickK.t ?_ | refine PickK.f ?_); (conv => whnf))
        intro b2
        (conv => whnf); repeat ((first | refine RngK.mk (by omega) (by omega) ?_ | refine NzK.mk (by omega) ?_ | refine NnK.mk (by omega) ?_ | refine BdK.mk (by omega) (by omega) (by omega) ?_ | refine InsK.lit (by omega) (by omega) ?_ | refine SpK.lit ?_ | refine GrdK.same ?_ | refine GrdK.tf ?_ | refine GrdK.ft ?_ | refine PickK.t ?_ | refine PickK.f ?_); (conv => whnf))
        refine EffK.append 1 (news := [vU8 bs[at_]]) rfl rfl rfl rfl rfl rfl rfl rfl (Src.ownW (k := 0) rfl rfl) (by intro u hu; rcases List.mem_singleton.1 hu with rfl; rfl) (by simp [maxLen]; omega) (by show (_ + _) * 1 ≤ _; omega) fun A5 c5 => ?_
        (conv => whnf); repeat ((first | refine RngK.mk (by omega) (by omega) ?_ | refine NzK.mk (by omega) ?_ | refine NnK.mk (by omega) ?_ | refine BdK.mk (by omega) (by omega) (by omega) ?_ | refine InsK.lit (by omega) (by omega) ?_ | refine SpK.lit ?_ | refine GrdK.same ?_ | refine GrdK.tf ?_ | refine GrdK.ft ?_ | refine PickK.t ?_ | refine PickK.f ?_); (conv => whnf))
        refine ⟨(j + 1, A5, c5), ⟨rfl, rfl, rfl, rfl, rfl, trivial⟩, ?_, by simp only; omega, by simp only; omega⟩
        dsimp only
        rw [List.replicate_succ']
        exact HSub.of [1] rfl
      · have g := dF g
        obtain rfl : j = sz := by omega
        (conv => whnf); repeat ((first | refine RngK.mk (by omega) (by omega) ?_ | refine NzK.mk (by omega) ?_ | refine NnK.mk (by omega) ?_ | refine BdK.mk (by omega) (by omega) (by omega) ?_ | refine InsK.lit (by omega) (by omega) ?_ | refine SpK.lit ?_ | refine GrdK.same ?_ | refine GrdK.tf ?_ | refine GrdK.ft ?_ | refine PickK.t ?_ | refine PickK.f ?_); (conv => whnf))
        exact ⟨(A1, c1), ⟨rfl, rfl, trivial⟩, HSub.refl _, trivial⟩
    (conv => whnf); repeat ((first | refine RngK.mk (by omega) (by omega) ?_ | refine NzK.mk (by omega) ?_ | refine NnK.mk (by omega) ?_ | refine BdK.mk (by omega) (by omega) (by omega) ?_ | refine InsK.lit (by omega) (by omega) ?_ | refine SpK.lit ?_ | refine GrdK.same ?_ | refine GrdK.tf ?_ | refine GrdK.ft ?_ | refine PickK.t ?_ | refine PickK.f ?_); (conv => whnf))
    refine ⟨_, HSub.refl _, A1, c1, ?_, ?_⟩
    · show _ = Value.tuple #[.slice A1 (List.replicate sz bs[at_]).length c1, _, _]
      rw [List.length_replicate]
      rfl
    · show _ = [Chunk.own A1 (List.replicate sz bs[at_]).length c1 _ _ ((List.replicate sz bs[at_]).map vU8)]
      rw [List.length_replicate, List.map_replicate]
end Go.Proofs.YtgdhdkjbilifiaaDoor
namespace Go.Proofs.YtgdhdkjbilifiaaDoor
open Go Go.Sx
set_option maxRecDepth 100000
theorem tooLong_1 (x : Int) : tooLong 0 [x] = decide (x > 1000000) := by
  simp [tooLong]
theorem u8_of_wf {x : Int} (h : (Lit.int .u8 x).wf = true) : ∃ y : UInt8, x = (y.toNat : Int) := by
  have h' : 0 ≤ x ∧ x < 256 := by
    simp [Lit.wf, IntKind.min, IntKind.max, IntKind.signed, IntKind.bits] at h
    omega
  exact ⟨UInt8.ofNat x.toNat, by rw [UInt8.toNat_ofNat_of_lt' (by simp [UInt8.size]; omega)]; omega⟩
set_option maxHeartbeats 4000000 in
theorem lawRawLiterals (A : Option Addr) (n c : Nat) (bs : List UInt8) (off first : Int) (e u : Addr) :
    FnS Tryd.prog 9 [.slice A n c, vI off, .int .u8 first] [] (fun w => Bytes w (blocks []) A n c bs ∧ (Lit.int .i64 off).wf = true ∧ (Lit.int .u8 first).wf = true ∧ Laid w (blocks []) e u) (Is (vB true)) := by
  refine FnS.introD Tryd.func9 rfl (by kernel_rfl) rfl fun w hH ⟨hp, _, hwf, hL⟩ => ?_
  obtain ⟨h, rfl⟩ := u8_of_wf hwf
  have hle := hp.le
  have hmx := hp.max
  simp only [maxLen] at hmx
  (conv => whnf); repeat ((first | refine RngK.mk (by omega) (by omega) ?_ | refine NzK.mk (by omega) ?_ | refine NnK.mk (by omega) ?_ | refine BdK.mk (by omega) (by omega) (by omega) ?_ | refine InsK.lit (by omega) (by omega) ?_ | refine SpK.lit ?_ | refine GrdK.same ?_ | refine GrdK.tf ?_ | refine GrdK.ft ?_ | refine PickK.t ?_ | refine PickK.f ?_); (conv => whnf))
  refine Wp.cond rfl (fun g1 => ?_) (fun g1 => ?_)
  · (conv => whnf); repeat ((first | refine RngK.mk (by omega) (by omega) ?_ | refine NzK.mk (by omega) ?_ | refine NnK.mk (by omega) ?_ | refine BdK.mk (by omega) (by omega) (by omega) ?_ | refine InsK.lit (by omega) (by omega) ?_ | refine SpK.lit ?_ | refine GrdK.same ?_ | refine GrdK.tf ?_ | refine GrdK.ft ?_ | refine PickK.t ?_ | refine PickK.f ?_); (conv => whnf))
    exact ⟨[], HSub.nil _, rfl, rfl⟩
  have g1 := dF g1
  (conv => whnf); repeat ((first | refine RngK.mk (by omega) (by omega) ?_ | refine NzK.mk (by omega) ?_ | refine NnK.mk (by omega) ?_ | refine BdK.mk (by omega) (by omega) (by omega) ?_ | refine InsK.lit (by omega) (by omega) ?_ | refine SpK.lit ?_ | refine GrdK.same ?_ | refine GrdK.tf ?_ | refine GrdK.ft ?_ | refine PickK.t ?_ | refine PickK.f ?_); (conv => whnf))
  refine EffK.litV rfl rfl rfl rfl rfl rfl rfl rfl rfl ?_
  (conv => whnf); repeat ((first | refine RngK.mk (by omega) (by omega) ?_ | refine NzK.mk (by omega) ?_ | refine NnK.mk (by omega) ?_ | refine BdK.mk (by omega) (by omega) (by omega) ?_ | refine InsK.lit (by omega) (by omega) ?_ | refine SpK.lit ?_ | refine GrdK.same ?_ | refine GrdK.tf ?_ | refine GrdK.ft ?_ | refine PickK.t ?_ | refine PickK.f ?_); (conv => whnf))
  intro b1
  (conv => whnf); repeat ((first | refine RngK.mk (by omega) (by omega) ?_ | refine NzK.mk (by omega) ?_ | refine NnK.mk (by omega) ?_ | refine BdK.mk (by omega) (by omega) (by omega) ?_ | refine InsK.lit (by omega) (by omega) ?_ | refine SpK.lit ?_ | refine GrdK.same ?_ | refine GrdK.tf ?_ | refine GrdK.ft ?_ | refine PickK.t ?_ | refine PickK.f ?_); (conv => whnf))
  refine CallK.of [] (tooLong_spec (some ⟨b1, 0, none⟩) 1 1 [(n : Int)] (by intro x hx; rcases List.mem_singleton.1 hx with rfl; omega)) rfl (fun w hw => ⟨Rd.ofOwn hw 0 rfl, by decide⟩) ?_
  rintro _ _ ⟨rfl, rfl⟩
  rw [tooLong_1]
  (conv => whnf); repeat ((first | refine RngK.mk (by omega) (by omega) ?_ | refine NzK.mk (by omega) ?_ | refine NnK.mk (by omega) ?_ | refine BdK.mk (by omega) (by omega) (by omega) ?_ | refine InsK.lit (by omega) (by omega) ?_ | refine SpK.lit ?_ | refine GrdK.same ?_ | refine GrdK.tf ?_ | refine GrdK.ft ?_ | refine PickK.t ?_ | refine PickK.f ?_); (conv => whnf))
  refine Wp.cond rfl (fun g2 => ?_) (fun g2 => ?_)
  · (conv => whnf); repeat ((first | refine RngK.mk (by omega) (by omega) ?_ | refine NzK.mk (by omega) ?_ | refine NnK.mk (by omega) ?_ | refine BdK.mk (by omega) (by omega) (by omega) ?_ | refine InsK.lit (by omega) (by omega) ?_ | refine SpK.lit ?_ | refine GrdK.same ?_ | refine GrdK.tf ?_ | refine GrdK.ft ?_ | refine PickK.t ?_ | refine PickK.f ?_); (conv => whnf))
    exact ⟨[], HSub.nil _, rfl, rfl⟩
  have g2 := dF g2
  have hn : n ≤ 1000000 := by omega
  have hq := h.toNat_lt
  have e3 : iand .u8 (h.toNat : Int) 3 = ((h.toNat % 4 : Nat) : Int) := by
    have := iand_u (k := .u8) rfl (x := h.toNat) (y := 3) hq (by decide)
    rw [show (3 : Nat) = 2 ^ 2 - 1 by rfl, Nat.and_two_pow_sub_one_eq_mod] at this
    exact this
  (conv => whnf); repeat ((first | refine RngK.mk (by omega) (by omega) ?_ | refine NzK.mk (by omega) ?_ | refine NnK.mk (by omega) ?_ | refine BdK.mk (by omega) (by omega) (by omega) ?_ | refine InsK.lit (by omega) (by omega) ?_ | refine SpK.lit ?_ | refine GrdK.same ?_ | refine GrdK.tf ?_ | refine GrdK.ft ?_ | refine PickK.t ?_ | refine PickK.f ?_); (conv => whnf))
  by_cases c1 : off < 0
  · rw [decide_eq_true c1]
    (conv => whnf); repeat ((first | refine RngK.mk (by omega) (by omega) ?_ | refine NzK.mk (by omega) ?_ | refine NnK.mk (by omega) ?_ | refine BdK.mk (by omega) (by omega) (by omega) ?_ | refine InsK.lit (by omega) (by omega) ?_ | refine SpK.lit ?_ | refine GrdK.same ?_ | refine GrdK.tf ?_ | refine GrdK.ft ?_ | refine PickK.t ?_ | refine PickK.f ?_); (conv => whnf))
    refine Wp.cond rfl (fun _ => ?_) (fun h => by cases h)
    (conv => whnf); repeat ((first | refine RngK.mk (by omega) (by omega) ?_ | refine NzK.mk (by omega) ?_ | refine NnK.mk (by omega) ?_ | refine BdK.mk (by omega) (by omega) (by omega) ?_ | refine InsK.lit (by omega) (by omega) ?_ | refine SpK.lit ?_ | refine GrdK.same ?_ | refine GrdK.tf ?_ | refine GrdK.ft ?_ | refine PickK.t ?_ | refine PickK.f ?_); (conv => whnf))
    refine CallK.of [] (coded_spec e u) rfl (fun w hw => hL.pass hw) ?_
    rintro _ _ ⟨rfl, rfl⟩
    (conv => whnf); repeat ((first | refine RngK.mk (by omega) (by omega) ?_ | refine NzK.mk (by omega) ?_ | refine NnK.mk (by omega) ?_ | refine BdK.mk (by omega) (by omega) (by omega) ?_ | refine InsK.lit (by omega) (by omega) ?_ | refine SpK.lit ?_ | refine GrdK.same ?_ | refine GrdK.tf ?_ | refine GrdK.ft ?_ | refine PickK.t ?_ | refine PickK.f ?_); (conv => whnf))
    exact ⟨[], HSub.nil _, rfl, rfl⟩
  rw [decide_eq_false c1]
  (conv => whnf); repeat ((first | refine RngK.mk (by omega) (by omega) ?_ | refine NzK.mk (by omega) ?_ | refine NnK.mk (by omega) ?_ | refine BdK.mk (by omega) (by omega) (by omega) ?_ | refine InsK.lit (by omega) (by omega) ?_ | refine SpK.lit ?_ | refine GrdK.same ?_ | refine GrdK.tf ?_ | refine GrdK.ft ?_ | refine PickK.t ?_ | refine PickK.f ?_); (conv => whnf))
  by_cases c2 : off > (n : Int)
  · rw [decide_eq_true c2]
    (conv => whnf); repeat ((first | refine RngK.mk (by omega) (by omega) ?_ | refine NzK.mk (by omega) ?_ | refine NnK.mk (by omega) ?_ | refine BdK.mk (by omega) (by omega) (by omega) ?_ | refine InsK.lit (by omega) (by omega) ?_ | refine SpK.lit ?_ | refine GrdK.same ?_ | refine GrdK.tf ?_ | refine GrdK.ft ?_ | refine PickK.t ?_ | refine PickK.f ?_); (conv => whnf))
    refine Wp.cond rfl (fun _ => ?_) (fun h => by cases h)
    (conv => whnf); repeat ((first | refine RngK.mk (by omega) (by omega) ?_ | refine NzK.mk (by omega) ?_ | refine NnK.mk (by omega) ?_ | refine BdK.mk (by omega) (by omega) (by omega) ?_ | refine InsK.lit (by omega) (by omega) ?_ | refine SpK.lit ?_ | refine GrdK.same ?_ | refine GrdK.tf ?_ | refine GrdK.ft ?_ | refine PickK.t ?_ | refine PickK.f ?_); (conv => whnf))
    refine CallK.of [] (coded_spec e u) rfl (fun w hw => hL.pass hw) ?_
    rintro _ _ ⟨rfl, rfl⟩
    (conv => whnf); repeat ((first | refine RngK.mk (by omega) (by omega) ?_ | refine NzK.mk (by omega) ?_ | refine NnK.mk (by omega) ?_ | refine BdK.mk (by omega) (by omega) (by omega) ?_ | refine InsK.lit (by omega) (by omega) ?_ | refine SpK.lit ?_ | refine GrdK.same ?_ | refine GrdK.tf ?_ | refine GrdK.ft ?_ | refine PickK.t ?_ | refine PickK.f ?_); (conv => whnf))
    exact ⟨[], HSub.nil _, rfl, rfl⟩
  rw [decide_eq_false c2]
  (conv => whnf); repeat ((first | refine RngK.mk (by omega) (by omega) ?_ | refine NzK.mk (by omega) ?_ | refine NnK.mk (by omega) ?_ | refine BdK.mk (by omega) (by omega) (by omega) ?_ | refine InsK.lit (by omega) (by omega) ?_ | refine SpK.lit ?_ | refine GrdK.same ?_ | refine GrdK.tf ?_ | refine GrdK.ft ?_ | refine PickK.t ?_ | refine PickK.f ?_); (conv => whnf))
  rw [e3]
  (conv => whnf); repeat ((first | refine RngK.mk (by omega) (by omega) ?_ | refine NzK.mk (by omega) ?_ | refine NnK.mk (by omega) ?_ | refine BdK.mk (by omega) (by omega) (by omega) ?_ | refine InsK.lit (by omega) (by omega) ?_ | refine SpK.lit ?_ | refine GrdK.same ?_ | refine GrdK.tf ?_ | refine GrdK.ft ?_ | refine PickK.t ?_ | refine PickK.f ?_); (conv => whnf))
  refine Wp.cond rfl (fun _ => ?_) (fun g3 => ?_)
  · (conv => whnf); repeat ((first | refine RngK.mk (by omega) (by omega) ?_ | refine NzK.mk (by omega) ?_ | refine NnK.mk (by omega) ?_ | refine BdK.mk (by omega) (by omega) (by omega) ?_ | refine InsK.lit (by omega) (by omega) ?_ | refine SpK.lit ?_ | refine GrdK.same ?_ | refine GrdK.tf ?_ | refine GrdK.ft ?_ | refine PickK.t ?_ | refine PickK.f ?_); (conv => whnf))
    refine CallK.of [] (coded_spec e u) rfl (fun w hw => hL.pass hw) ?_
    rintro _ _ ⟨rfl, rfl⟩
    (conv => whnf); repeat ((first | refine RngK.mk (by omega) (by omega) ?_ | refine NzK.mk (by omega) ?_ | refine NnK.mk (by omega) ?_ | refine BdK.mk (by omega) (by omega) (by omega) ?_ | refine InsK.lit (by omega) (by omega) ?_ | refine SpK.lit ?_ | refine GrdK.same ?_ | refine GrdK.tf ?_ | refine GrdK.ft ?_ | refine PickK.t ?_ | refine PickK.f ?_); (conv => whnf))
    exact ⟨[], HSub.nil _, rfl, rfl⟩
  obtain ⟨o, rfl⟩ : ∃ o : Nat, off = (o : Int) := ⟨off.toNat, by omega⟩
  (conv => whnf); repeat ((first | refine RngK.mk (by omega) (by omega) ?_ | refine NzK.mk (by omega) ?_ | refine NnK.mk (by omega) ?_ | refine BdK.mk (by omega) (by omega) (by omega) ?_ | refine InsK.lit (by omega) (by omega) ?_ | refine SpK.lit ?_ | refine GrdK.same ?_ | refine GrdK.tf ?_ | refine GrdK.ft ?_ | refine PickK.t ?_ | refine PickK.f ?_); (conv => whnf))
  refine CallK.of [] (rawRead_spec A n c bs o h (by omega) (by omega)) rfl (fun w hw => hp.pass hw) ?_
  rintro _ _ ⟨A1, c1, rfl, rfl⟩
  (conv => whnf); repeat ((first | refine RngK.mk (by omega) (by omega) ?_ | refine NzK.mk (by omega) ?_ | refine NnK.mk (by omega) ?_ | refine BdK.mk (by omega) (by omega) (by omega) ?_ | refine InsK.lit (by omega) (by omega) ?_ | refine SpK.lit ?_ | refine GrdK.same ?_ | refine GrdK.tf ?_ | refine GrdK.ft ?_ | refine PickK.t ?_ | refine PickK.f ?_); (conv => whnf))
  refine CallK.of [] (implRaw_spec A n c bs e u o h (by omega) (by omega)) rfl (fun w hw => ⟨hp.pass hw, hL.pass hw⟩) ?_
  rintro _ _ ⟨A2, c2, rfl, rfl⟩
  (conv => whnf); repeat ((first | refine RngK.mk (by omega) (by omega) ?_ | refine NzK.mk (by omega) ?_ | refine NnK.mk (by omega) ?_ | refine BdK.mk (by omega) (by omega) (by omega) ?_ | refine InsK.lit (by omega) (by omega) ?_ | refine SpK.lit ?_ | refine GrdK.same ?_ | refine GrdK.tf ?_ | refine GrdK.ft ?_ | refine PickK.t ?_ | refine PickK.f ?_); (conv => whnf))
  refine EffK.litV rfl rfl rfl rfl rfl rfl rfl rfl rfl ?_
  (conv => whnf); repeat ((first | refine RngK.mk (by omega) (by omega) ?_ | refine NzK.mk (by omega) ?_ | refine NnK.mk (by omega) ?_ | refine BdK.mk (by omega) (by omega) (by omega) ?_ | refine InsK.lit (by omega) (by omega) ?_ | refine SpK.lit ?_ | refine GrdK.same ?_ | refine GrdK.tf ?_ | refine GrdK.ft ?_ | refine PickK.t ?_ | refine PickK.f ?_); (conv => whnf))
  intro b3
  (conv => whnf); repeat ((first | refine RngK.mk (by omega) (by omega) ?_ | refine NzK.mk (by omega) ?_ | refine NnK.mk (by omega) ?_ | refine BdK.mk (by omega) (by omega) (by omega) ?_ | refine InsK.lit (by omega) (by omega) ?_ | refine SpK.lit ?_ | refine GrdK.same ?_ | refine GrdK.tf ?_ | refine GrdK.ft ?_ | refine PickK.t ?_ | refine PickK.f ?_); (conv => whnf))
  have h7 : rawM [7] 0 (8 : UInt8).toNat = .right [7] 1 := rfl
  have hi7 := implRaw_spec (some ⟨b3, 0, none⟩) 1 1 [7] e u 0 8 (by omega) (by omega)
  rw [h7] at hi7
  refine CallK.of [] hi7 rfl (fun w hw => ⟨Bytes.ofOwn (bs := [7]) hw 0 rfl, hL.pass hw⟩) ?_
  rintro _ _ ⟨A3, c3, rfl, rfl⟩
  obtain ⟨R, hR⟩ : ∃ R, rawM bs o h.toNat = R := ⟨_, rfl⟩
  rw [hR]
  cases hRR : R with
  | right l p =>
    have hll := raw_len (hR.trans hRR)
    (conv => whnf); repeat ((first | refine RngK.mk (by omega) (by omega) ?_ | refine NzK.mk (by omega) ?_ | refine NnK.mk (by omega) ?_ | refine BdK.mk (by omega) (by omega) (by omega) ?_ | refine InsK.lit (by omega) (by omega) ?_ | refine SpK.lit ?_ | refine GrdK.same ?_ | refine GrdK.tf ?_ | refine GrdK.ft ?_ | refine PickK.t ?_ | refine PickK.f ?_); (conv => whnf))
    rw [show ((((RawT.right l p).out.snd.fst : Nat) : Int) != (((RawT.right l p).pl : Nat) : Int)) = false by simp [RawT.out, RawT.pl]]
    (conv => whnf); repeat ((first | refine RngK.mk (by omega) (by omega) ?_ | refine NzK.mk (by omega) ?_ | refine NnK.mk (by omega) ?_ | refine BdK.mk (by omega) (by omega) (by omega) ?_ | refine InsK.lit (by omega) (by omega) ?_ | refine SpK.lit ?_ | refine GrdK.same ?_ | refine GrdK.tf ?_ | refine GrdK.ft ?_ | refine PickK.t ?_ | refine PickK.f ?_); (conv => whnf))
    refine CallK.of [] (sameBytes_spec A2 A1 l.length l.length c2 c1 l l) rfl (fun w hw => ⟨Rd.ofOwn hw 2 rfl, Rd.ofOwn hw 3 rfl, by simp [maxLen]; omega⟩) ?_
    rintro _ _ ⟨rfl, rfl⟩
    rw [decide_eq_true (rfl : l = l)]
    (conv => whnf); repeat ((first | refine RngK.mk (by omega) (by omega) ?_ | refine NzK.mk (by omega) ?_ | refine NnK.mk (by omega) ?_ | refine BdK.mk (by omega) (by omega) (by omega) ?_ | refine InsK.lit (by omega) (by omega) ?_ | refine SpK.lit ?_ | refine GrdK.same ?_ | refine GrdK.tf ?_ | refine GrdK.ft ?_ | refine PickK.t ?_ | refine PickK.f ?_); (conv => whnf))
    refine Wp.cond rfl (fun h => by cases h) (fun _ => ?_)
    (conv => whnf); repeat ((first | refine RngK.mk (by omega) (by omega) ?_ | refine NzK.mk (by omega) ?_ | refine NnK.mk (by omega) ?_ | refine BdK.mk (by omega) (by omega) (by omega) ?_ | refine InsK.lit (by omega) (by omega) ?_ | refine SpK.lit ?_ | refine GrdK.same ?_ | refine GrdK.tf ?_ | refine GrdK.ft ?_ | refine PickK.t ?_ | refine PickK.f ?_); (conv => whnf))
    refine EffK.litV rfl rfl rfl rfl rfl rfl rfl rfl rfl ?_
    (conv => whnf); repeat ((first | refine RngK.mk (by omega) (by omega) ?_ | refine NzK.mk (by omega) ?_ | refine NnK.mk (by omega) ?_ | refine BdK.mk (by omega) (by omega) (by omega) ?_ | refine InsK.lit (by omega) (by omega) ?_ | refine SpK.lit ?_ | refine GrdK.same ?_ | refine GrdK.tf ?_ | refine GrdK.ft ?_ | refine PickK.t ?_ | refine PickK.f ?_); (conv => whnf))
    intro b6
    (conv => whnf); repeat ((first | refine RngK.mk (by omega) (by omega) ?_ | refine NzK.mk (by omega) ?_ | refine NnK.mk (by omega) ?_ | refine BdK.mk (by omega) (by omega) (by omega) ?_ | refine InsK.lit (by omega) (by omega) ?_ | refine SpK.lit ?_ | refine GrdK.same ?_ | refine GrdK.tf ?_ | refine GrdK.ft ?_ | refine PickK.t ?_ | refine PickK.f ?_); (conv => whnf))
    refine CallK.of [] (sameBytes_spec A3 (some ⟨b6, 0, none⟩) 1 1 c3 1 [7] [7]) rfl (fun w hw => ⟨Rd.ofOwn hw 1 rfl, Rd.ofOwn hw 0 rfl, by simp [maxLen]⟩) ?_
    rintro _ _ ⟨rfl, rfl⟩
    (conv => whnf); repeat ((first | refine RngK.mk (by omega) (by omega) ?_ | refine NzK.mk (by omega) ?_ | refine NnK.mk (by omega) ?_ | refine BdK.mk (by omega) (by omega) (by omega) ?_ | refine InsK.lit (by omega) (by omega) ?_ | refine SpK.lit ?_ | refine GrdK.same ?_ | refine GrdK.tf ?_ | refine GrdK.ft ?_ | refine PickK.t ?_ | refine PickK.f ?_); (conv => whnf))
    exact ⟨[], HSub.nil _, rfl, rfl⟩
  | wrong =>
    (conv => whnf); repeat ((first | refine RngK.mk (by omega) (by omega) ?_ | refine NzK.mk (by omega) ?_ | refine NnK.mk (by omega) ?_ | refine BdK.mk (by omega) (by omega) (by omega) ?_ | refine InsK.lit (by omega) (by omega) ?_ | refine SpK.lit ?_ | refine GrdK.same ?_ | refine GrdK.tf ?_ | refine GrdK.ft ?_ | refine PickK.t ?_ | refine PickK.f ?_); (conv => whnf))
    refine Wp.cond rfl (fun h => by cases h) (fun _ => ?_)
    (conv => whnf); repeat ((first | refine RngK.mk (by omega) (by omega) ?_ | refine NzK.mk (by omega) ?_ | refine NnK.mk (by omega) ?_ | refine BdK.mk (by omega) (by omega) (by omega) ?_ | refine InsK.lit (by omega) (by omega) ?_ | refine SpK.lit ?_ | refine GrdK.same ?_ | refine GrdK.tf ?_ | refine GrdK.ft ?_ | refine PickK.t ?_ | refine PickK.f ?_); (conv => whnf))
    refine EffK.litV rfl rfl rfl rfl rfl rfl rfl rfl rfl ?_
    (conv => whnf); repeat ((first | refine RngK.mk (by omega) (by omega) ?_ | refine NzK.mk (by omega) ?_ | refine NnK.mk (by omega) ?_ | refine BdK.mk (by omega) (by omega) (by omega) ?_ | refine InsK.lit (by omega) (by omega) ?_ | refine SpK.lit ?_ | refine GrdK.same ?_ | refine GrdK.tf ?_ | refine GrdK.ft ?_ | refine PickK.t ?_ | refine PickK.f ?_); (conv => whnf))
    intro b6
    (conv => whnf); repeat ((first | refine RngK.mk (by omega) (by omega) ?_ | refine NzK.mk (by omega) ?_ | refine NnK.mk (by omega) ?_ | refine BdK.mk (by omega) (by omega) (by omega) ?_ | refine InsK.lit (by omega) (by omega) ?_ | refine SpK.lit ?_ | refine GrdK.same ?_ | refine GrdK.tf ?_ | refine GrdK.ft ?_ | refine PickK.t ?_ | refine PickK.f ?_); (conv => whnf))
    refine CallK.of [] (sameBytes_spec A3 (some ⟨b6, 0, none⟩) 1 1 c3 1 [7] [7]) rfl (fun w hw => ⟨Rd.ofOwn hw 1 rfl, Rd.ofOwn hw 0 rfl, by simp [maxLen]⟩) ?_
    rintro _ _ ⟨rfl, rfl⟩
    (conv => whnf); repeat ((first | refine RngK.mk (by omega) (by omega) ?_ | refine NzK.mk (by omega) ?_ | refine NnK.mk (by omega) ?_ | refine BdK.mk (by omega) (by omega) (by omega) ?_ | refine InsK.lit (by omega) (by omega) ?_ | refine SpK.lit ?_ | refine GrdK.same ?_ | refine GrdK.tf ?_ | refine GrdK.ft ?_ | refine PickK.t ?_ | refine PickK.f ?_); (conv => whnf))
    exact ⟨[], HSub.nil _, rfl, rfl⟩
  | unsaid =>
    (conv => whnf); repeat ((first | refine RngK.mk (by omega) (by omega) ?_ | refine NzK.mk (by omega) ?_ | refine NnK.mk (by omega) ?_ | refine BdK.mk (by omega) (by omega) (by omega) ?_ | refine InsK.lit (by omega) (by omega) ?_ | refine SpK.lit ?_ | refine GrdK.same ?_ | refine GrdK.tf ?_ | refine GrdK.ft ?_ | refine PickK.t ?_ | refine PickK.f ?_); (conv => whnf))
    refine Wp.cond rfl (fun h => by cases h) (fun _ => ?_)
    (conv => whnf); repeat ((first | refine RngK.mk (by omega) (by omega) ?_ | refine NzK.mk (by omega) ?_ | refine NnK.mk (by omega) ?_ | refine BdK.mk (by omega) (by omega) (by omega) ?_ | refine InsK.lit (by omega) (by omega) ?_ | refine SpK.lit ?_ | refine GrdK.same ?_ | refine GrdK.tf ?_ | refine GrdK.ft ?_ | refine PickK.t ?_ | refine PickK.f ?_); (conv => whnf))
    refine EffK.litV rfl rfl rfl rfl rfl rfl rfl rfl rfl ?_
    (conv => whnf); repeat ((first | refine RngK.mk (by omega) (by omega) ?_ | refine NzK.mk (by omega) ?_ | refine NnK.mk (by omega) ?_ | refine BdK.mk (by omega) (by omega) (by omega) ?_ | refine InsK.lit (by omega) (by omega) ?_ | refine SpK.lit ?_ | refine GrdK.same ?_ | refine GrdK.tf ?_ | refine GrdK.ft ?_ | refine PickK.t ?_ | refine PickK.f ?_); (conv => whnf))
    intro b6
    (conv => whnf); repeat ((first | refine RngK.mk (by omega) (by omega) ?_ | refine NzK.mk (by omega) ?_ | refine NnK.mk (by omega) ?_ | refine BdK.mk (by omega) (by omega) (by omega) ?_ | refine InsK.lit (by omega) (by omega) ?_ | refine SpK.lit ?_ | refine GrdK.same ?_ | refine GrdK.tf ?_ | refine GrdK.ft ?_ | refine PickK.t ?_ | refine PickK.f ?_); (conv => whnf))
    refine CallK.of [] (sameBytes_spec A3 (some ⟨b6, 0, none⟩) 1 1 c3 1 [7] [7]) rfl (fun w hw => ⟨Rd.ofOwn hw 1 rfl, Rd.ofOwn hw 0 rfl, by simp [maxLen]⟩) ?_
    rintro _ _ ⟨rfl, rfl⟩
    (conv => whnf); repeat ((first | refine RngK.mk (by omega) (by omega) ?_ | refine NzK.mk (by omega) ?_ | refine NnK.mk (by omega) ?_ | refine BdK.mk (by omega) (by omega) (by omega) ?_ | refine InsK.lit (by omega) (by omega) ?_ | refine SpK.lit ?_ | refine GrdK.same ?_ | refine GrdK.tf ?_ | refine GrdK.ft ?_ | refine PickK.t ?_ | refine PickK.f ?_); (conv => whnf))
    exact ⟨[], HSub.nil _, rfl, rfl⟩
end Go.Proofs.YtgdhdkjbilifiaaDoor
