/- Tables that are read, their weights told by a table of states; tables where no data are. -/
import Derived.Test.YtgdhdkjbilifiaaDoorPkB
namespace Go.Proofs.YtgdhdkjbilifiaaDoor
open Go Go.Sx
set_option maxRecDepth 100000
set_option maxHeartbeats 1000000 in
theorem zzhuffP_spec (A : Option Addr) (n c : Nat) (bs : List UInt8) (e u : Addr) (off : Nat) (hn : n ≤ 16777216) (ho : off < bs.length) (hd : bs[off].toNat < 128) :
    FnS Tryd.prog 36 [.slice A n c, vN off] [] (fun w => Bytes w (blocks []) A n c bs ∧ Laid w (blocks []) e u)
      (fun v H => match (pkW bs off bs[off].toNat).bind hufS with
        | none => ∃ T' x, v = .tuple #[.slice none 0 0, vI 0, vI 0, .iface T' x] ∧ H = []
        | some (l, b) => ∃ (A1 : Option Addr) (ys : List Nat), ys.length = 2048 ∧ ys.take (2 ^ b) = l.map pk ∧ v = .tuple #[.slice A1 (2 ^ b) 2048, vN b, vN (off + 1 + bs[off].toNat), .nilIface] ∧ H = [.own A1 2048 2048 109 1 (ys.map vU16)]) := by
  refine FnS.introD Tryd.func36 rfl (by kernel_rfl) rfl fun w hH ⟨hp, hL⟩ => ?_
  obtain ⟨R, hR⟩ : ∃ R, (pkW bs off bs[off].toNat).bind hufS = R := ⟨_, rfl⟩
  rw [hR]
  (conv => whnf); repeat ((first | refine RngK.mk (by omega) (by omega) ?_ | refine NzK.mk (by omega) ?_ | refine NnK.mk (by omega) ?_ | refine BdK.mk (by omega) (by omega) (by omega) ?_ | refine InsK.lit (by omega) (by omega) ?_ | refine SpK.lit ?_ | refine GrdK.same ?_ | refine GrdK.tf ?_ | refine GrdK.ft ?_ | refine PickK.t ?_ | refine PickK.f ?_); (conv => whnf))
  refine EffK.made1 2048 rfl rfl rfl rfl rfl rfl (by show 2 * _ ≤ _; omega) (by simp [maxLen]) fun b12 => ?_
  (conv => whnf); repeat ((first | refine RngK.mk (by omega) (by omega) ?_ | refine NzK.mk (by omega) ?_ | refine NnK.mk (by omega) ?_ | refine BdK.mk (by omega) (by omega) (by omega) ?_ | refine InsK.lit (by omega) (by omega) ?_ | refine SpK.lit ?_ | refine GrdK.same ?_ | refine GrdK.tf ?_ | refine GrdK.ft ?_ | refine PickK.t ?_ | refine PickK.f ?_); (conv => whnf))
  refine ⟨_, _, rfl, rfl, ?_⟩
  intro b17
  (conv => whnf); repeat ((first | refine RngK.mk (by omega) (by omega) ?_ | refine NzK.mk (by omega) ?_ | refine NnK.mk (by omega) ?_ | refine BdK.mk (by omega) (by omega) (by omega) ?_ | refine InsK.lit (by omega) (by omega) ?_ | refine SpK.lit ?_ | refine GrdK.same ?_ | refine GrdK.tf ?_ | refine GrdK.ft ?_ | refine PickK.t ?_ | refine PickK.f ?_); (conv => whnf))
  have hrf := fun cs0 h60 h210 => readHuffP_spec b17 A n c bs e u off (some ⟨b12, 0, none⟩) 2048 2048 (List.replicate 2048 0) cs0 hn ho hd (by simp) (by omega) (by omega) h60 h210
  unfold outP at hrf
  rw [hR] at hrf
  rw [List.map_replicate] at hrf
  refine CallK.of [1, 0] (hrf _ ?h1 ?h2) rfl (fun w hw => ⟨hp.pass hw, hL.pass hw⟩) ?main
  case h1 => rfl
  case h2 => rfl
  case main =>
    cases hRR : R with
    | none =>
      rintro _ _ ⟨ys, T', x, rfl, rfl⟩
      (conv => whnf); repeat ((first | refine RngK.mk (by omega) (by omega) ?_ | refine NzK.mk (by omega) ?_ | refine NnK.mk (by omega) ?_ | refine BdK.mk (by omega) (by omega) (by omega) ?_ | refine InsK.lit (by omega) (by omega) ?_ | refine SpK.lit ?_ | refine GrdK.same ?_ | refine GrdK.tf ?_ | refine GrdK.ft ?_ | refine PickK.t ?_ | refine PickK.f ?_); (conv => whnf))
      refine ValK.neIface rfl ?_
      (conv => whnf); repeat ((first | refine RngK.mk (by omega) (by omega) ?_ | refine NzK.mk (by omega) ?_ | refine NnK.mk (by omega) ?_ | refine BdK.mk (by omega) (by omega) (by omega) ?_ | refine InsK.lit (by omega) (by omega) ?_ | refine SpK.lit ?_ | refine GrdK.same ?_ | refine GrdK.tf ?_ | refine GrdK.ft ?_ | refine PickK.t ?_ | refine PickK.f ?_); (conv => whnf))
      refine Wp.cond rfl (fun _ => ?_) (fun h => by cases h)
      (conv => whnf); repeat ((first | refine RngK.mk (by omega) (by omega) ?_ | refine NzK.mk (by omega) ?_ | refine NnK.mk (by omega) ?_ | refine BdK.mk (by omega) (by omega) (by omega) ?_ | refine InsK.lit (by omega) (by omega) ?_ | refine SpK.lit ?_ | refine GrdK.same ?_ | refine GrdK.tf ?_ | refine GrdK.ft ?_ | refine PickK.t ?_ | refine PickK.f ?_); (conv => whnf))
      exact ⟨_, HSub.nil _, T', x, rfl, rfl⟩
    | some x =>
      obtain ⟨l, b⟩ := x
      rintro _ _ ⟨ys, hy1, hy2, rfl, rfl⟩
      rw [hRR] at hR
      have hF : ∃ ws, HufF ws l b := by
        cases hpw : pkW bs off bs[off].toNat with
        | none => rw [hpw] at hR; cases hR
        | some ws => rw [hpw] at hR; exact ⟨_, hufS_facts hR⟩
      obtain ⟨ws, hF⟩ := hF
      have hb1 := hF.b1
      have h2b : 2 ^ b ≤ 2 ^ 11 := Nat.pow_le_pow_right (by omega) hb1
      have h2p := Nat.two_pow_pos b
      have e1 : ishl .i64 1 (b : Int) = ((2 ^ b : Nat) : Int) := by
        have := ishl_i64 (x := 1) (n := b) (by omega) (by omega)
        rw [Nat.one_mul] at this
        exact this
      (conv => whnf); repeat ((first | refine RngK.mk (by omega) (by omega) ?_ | refine NzK.mk (by omega) ?_ | refine NnK.mk (by omega) ?_ | refine BdK.mk (by omega) (by omega) (by omega) ?_ | refine InsK.lit (by omega) (by omega) ?_ | refine SpK.lit ?_ | refine GrdK.same ?_ | refine GrdK.tf ?_ | refine GrdK.ft ?_ | refine PickK.t ?_ | refine PickK.f ?_); (conv => whnf))
      refine ValK.neNil rfl ?_
      (conv => whnf); repeat ((first | refine RngK.mk (by omega) (by omega) ?_ | refine NzK.mk (by omega) ?_ | refine NnK.mk (by omega) ?_ | refine BdK.mk (by omega) (by omega) (by omega) ?_ | refine InsK.lit (by omega) (by omega) ?_ | refine SpK.lit ?_ | refine GrdK.same ?_ | refine GrdK.tf ?_ | refine GrdK.ft ?_ | refine PickK.t ?_ | refine PickK.f ?_); (conv => whnf))
      refine Wp.cond rfl (fun h => by cases h) (fun _ => ?_)
      (conv => whnf); repeat ((first | refine RngK.mk (by omega) (by omega) ?_ | refine NzK.mk (by omega) ?_ | refine NnK.mk (by omega) ?_ | refine BdK.mk (by omega) (by omega) (by omega) ?_ | refine InsK.lit (by omega) (by omega) ?_ | refine SpK.lit ?_ | refine GrdK.same ?_ | refine GrdK.tf ?_ | refine GrdK.ft ?_ | refine PickK.t ?_ | refine PickK.f ?_); (conv => whnf))
      rw [e1]
      (conv => whnf); repeat ((first | refine RngK.mk (by omega) (by omega) ?_ | refine NzK.mk (by omega) ?_ | refine NnK.mk (by omega) ?_ | refine BdK.mk (by omega) (by omega) (by omega) ?_ | refine InsK.lit (by omega) (by omega) ?_ | refine SpK.lit ?_ | refine GrdK.same ?_ | refine GrdK.tf ?_ | refine GrdK.ft ?_ | refine PickK.t ?_ | refine PickK.f ?_); (conv => whnf))
      refine ⟨_, HSub.of [0] rfl, some ⟨b12, 0, none⟩, ys, hy1, hy2, ?_, rfl⟩
      rfl
set_option maxHeartbeats 1000000 in
theorem rcodesP_spec (A : Option Addr) (n c : Nat) (bs : List UInt8) (e u : Addr) (off : Nat) (hn : n ≤ 16777216) (ho : off < bs.length) (hd : bs[off].toNat < 128) :
    FnS Tryd.prog 15 [.slice A n c, vN off] [] (fun w => Bytes w (blocks []) A n c bs ∧ Laid w (blocks []) e u)
      (CodesOut (off + 1 + bs[off].toNat) ((pkW bs off bs[off].toNat).bind hufS)) := by
  refine FnS.introD Tryd.func15 rfl (by kernel_rfl) rfl fun w hH ⟨hp, hL⟩ => ?_
  have hrf := zzhuffP_spec A n c bs e u off hn ho hd
  obtain ⟨R, hR⟩ : ∃ R, (pkW bs off bs[off].toNat).bind hufS = R := ⟨_, rfl⟩
  rw [hR] at hrf ⊢
  (conv => whnf); repeat ((first | refine RngK.mk (by omega) (by omega) ?_ | refine NzK.mk (by omega) ?_ | refine NnK.mk (by omega) ?_ | refine BdK.mk (by omega) (by omega) (by omega) ?_ | refine InsK.lit (by omega) (by omega) ?_ | refine SpK.lit ?_ | refine GrdK.same ?_ | refine GrdK.tf ?_ | refine GrdK.ft ?_ | refine PickK.t ?_ | refine PickK.f ?_); (conv => whnf))
  refine CallK.of [] hrf rfl (fun w hw => ⟨hp.pass hw, hL.pass hw⟩) ?_
  cases hRR : R with
  | none =>
    rintro _ _ ⟨T', x, rfl, rfl⟩
    (conv => whnf); repeat ((first | refine RngK.mk (by omega) (by omega) ?_ | refine NzK.mk (by omega) ?_ | refine NnK.mk (by omega) ?_ | refine BdK.mk (by omega) (by omega) (by omega) ?_ | refine InsK.lit (by omega) (by omega) ?_ | refine SpK.lit ?_ | refine GrdK.same ?_ | refine GrdK.tf ?_ | refine GrdK.ft ?_ | refine PickK.t ?_ | refine PickK.f ?_); (conv => whnf))
    refine ValK.neIface rfl ?_
    (conv => whnf); repeat ((first | refine RngK.mk (by omega) (by omega) ?_ | refine NzK.mk (by omega) ?_ | refine NnK.mk (by omega) ?_ | refine BdK.mk (by omega) (by omega) (by omega) ?_ | refine InsK.lit (by omega) (by omega) ?_ | refine SpK.lit ?_ | refine GrdK.same ?_ | refine GrdK.tf ?_ | refine GrdK.ft ?_ | refine PickK.t ?_ | refine PickK.f ?_); (conv => whnf))
    refine Wp.cond rfl (fun _ => ?_) (fun h => by cases h)
    (conv => whnf); repeat ((first | refine RngK.mk (by omega) (by omega) ?_ | refine NzK.mk (by omega) ?_ | refine NnK.mk (by omega) ?_ | refine BdK.mk (by omega) (by omega) (by omega) ?_ | refine InsK.lit (by omega) (by omega) ?_ | refine SpK.lit ?_ | refine GrdK.same ?_ | refine GrdK.tf ?_ | refine GrdK.ft ?_ | refine PickK.t ?_ | refine PickK.f ?_); (conv => whnf))
    refine EffK.lit0 rfl rfl fun b => ?_
    (conv => whnf); repeat ((first | refine RngK.mk (by omega) (by omega) ?_ | refine NzK.mk (by omega) ?_ | refine NnK.mk (by omega) ?_ | refine BdK.mk (by omega) (by omega) (by omega) ?_ | refine InsK.lit (by omega) (by omega) ?_ | refine SpK.lit ?_ | refine GrdK.same ?_ | refine GrdK.tf ?_ | refine GrdK.ft ?_ | refine PickK.t ?_ | refine PickK.f ?_); (conv => whnf))
    exact ⟨_, HSub.refl _, _, _, rfl, rfl⟩
  | some x =>
    obtain ⟨l, b⟩ := x
    rintro _ _ ⟨A1, ys, hy1, hy2, rfl, rfl⟩
    rw [hRR] at hR
    have hF : ∃ ws, ws.length ≤ 255 ∧ HufF ws l b := by
      cases hpw : pkW bs off bs[off].toNat with
      | none => rw [hpw] at hR; cases hR
      | some ws => rw [hpw] at hR; exact ⟨_, (pkW_facts hpw).1, hufS_facts hR⟩
    obtain ⟨ws, hwl, hF⟩ := hF
    have hb1 := hF.b1
    have hll := hF.len
    have h2b : 2 ^ b ≤ 2 ^ 11 := Nat.pow_le_pow_right (by omega) hb1
    have h2p := Nat.two_pow_pos b
    have e1 : ishl .i64 1 (b : Int) = ((2 ^ b : Nat) : Int) := by
      have := ishl_i64 (x := 1) (n := b) (by omega) (by omega)
      rw [Nat.one_mul] at this
      exact this
    have hpk : ∀ x ∈ l.map pk, x < 65536 := by
      intro x hx
      obtain ⟨y, hy, rfl⟩ := List.mem_map.1 hx
      obtain ⟨h1, h2, h3⟩ := hF.mem y hy
      unfold pk
      omega
    have hun : (l.map pk).map un = l := by
      rw [List.map_map]
      conv => rhs; rw [← List.map_id l]
      refine List.map_congr_left fun y hy => ?_
      obtain ⟨h1, h2, h3⟩ := hF.mem y hy
      exact un_pk (by omega)
    (conv => whnf); repeat ((first | refine RngK.mk (by omega) (by omega) ?_ | refine NzK.mk (by omega) ?_ | refine NnK.mk (by omega) ?_ | refine BdK.mk (by omega) (by omega) (by omega) ?_ | refine InsK.lit (by omega) (by omega) ?_ | refine SpK.lit ?_ | refine GrdK.same ?_ | refine GrdK.tf ?_ | refine GrdK.ft ?_ | refine PickK.t ?_ | refine PickK.f ?_); (conv => whnf))
    refine ValK.neNil rfl ?_
    (conv => whnf); repeat ((first | refine RngK.mk (by omega) (by omega) ?_ | refine NzK.mk (by omega) ?_ | refine NnK.mk (by omega) ?_ | refine BdK.mk (by omega) (by omega) (by omega) ?_ | refine InsK.lit (by omega) (by omega) ?_ | refine SpK.lit ?_ | refine GrdK.same ?_ | refine GrdK.tf ?_ | refine GrdK.ft ?_ | refine PickK.t ?_ | refine PickK.f ?_); (conv => whnf))
    refine Wp.own 0 rfl fun hA => ?_
    refine Wp.cond rfl (fun h => by cases h) (fun _ => ?_)
    (conv => whnf); repeat ((first | refine RngK.mk (by omega) (by omega) ?_ | refine NzK.mk (by omega) ?_ | refine NnK.mk (by omega) ?_ | refine BdK.mk (by omega) (by omega) (by omega) ?_ | refine InsK.lit (by omega) (by omega) ?_ | refine SpK.lit ?_ | refine GrdK.same ?_ | refine GrdK.tf ?_ | refine GrdK.ft ?_ | refine PickK.t ?_ | refine PickK.f ?_); (conv => whnf))
    rw [e1]
    (conv => whnf); repeat ((first | refine RngK.mk (by omega) (by omega) ?_ | refine NzK.mk (by omega) ?_ | refine NnK.mk (by omega) ?_ | refine BdK.mk (by omega) (by omega) (by omega) ?_ | refine InsK.lit (by omega) (by omega) ?_ | refine SpK.lit ?_ | refine GrdK.same ?_ | refine GrdK.tf ?_ | refine GrdK.ft ?_ | refine PickK.t ?_ | refine PickK.f ?_); (conv => whnf))
    refine SpK.own hA ?_
    (conv => whnf); repeat ((first | refine RngK.mk (by omega) (by omega) ?_ | refine NzK.mk (by omega) ?_ | refine NnK.mk (by omega) ?_ | refine BdK.mk (by omega) (by omega) (by omega) ?_ | refine InsK.lit (by omega) (by omega) ?_ | refine SpK.lit ?_ | refine GrdK.same ?_ | refine GrdK.tf ?_ | refine GrdK.ft ?_ | refine PickK.t ?_ | refine PickK.f ?_); (conv => whnf))
    refine CallK.cast [.slice A1 (2 ^ b) 2048] ?_ ?_
    · show [Value.slice (cutA A1 0 2048 1) (2 ^ b - 0) (2048 - 0)] = _
      rw [hA.cut0]
      rfl
    have htl : (ys.map vU16).take (2 ^ b * 1) = (l.map pk).map vU16 := by rw [Nat.mul_one, ← List.map_take, hy2]
    refine CallK.of [] (codesOf_spec A1 (2 ^ b) 2048 (l.map pk) (by omega) (by rw [List.length_map, hll]) hpk) rfl (fun w hw => ?_) ?_
    · have h := (Rd.ofOwn hw 0 rfl).take (show 2 ^ b ≤ 2048 by omega)
      rw [htl] at h
      exact h
    rintro _ _ ⟨A2, c2, rfl, rfl⟩
    rw [hun, List.length_map]
    (conv => whnf); repeat ((first | refine RngK.mk (by omega) (by omega) ?_ | refine NzK.mk (by omega) ?_ | refine NnK.mk (by omega) ?_ | refine BdK.mk (by omega) (by omega) (by omega) ?_ | refine InsK.lit (by omega) (by omega) ?_ | refine SpK.lit ?_ | refine GrdK.same ?_ | refine GrdK.tf ?_ | refine GrdK.ft ?_ | refine PickK.t ?_ | refine PickK.f ?_); (conv => whnf))
    exact ⟨_, HSub.of [0] rfl, A2, c2, rfl, rfl⟩
set_option maxHeartbeats 1000000 in
theorem readHuffE_spec (r : Nat) (A : Option Addr) (n c : Nat) (bs : List UInt8) (e u : Addr) (off : Nat) (T : Option Addr) (m mc : Nat) (hn : n ≤ 16777216) (ho : bs.length ≤ off) (ho2 : off ≤ 16777216) :
    FnS Tryd.prog 53 [.pointer (some ⟨r, 0, none⟩), .slice A n c, vN off, .slice T m mc] [] (fun w => BrPre w (blocks []) r A n c bs e u) (fun v H => ∃ T' x, v = .tuple #[vI 0, vI 0, .iface T' x] ∧ H = []) := by
  refine FnS.introD Tryd.func53 rfl (by kernel_rfl) rfl fun w hH hp => ?_
  obtain rfl : bs.length = n := hp.by_.len
  (conv => whnf); repeat ((first | refine RngK.mk (by omega) (by omega) ?_ | refine NzK.mk (by omega) ?_ | refine NnK.mk (by omega) ?_ | refine BdK.mk (by omega) (by omega) (by omega) ?_ | refine InsK.lit (by omega) (by omega) ?_ | refine SpK.lit ?_ | refine GrdK.same ?_ | refine GrdK.tf ?_ | refine GrdK.ft ?_ | refine PickK.t ?_ | refine PickK.f ?_); (conv => whnf))
  refine Wp.cond rfl (fun _ => ?_) (fun h => ?_)
  rotate_left
  · have h := dF h
    omega
  (conv => whnf); repeat ((first | refine RngK.mk (by omega) (by omega) ?_ | refine NzK.mk (by omega) ?_ | refine NnK.mk (by omega) ?_ | refine BdK.mk (by omega) (by omega) (by omega) ?_ | refine InsK.lit (by omega) (by omega) ?_ | refine SpK.lit ?_ | refine GrdK.same ?_ | refine GrdK.tf ?_ | refine GrdK.ft ?_ | refine PickK.t ?_ | refine PickK.f ?_); (conv => whnf))
  refine CallK.of [] (eof_spec r off e u (by omega) (by omega)) rfl (fun w hw => ⟨hp.la.pass hw, hp.rr.pass hw⟩) ?_
  rintro _ _ ⟨⟨T', x, rfl⟩, rfl⟩
  (conv => whnf); repeat ((first | refine RngK.mk (by omega) (by omega) ?_ | refine NzK.mk (by omega) ?_ | refine NnK.mk (by omega) ?_ | refine BdK.mk (by omega) (by omega) (by omega) ?_ | refine InsK.lit (by omega) (by omega) ?_ | refine SpK.lit ?_ | refine GrdK.same ?_ | refine GrdK.tf ?_ | refine GrdK.ft ?_ | refine PickK.t ?_ | refine PickK.f ?_); (conv => whnf))
  exact ⟨[], HSub.nil _, T', x, rfl, rfl⟩
set_option maxHeartbeats 1000000 in
theorem zzhuffE_spec (A : Option Addr) (n c : Nat) (bs : List UInt8) (e u : Addr) (off : Nat) (hn : n ≤ 16777216) (ho : bs.length ≤ off) (ho2 : off ≤ 16777216) :
    FnS Tryd.prog 36 [.slice A n c, vN off] [] (fun w => Bytes w (blocks []) A n c bs ∧ Laid w (blocks []) e u) (fun v H => ∃ T' x, v = .tuple #[.slice none 0 0, vI 0, vI 0, .iface T' x] ∧ H = []) := by
  refine FnS.introD Tryd.func36 rfl (by kernel_rfl) rfl fun w hH ⟨hp, hL⟩ => ?_
  (conv => whnf); repeat ((first | refine RngK.mk (by omega) (by omega) ?_ | refine NzK.mk (by omega) ?_ | refine NnK.mk (by omega) ?_ | refine BdK.mk (by omega) (by omega) (by omega) ?_ | refine InsK.lit (by omega) (by omega) ?_ | refine SpK.lit ?_ | refine GrdK.same ?_ | refine GrdK.tf ?_ | refine GrdK.ft ?_ | refine PickK.t ?_ | refine PickK.f ?_); (conv => whnf))
  refine EffK.made1 2048 rfl rfl rfl rfl rfl rfl (by show 2 * _ ≤ _; omega) (by simp [maxLen]) fun b12 => ?_
  (conv => whnf); repeat ((first | refine RngK.mk (by omega) (by omega) ?_ | refine NzK.mk (by omega) ?_ | refine NnK.mk (by omega) ?_ | refine BdK.mk (by omega) (by omega) (by omega) ?_ | refine InsK.lit (by omega) (by omega) ?_ | refine SpK.lit ?_ | refine GrdK.same ?_ | refine GrdK.tf ?_ | refine GrdK.ft ?_ | refine PickK.t ?_ | refine PickK.f ?_); (conv => whnf))
  refine ⟨_, _, rfl, rfl, ?_⟩
  intro b17
  (conv => whnf); repeat ((first | refine RngK.mk (by omega) (by omega) ?_ | refine NzK.mk (by omega) ?_ | refine NnK.mk (by omega) ?_ | refine BdK.mk (by omega) (by omega) (by omega) ?_ | refine InsK.lit (by omega) (by omega) ?_ | refine SpK.lit ?_ | refine GrdK.same ?_ | refine GrdK.tf ?_ | refine GrdK.ft ?_ | refine PickK.t ?_ | refine PickK.f ?_); (conv => whnf))
  refine CallK.of [] (readHuffE_spec b17 A n c bs e u off (some ⟨b12, 0, none⟩) 2048 2048 hn ho ho2) rfl (fun w hw => ⟨hp.pass hw, hL.pass hw, ?_⟩) ?_
  · exact Rd.ofBlk (o := 6) (m := 1) (sz := 1) hw 0 rfl (by decide)
  rintro _ _ ⟨T', x, rfl, rfl⟩
  (conv => whnf); repeat ((first | refine RngK.mk (by omega) (by omega) ?_ | refine NzK.mk (by omega) ?_ | refine NnK.mk (by omega) ?_ | refine BdK.mk (by omega) (by omega) (by omega) ?_ | refine InsK.lit (by omega) (by omega) ?_ | refine SpK.lit ?_ | refine GrdK.same ?_ | refine GrdK.tf ?_ | refine GrdK.ft ?_ | refine PickK.t ?_ | refine PickK.f ?_); (conv => whnf))
  refine ValK.neIface rfl ?_
  (conv => whnf); repeat ((first | refine RngK.mk (by omega) (by omega) ?_ | refine NzK.mk (by omega) ?_ | refine NnK.mk (by omega) ?_ | refine BdK.mk (by omega) (by omega) (by omega) ?_ | refine InsK.lit (by omega) (by omega) ?_ | refine SpK.lit ?_ | refine GrdK.same ?_ | refine GrdK.tf ?_ | refine GrdK.ft ?_ | refine PickK.t ?_ | refine PickK.f ?_); (conv => whnf))
  refine Wp.cond rfl (fun _ => ?_) (fun h => by cases h)
  (conv => whnf); repeat ((first | refine RngK.mk (by omega) (by omega) ?_ | refine NzK.mk (by omega) ?_ | refine NnK.mk (by omega) ?_ | refine BdK.mk (by omega) (by omega) (by omega) ?_ | refine InsK.lit (by omega) (by omega) ?_ | refine SpK.lit ?_ | refine GrdK.same ?_ | refine GrdK.tf ?_ | refine GrdK.ft ?_ | refine PickK.t ?_ | refine PickK.f ?_); (conv => whnf))
  exact ⟨_, HSub.nil _, T', x, rfl, rfl⟩
set_option maxHeartbeats 1000000 in
theorem rcodesE_spec (A : Option Addr) (n c : Nat) (bs : List UInt8) (e u : Addr) (off : Nat) (hn : n ≤ 16777216) (ho : bs.length ≤ off) (ho2 : off ≤ 16777216) :
    FnS Tryd.prog 15 [.slice A n c, vN off] [] (fun w => Bytes w (blocks []) A n c bs ∧ Laid w (blocks []) e u) (CodesOut 0 none) := by
  refine FnS.introD Tryd.func15 rfl (by kernel_rfl) rfl fun w hH ⟨hp, hL⟩ => ?_
  (conv => whnf); repeat ((first | refine RngK.mk (by omega) (by omega) ?_ | refine NzK.mk (by omega) ?_ | refine NnK.mk (by omega) ?_ | refine BdK.mk (by omega) (by omega) (by omega) ?_ | refine InsK.lit (by omega) (by omega) ?_ | refine SpK.lit ?_ | refine GrdK.same ?_ | refine GrdK.tf ?_ | refine GrdK.ft ?_ | refine PickK.t ?_ | refine PickK.f ?_); (conv => whnf))
  refine CallK.of [] (zzhuffE_spec A n c bs e u off hn ho ho2) rfl (fun w hw => ⟨hp.pass hw, hL.pass hw⟩) ?_
  rintro _ _ ⟨T', x, rfl, rfl⟩
  (conv => whnf); repeat ((first | refine RngK.mk (by omega) (by omega) ?_ | refine NzK.mk (by omega) ?_ | refine NnK.mk (by omega) ?_ | refine BdK.mk (by omega) (by omega) (by omega) ?_ | refine InsK.lit (by omega) (by omega) ?_ | refine SpK.lit ?_ | refine GrdK.same ?_ | refine GrdK.tf ?_ | refine GrdK.ft ?_ | refine PickK.t ?_ | refine PickK.f ?_); (conv => whnf))
  refine ValK.neIface rfl ?_
  (conv => whnf); repeat ((first | refine RngK.mk (by omega) (by omega) ?_ | refine NzK.mk (by omega) ?_ | refine NnK.mk (by omega) ?_ | refine BdK.mk (by omega) (by omega) (by omega) ?_ | refine InsK.lit (by omega) (by omega) ?_ | refine SpK.lit ?_ | refine GrdK.same ?_ | refine GrdK.tf ?_ | refine GrdK.ft ?_ | refine PickK.t ?_ | refine PickK.f ?_); (conv => whnf))
  refine Wp.cond rfl (fun _ => ?_) (fun h => by cases h)
  (conv => whnf); repeat ((first | refine RngK.mk (by omega) (by omega) ?_ | refine NzK.mk (by omega) ?_ | refine NnK.mk (by omega) ?_ | refine BdK.mk (by omega) (by omega) (by omega) ?_ | refine InsK.lit (by omega) (by omega) ?_ | refine SpK.lit ?_ | refine GrdK.same ?_ | refine GrdK.tf ?_ | refine GrdK.ft ?_ | refine PickK.t ?_ | refine PickK.f ?_); (conv => whnf))
  refine EffK.lit0 rfl rfl fun b => ?_
  (conv => whnf); repeat ((first | refine RngK.mk (by omega) (by omega) ?_ | refine NzK.mk (by omega) ?_ | refine NnK.mk (by omega) ?_ | refine BdK.mk (by omega) (by omega) (by omega) ?_ | refine InsK.lit (by omega) (by omega) ?_ | refine SpK.lit ?_ | refine GrdK.same ?_ | refine GrdK.tf ?_ | refine GrdK.ft ?_ | refine PickK.t ?_ | refine PickK.f ?_); (conv => whnf))
  exact ⟨_, HSub.refl _, _, _, rfl, rfl⟩
/-- what is read at a place -/
def hu (bs : List UInt8) (off : Nat) : Option (List Cd × Nat) :=
  if bs.length ≤ off then none else if (bs.getD off 0).toNat < 128 then (pkW bs off (bs.getD off 0).toNat).bind hufS else huD bs off (bs.getD off 0).toNat
def hup (bs : List UInt8) (off : Nat) : Nat :=
  if bs.length ≤ off then 0 else if (bs.getD off 0).toNat < 128 then off + 1 + (bs.getD off 0).toNat else off + 1 + ((bs.getD off 0).toNat - 126) / 2
theorem rcodes_spec (A : Option Addr) (n c : Nat) (bs : List UInt8) (e u : Addr) (off : Nat) (hn : n ≤ 1000000) (ho : off ≤ n) :
    FnS Tryd.prog 15 [.slice A n c, vN off] [] (fun w => Bytes w (blocks []) A n c bs ∧ Laid w (blocks []) e u) (CodesOut (hup bs off) (hu bs off)) := by
  intro w hH hw
  obtain rfl : bs.length = n := hw.1.len
  unfold hu hup
  by_cases h1 : bs.length ≤ off
  · rw [if_pos h1, if_pos h1]
    exact rcodesE_spec A bs.length c bs e u off (by omega) h1 (by omega) w hH hw
  · have hlt : off < bs.length := by omega
    have hgd : bs.getD off 0 = bs[off] := by simp [hlt]
    rw [if_neg h1, if_neg h1, hgd]
    by_cases h2 : bs[off].toNat < 128
    · rw [if_pos h2, if_pos h2]
      exact rcodesP_spec A bs.length c bs e u off (by omega) hlt h2 w hH hw
    · rw [if_neg h2, if_neg h2]
      exact rcodesD_spec A bs.length c bs e u off (by omega) hlt (by omega) w hH hw
end Go.Proofs.YtgdhdkjbilifiaaDoor
