/- Weights that are written; a small table that is read. -/
import Derived.Test.YtgdhdkjbilifiaaDoorCdB
import Derived.Test.YtgdhdkjbilifiaaDoorLaid
namespace Go.Proofs.YtgdhdkjbilifiaaDoor
open Go Go.Sx
set_option maxRecDepth 100000
/-- two weights a byte -/
def wwT : List Nat → List Nat
  | [] => []
  | [x] => [16 * x]
  | x :: y :: l => (16 * x + y) :: wwT l
theorem wwT_len : ∀ l : List Nat, (wwT l).length = (l.length + 1) / 2
  | [] => rfl
  | [x] => by simp [wwT]
  | x :: y :: l => by simp only [wwT, List.length_cons, wwT_len l]; omega
theorem wwT_lt : ∀ l : List Nat, (∀ w ∈ l, w < 16) → ∀ x ∈ wwT l, x < 256
  | [], _, x, h => by simp [wwT] at h
  | [y], h, x, hx => by
    simp only [wwT, List.mem_singleton] at hx
    have := h y (by simp)
    omega
  | y :: z :: l, h, x, hx => by
    simp only [wwT, List.mem_cons] at hx
    rcases hx with rfl | hx
    · have := h y (by simp)
      have := h z (by simp)
      omega
    · exact wwT_lt l (fun w hw => h w (by simp [hw])) x hx
theorem wwT_even : ∀ (l : List Nat) (x : Nat), l.length % 2 = 0 → wwT (l ++ [x]) = wwT l ++ [16 * x]
  | [], x, _ => rfl
  | [y], x, h => by simp at h
  | y :: z :: l, x, h => by
    have := wwT_even l x (by simp only [List.length_cons] at h; omega)
    simp only [List.cons_append, wwT, this]
theorem wwT_odd : ∀ (l : List Nat) (x : Nat), l.length % 2 = 1 → ∃ d y, y ∈ l ∧ wwT l = d ++ [16 * y] ∧ wwT (l ++ [x]) = d ++ [16 * y + x]
  | [], x, h => by simp at h
  | [y], x, _ => ⟨[], y, by simp, rfl, rfl⟩
  | y :: z :: l, x, h => by
    obtain ⟨d, v, h0, h1, h2⟩ := wwT_odd l x (by simp only [List.length_cons] at h; omega)
    exact ⟨(16 * y + z) :: d, v, by simp [h0], by simp only [wwT, h1, List.cons_append], by simp only [List.cons_append, wwT, h2]⟩
theorem nibs_cons2 (bs : List UInt8) (a m : Nat) : nibs bs a (m + 2) = (bs.getD a 0).toNat / 16 :: (bs.getD a 0).toNat % 16 :: nibs bs (a + 1) m := by
  unfold nibs
  rw [List.range_succ_eq_map, List.range_succ_eq_map]
  simp only [List.map_cons, List.map_map, Nat.zero_mod, if_true, Nat.zero_div, Nat.add_zero]
  congr 2
  refine List.map_congr_left fun k _ => ?_
  simp only [Function.comp]
  have h1 : (k + 1 + 1) % 2 = k % 2 := by omega
  have h2 : a + (k + 1 + 1) / 2 = a + 1 + k / 2 := by omega
  simp only [Nat.succ_eq_add_one, h1, h2]
def bytes (l : List Nat) : List UInt8 := l.map UInt8.ofNat
theorem bytes_v {l : List Nat} (h : ∀ x ∈ l, x < 256) : (bytes l).map vU8 = l.map vW8 := by
  unfold bytes
  rw [List.map_map]
  refine List.map_congr_left fun x hx => ?_
  have : (UInt8.ofNat x).toNat = x := UInt8.toNat_ofNat_of_lt' (h x hx)
  show Value.int .u8 _ = Value.int .u8 _
  rw [this]
theorem nibs_ww : ∀ (ws : List Nat) (a c : List UInt8), (∀ w ∈ ws, w < 16) → nibs (a ++ bytes (wwT ws) ++ c) a.length ws.length = ws
  | [], a, c, _ => by simp [nibs]
  | [x], a, c, h => by
    have hx := h x (by simp)
    have h1 : (UInt8.ofNat (16 * x)).toNat = 16 * x := UInt8.toNat_ofNat_of_lt' (by simp [UInt8.size]; omega)
    have h2 : (a ++ bytes (wwT [x]) ++ c).getD a.length 0 = UInt8.ofNat (16 * x) := by simp [wwT, bytes]
    have : nibs (a ++ bytes (wwT [x]) ++ c) a.length 1 = [((a ++ bytes (wwT [x]) ++ c).getD a.length 0).toNat / 16] := by simp [nibs]
    rw [List.length_singleton, this, h2, h1]
    congr 1
    omega
  | x :: y :: l, a, c, h => by
    have hx := h x (by simp)
    have hy := h y (by simp)
    have h1 : (UInt8.ofNat (16 * x + y)).toNat = 16 * x + y := UInt8.toNat_ofNat_of_lt' (by simp [UInt8.size]; omega)
    have h2 : (a ++ bytes (wwT (x :: y :: l)) ++ c).getD a.length 0 = UInt8.ofNat (16 * x + y) := by simp [wwT, bytes]
    have ih := nibs_ww l (a ++ [UInt8.ofNat (16 * x + y)]) c fun w hw => h w (by simp [hw])
    have h3 : a ++ bytes (wwT (x :: y :: l)) ++ c = a ++ [UInt8.ofNat (16 * x + y)] ++ bytes (wwT l) ++ c := by simp [wwT, bytes]
    rw [List.length_cons, List.length_cons, nibs_cons2, h2, h1, h3]
    rw [List.length_append, List.length_singleton] at ih
    rw [ih]
    congr 1
    · omega
    · congr 1; omega
/-- the bytes of written weights -/
def wwB (ws : List Nat) : List UInt8 := bytes ((127 + ws.length) :: wwT ws)
theorem wwB_len (ws : List Nat) : (wwB ws).length = 1 + (ws.length + 1) / 2 := by
  unfold wwB bytes
  rw [List.length_map, List.length_cons, wwT_len]; omega
theorem wwB_head {ws : List Nat} (h : ws.length ≤ 128) (a c : List UInt8) : ∃ hl : a.length < (a ++ wwB ws ++ c).length, ((a ++ wwB ws ++ c)[a.length]'hl).toNat = 127 + ws.length := by
  have h0 : (wwB ws).length = 1 + (ws.length + 1) / 2 := wwB_len ws
  refine ⟨by simp only [List.length_append]; omega, ?_⟩
  have : (a ++ wwB ws ++ c)[a.length]'(by simp only [List.length_append]; omega) = UInt8.ofNat (127 + ws.length) := by simp [wwB, bytes]
  rw [this]
  exact UInt8.toNat_ofNat_of_lt' (by simp [UInt8.size]; omega)
/-- written weights are read -/
theorem huD_ww {ws : List Nat} (h : ∀ w ∈ ws, w < 16) (h0 : 1 ≤ ws.length) (a c : List UInt8) (hc : 1 ≤ c.length) : huD (a ++ wwB ws ++ c) a.length (127 + ws.length) = hufS ws := by
  unfold huD
  have hl := wwB_len ws
  rw [if_pos (by simp only [List.length_append]; omega), Nat.add_sub_cancel_left]
  have e : a ++ wwB ws ++ c = (a ++ [UInt8.ofNat (127 + ws.length)]) ++ bytes (wwT ws) ++ c := by simp [wwB, bytes]
  have := nibs_ww ws (a ++ [UInt8.ofNat (127 + ws.length)]) c h
  rw [List.length_append, List.length_singleton] at this
  rw [e, this]
set_option maxHeartbeats 1000000 in
theorem writeWeights_spec (A : Option Addr) (n c : Nat) (ws : List Nat) (hl : ws.length = n) (hn : n ≤ 128) (hw16 : ∀ w ∈ ws, w < 16) :
    FnS Tryd.prog 19 [.slice A n c] [] (fun w => Rd w (blocks []) A n 1 (ws.map vN)) (OwnU8 5 (wwB ws)) := by
  refine FnS.introD Tryd.func19 rfl (by kernel_rfl) rfl fun w hH hp => ?_
  subst hl
  have e1 : IntKind.u8.wrap (127 + (ws.length : Int)) = ((127 + ws.length : Nat) : Int) := wrap_u_lt (k := .u8) rfl (n := 127 + ws.length) (by show _ < 256; omega)
  (conv => whnf); repeat ((first | refine RngK.mk (by omega) (by omega) ?_ | refine NzK.mk (by omega) ?_ | refine NnK.mk (by omega) ?_ | refine BdK.mk (by omega) (by omega) (by omega) ?_ | refine InsK.lit (by omega) (by omega) ?_ | refine SpK.lit ?_ | refine GrdK.same ?_ | refine GrdK.tf ?_ | refine GrdK.ft ?_ | refine PickK.t ?_ | refine PickK.f ?_); (conv => whnf))
  rw [e1]
  refine EffK.litV rfl rfl rfl rfl rfl rfl rfl rfl rfl ?_
  (conv => whnf); repeat ((first | refine RngK.mk (by omega) (by omega) ?_ | refine NzK.mk (by omega) ?_ | refine NnK.mk (by omega) ?_ | refine BdK.mk (by omega) (by omega) (by omega) ?_ | refine InsK.lit (by omega) (by omega) ?_ | refine SpK.lit ?_ | refine GrdK.same ?_ | refine GrdK.tf ?_ | refine GrdK.ft ?_ | refine PickK.t ?_ | refine PickK.f ?_); (conv => whnf))
  intro b1
  (conv => whnf); repeat ((first | refine RngK.mk (by omega) (by omega) ?_ | refine NzK.mk (by omega) ?_ | refine NnK.mk (by omega) ?_ | refine BdK.mk (by omega) (by omega) (by omega) ?_ | refine InsK.lit (by omega) (by omega) ?_ | refine SpK.lit ?_ | refine GrdK.same ?_ | refine GrdK.tf ?_ | refine GrdK.ft ?_ | refine PickK.t ?_ | refine PickK.f ?_); (conv => whnf))
  refine Wp.loop (fun t : Nat × Option Addr × Nat => [(3, .slice t.2.1 (1 + (wwT (ws.take t.1)).length) t.2.2), (11, .slice A ws.length c), (12, vN ws.length), (13, vN t.1)])
    (fun t => [.own t.2.1 (1 + (wwT (ws.take t.1)).length) t.2.2 5 1 (((127 + ws.length) :: wwT (ws.take t.1)).map vW8)]) (fun t => t.1 ≤ ws.length) (fun t => ws.length - t.1) (0, some ⟨b1, 0, none⟩, 1)
    ⟨rfl, rfl, rfl, rfl, trivial⟩ (HSub.refl _) (Nat.zero_le _) fun ⟨k, A1, c1⟩ hk => ?_
  dsimp only at hk ⊢
  (conv => whnf); repeat ((first | refine RngK.mk (by omega) (by omega) ?_ | refine NzK.mk (by omega) ?_ | refine NnK.mk (by omega) ?_ | refine BdK.mk (by omega) (by omega) (by omega) ?_ | refine InsK.lit (by omega) (by omega) ?_ | refine SpK.lit ?_ | refine GrdK.same ?_ | refine GrdK.tf ?_ | refine GrdK.ft ?_ | refine PickK.t ?_ | refine PickK.f ?_); (conv => whnf))
  refine Wp.cond rfl (fun h => ?_) (fun h => ?_)
  rotate_left
  · have h := dF h
    have hkl : k = ws.length := by omega
    subst hkl
    (conv => whnf); repeat ((first | refine RngK.mk (by omega) (by omega) ?_ | refine NzK.mk (by omega) ?_ | refine NnK.mk (by omega) ?_ | refine BdK.mk (by omega) (by omega) (by omega) ?_ | refine InsK.lit (by omega) (by omega) ?_ | refine SpK.lit ?_ | refine GrdK.same ?_ | refine GrdK.tf ?_ | refine GrdK.ft ?_ | refine PickK.t ?_ | refine PickK.f ?_); (conv => whnf))
    have hbl : (wwB ws).length = 1 + (wwT ws).length := by rw [wwB_len, wwT_len]
    have hbv : (wwB ws).map vU8 = ((127 + ws.length) :: wwT ws).map vW8 := bytes_v fun x hx => by
      rcases List.mem_cons.1 hx with rfl | hx
      · omega
      · exact wwT_lt ws hw16 x hx
    refine ⟨_, HSub.refl _, A1, c1, ?_, ?_⟩
    · rw [List.take_length, hbl]
    · rw [List.take_length, hbl, hbv]
  have h := dT h
  have hk' : k < ws.length := by omega
  have htk := take_snoc hk'
  have htl : (ws.take k).length = k := by simp; omega
  have hwl := wwT_len (ws.take k)
  rw [htl] at hwl
  have hx16 := hw16 _ (List.getElem_mem hk')
  have hcell : (ws.map vN)[k]? = some (vN ws[k]) := by simp [hk']
  obtain ⟨x, hxx⟩ : ∃ x, ws[k] = x := ⟨_, rfl⟩
  rw [hxx] at hcell htk hx16
  (conv => whnf); repeat ((first | refine RngK.mk (by omega) (by omega) ?_ | refine NzK.mk (by omega) ?_ | refine NnK.mk (by omega) ?_ | refine BdK.mk (by omega) (by omega) (by omega) ?_ | refine InsK.lit (by omega) (by omega) ?_ | refine SpK.lit ?_ | refine GrdK.same ?_ | refine GrdK.tf ?_ | refine GrdK.ft ?_ | refine PickK.t ?_ | refine PickK.f ?_); (conv => whnf))
  refine InsK.rd hp (by omega) (by omega) ?_
  (conv => whnf); repeat ((first | refine RngK.mk (by omega) (by omega) ?_ | refine NzK.mk (by omega) ?_ | refine NnK.mk (by omega) ?_ | refine BdK.mk (by omega) (by omega) (by omega) ?_ | refine InsK.lit (by omega) (by omega) ?_ | refine SpK.lit ?_ | refine GrdK.same ?_ | refine GrdK.tf ?_ | refine GrdK.ft ?_ | refine PickK.t ?_ | refine PickK.f ?_); (conv => whnf))
  refine LdK.rd (v := vN x) hp k rfl rfl rfl hcell ?_
  (conv => whnf); repeat ((first | refine RngK.mk (by omega) (by omega) ?_ | refine NzK.mk (by omega) ?_ | refine NnK.mk (by omega) ?_ | refine BdK.mk (by omega) (by omega) (by omega) ?_ | refine InsK.lit (by omega) (by omega) ?_ | refine SpK.lit ?_ | refine GrdK.same ?_ | refine GrdK.tf ?_ | refine GrdK.ft ?_ | refine PickK.t ?_ | refine PickK.f ?_); (conv => whnf))
  have em : ((k : Nat) : Int).tmod 2 = ((k % 2 : Nat) : Int) := rfl
  rw [em]
  refine Wp.own 0 rfl fun hA => ?_
  refine Wp.cond rfl (fun g => ?_) (fun g => ?_)
  · have g : ((k % 2 : Nat) : Int) = 0 := eqT g
    have hev := wwT_even (ws.take k) x (by rw [htl]; omega)
    rw [← htk] at hev
    have e4 : ishl .i64 (x : Int) 4 = ((x * 16 : Nat) : Int) := ishl_i64 (x := x) (n := 4) (by omega) (by omega)
    have e5 : IntKind.u8.wrap ((x * 16 : Nat) : Int) = ((x * 16 : Nat) : Int) := wrap_u_lt rfl (by show _ < 256; omega)
    (conv => whnf); repeat ((first | refine RngK.mk (by omega) (by omega) ?_ | refine NzK.mk (by omega) ?_ | refine NnK.mk (by omega) ?_ | refine BdK.mk (by omega) (by omega) (by omega) ?_ | refine InsK.lit (by omega) (by omega) ?_ | refine SpK.lit ?_ | refine GrdK.same ?_ | refine GrdK.tf ?_ | refine GrdK.ft ?_ | refine PickK.t ?_ | refine PickK.f ?_); (conv => whnf))
    rw [e4, e5]
    refine EffK.litV rfl rfl rfl rfl rfl rfl rfl rfl rfl ?_
    (conv => whnf); repeat ((first | refine RngK.mk (by omega) (by omega) ?_ | refine NzK.mk (by omega) ?_ | refine NnK.mk (by omega) ?_ | refine BdK.mk (by omega) (by omega) (by omega) ?_ | refine InsK.lit (by omega) (by omega) ?_ | refine SpK.lit ?_ | refine GrdK.same ?_ | refine GrdK.tf ?_ | refine GrdK.ft ?_ | refine PickK.t ?_ | refine PickK.f ?_); (conv => whnf))
    intro b2
    (conv => whnf); repeat ((first | refine RngK.mk (by omega) (by omega) ?_ | refine NzK.mk (by omega) ?_ | refine NnK.mk (by omega) ?_ | refine BdK.mk (by omega) (by omega) (by omega) ?_ | refine InsK.lit (by omega) (by omega) ?_ | refine SpK.lit ?_ | refine GrdK.same ?_ | refine GrdK.tf ?_ | refine GrdK.ft ?_ | refine PickK.t ?_ | refine PickK.f ?_); (conv => whnf))
    refine EffK.append 1 (news := [vW8 (x * 16)]) rfl rfl rfl rfl rfl rfl rfl rfl (Src.ownW (k := 0) rfl rfl) (by intro u hu; rcases List.mem_singleton.1 hu with rfl; rfl) (by simp [maxLen]; omega) (by show (_ + _) * 1 ≤ _; omega) fun A5 c5 => ?_
    (conv => whnf); repeat ((first | refine RngK.mk (by omega) (by omega) ?_ | refine NzK.mk (by omega) ?_ | refine NnK.mk (by omega) ?_ | refine BdK.mk (by omega) (by omega) (by omega) ?_ | refine InsK.lit (by omega) (by omega) ?_ | refine SpK.lit ?_ | refine GrdK.same ?_ | refine GrdK.tf ?_ | refine GrdK.ft ?_ | refine PickK.t ?_ | refine PickK.f ?_); (conv => whnf))
    have hev2 := congrArg List.length hev
    rw [List.length_append, List.length_singleton] at hev2
    refine ⟨(k + 1, A5, c5), ⟨?_, rfl, rfl, rfl, trivial⟩, ?_, by simp only; omega, by simp only; omega⟩
    · show some (Value.slice A5 _ c5) = some (Value.slice A5 _ c5)
      rw [hev2]
      rfl
    · dsimp only
      rw [hev2, hev, ← List.cons_append, List.map_append, Nat.mul_comm 16 x]
      exact HSub.of [1] rfl
  · have g : ((k % 2 : Nat) : Int) ≠ 0 := eqF g
    obtain ⟨d, y, hy0, hy1, hy2⟩ := wwT_odd (ws.take k) x (by rw [htl]; omega)
    rw [← htk] at hy2
    have hy16 := hw16 y (List.mem_of_mem_take hy0)
    (conv => whnf); repeat ((first | refine RngK.mk (by omega) (by omega) ?_ | refine NzK.mk (by omega) ?_ | refine NnK.mk (by omega) ?_ | refine BdK.mk (by omega) (by omega) (by omega) ?_ | refine InsK.lit (by omega) (by omega) ?_ | refine SpK.lit ?_ | refine GrdK.same ?_ | refine GrdK.tf ?_ | refine GrdK.ft ?_ | refine PickK.t ?_ | refine PickK.f ?_); (conv => whnf))
    have hd1 := congrArg List.length hy1
    have hd2 := congrArg List.length hy2
    rw [List.length_append, List.length_singleton] at hd1 hd2
    have e6 : IntKind.u8.wrap (x : Int) = (x : Int) := wrap_u_lt rfl (by show _ < 256; omega)
    have e7 : ior .u8 ((16 * y : Nat) : Int) (x : Int) = ((16 * y + x : Nat) : Int) := by
      rw [ior_u rfl (by show _ < 256; omega) (by show _ < 256; omega), Nat.or_comm]
      have := or_add (x := x) (y := y) (i := 4) (by omega)
      rw [show 16 * y = y * 2 ^ 4 by omega, this]
      omega
    have hcl : (((127 + ws.length) :: wwT (ws.take k)).map vW8)[d.length + 1]? = some (vW8 (16 * y)) := by
      rw [hy1]
      simp
    have hset : (((127 + ws.length) :: wwT (ws.take k)).map vW8).set (d.length + 1) (vW8 (16 * y + x)) = ((127 + ws.length) :: wwT (ws.take (k + 1))).map vW8 := by
      rw [hy1, hy2]
      simp
    have eix : ((1 + (wwT (ws.take k)).length : Nat) : Int) - 1 = ((d.length + 1 : Nat) : Int) := by omega
    rw [eix]
    refine InsK.own hA (by omega) (by omega) ?_
    (conv => whnf); repeat ((first | refine RngK.mk (by omega) (by omega) ?_ | refine NzK.mk (by omega) ?_ | refine NnK.mk (by omega) ?_ | refine BdK.mk (by omega) (by omega) (by omega) ?_ | refine InsK.lit (by omega) (by omega) ?_ | refine SpK.lit ?_ | refine GrdK.same ?_ | refine GrdK.tf ?_ | refine GrdK.ft ?_ | refine PickK.t ?_ | refine PickK.f ?_); (conv => whnf))
    refine LdK.own 0 (d.length + 1) rfl rfl rfl rfl hcl ?_
    (conv => whnf); repeat ((first | refine RngK.mk (by omega) (by omega) ?_ | refine NzK.mk (by omega) ?_ | refine NnK.mk (by omega) ?_ | refine BdK.mk (by omega) (by omega) (by omega) ?_ | refine InsK.lit (by omega) (by omega) ?_ | refine SpK.lit ?_ | refine GrdK.same ?_ | refine GrdK.tf ?_ | refine GrdK.ft ?_ | refine PickK.t ?_ | refine PickK.f ?_); (conv => whnf))
    rw [e6, e7]
    refine InsK.own hA (by omega) (by omega) ?_
    (conv => whnf); repeat ((first | refine RngK.mk (by omega) (by omega) ?_ | refine NzK.mk (by omega) ?_ | refine NnK.mk (by omega) ?_ | refine BdK.mk (by omega) (by omega) (by omega) ?_ | refine InsK.lit (by omega) (by omega) ?_ | refine SpK.lit ?_ | refine GrdK.same ?_ | refine GrdK.tf ?_ | refine GrdK.ft ?_ | refine PickK.t ?_ | refine PickK.f ?_); (conv => whnf))
    refine StK.own 0 (d.length + 1) rfl (hA.ad (by omega)) rfl rfl rfl rfl (by rw [List.length_map, List.length_cons]; omega) ?_
    (conv => whnf); repeat ((first | refine RngK.mk (by omega) (by omega) ?_ | refine NzK.mk (by omega) ?_ | refine NnK.mk (by omega) ?_ | refine BdK.mk (by omega) (by omega) (by omega) ?_ | refine InsK.lit (by omega) (by omega) ?_ | refine SpK.lit ?_ | refine GrdK.same ?_ | refine GrdK.tf ?_ | refine GrdK.ft ?_ | refine PickK.t ?_ | refine PickK.f ?_); (conv => whnf))
    rw [hset]
    refine ⟨(k + 1, A1, c1), ⟨?_, rfl, rfl, rfl, trivial⟩, ?_, by simp only; omega, by simp only; omega⟩
    · show some (Value.slice A1 _ c1) = some (Value.slice A1 _ c1)
      rw [hd1, hd2]
    · dsimp only
      rw [hd1, hd2]
      exact HSub.refl _
theorem hufS_one : hufS [1] = some ([(0, 1), (1, 1)], 1) := by decide +kernel
set_option maxHeartbeats 1000000 in
theorem coded_spec (e u : Addr) : FnS Tryd.prog 13 [] [] (fun w => Laid w (blocks []) e u) (Is (vB true)) := by
  refine FnS.introD Tryd.func13 rfl (by kernel_rfl) rfl fun w hH hL => ?_
  (conv => whnf); repeat ((first | refine RngK.mk (by omega) (by omega) ?_ | refine NzK.mk (by omega) ?_ | refine NnK.mk (by omega) ?_ | refine BdK.mk (by omega) (by omega) (by omega) ?_ | refine InsK.lit (by omega) (by omega) ?_ | refine SpK.lit ?_ | refine GrdK.same ?_ | refine GrdK.tf ?_ | refine GrdK.ft ?_ | refine PickK.t ?_ | refine PickK.f ?_); (conv => whnf))
  refine EffK.litV rfl rfl rfl rfl rfl rfl rfl rfl rfl ?_
  (conv => whnf); repeat ((first | refine RngK.mk (by omega) (by omega) ?_ | refine NzK.mk (by omega) ?_ | refine NnK.mk (by omega) ?_ | refine BdK.mk (by omega) (by omega) (by omega) ?_ | refine InsK.lit (by omega) (by omega) ?_ | refine SpK.lit ?_ | refine GrdK.same ?_ | refine GrdK.tf ?_ | refine GrdK.ft ?_ | refine PickK.t ?_ | refine PickK.f ?_); (conv => whnf))
  intro b1
  (conv => whnf); repeat ((first | refine RngK.mk (by omega) (by omega) ?_ | refine NzK.mk (by omega) ?_ | refine NnK.mk (by omega) ?_ | refine BdK.mk (by omega) (by omega) (by omega) ?_ | refine InsK.lit (by omega) (by omega) ?_ | refine SpK.lit ?_ | refine GrdK.same ?_ | refine GrdK.tf ?_ | refine GrdK.ft ?_ | refine PickK.t ?_ | refine PickK.f ?_); (conv => whnf))
  refine CallK.of [] (writeWeights_spec (some ⟨b1, 0, none⟩) 1 1 [1] rfl (by omega) (by simp)) rfl (fun w hw => Rd.ofOwn hw 0 rfl) ?_
  rintro _ _ ⟨A1, c1, rfl, rfl⟩
  (conv => whnf); repeat ((first | refine RngK.mk (by omega) (by omega) ?_ | refine NzK.mk (by omega) ?_ | refine NnK.mk (by omega) ?_ | refine BdK.mk (by omega) (by omega) (by omega) ?_ | refine InsK.lit (by omega) (by omega) ?_ | refine SpK.lit ?_ | refine GrdK.same ?_ | refine GrdK.tf ?_ | refine GrdK.ft ?_ | refine PickK.t ?_ | refine PickK.f ?_); (conv => whnf))
  refine EffK.litV rfl rfl rfl rfl rfl rfl rfl rfl rfl ?_
  (conv => whnf); repeat ((first | refine RngK.mk (by omega) (by omega) ?_ | refine NzK.mk (by omega) ?_ | refine NnK.mk (by omega) ?_ | refine BdK.mk (by omega) (by omega) (by omega) ?_ | refine InsK.lit (by omega) (by omega) ?_ | refine SpK.lit ?_ | refine GrdK.same ?_ | refine GrdK.tf ?_ | refine GrdK.ft ?_ | refine PickK.t ?_ | refine PickK.f ?_); (conv => whnf))
  intro b2
  (conv => whnf); repeat ((first | refine RngK.mk (by omega) (by omega) ?_ | refine NzK.mk (by omega) ?_ | refine NnK.mk (by omega) ?_ | refine BdK.mk (by omega) (by omega) (by omega) ?_ | refine InsK.lit (by omega) (by omega) ?_ | refine SpK.lit ?_ | refine GrdK.same ?_ | refine GrdK.tf ?_ | refine GrdK.ft ?_ | refine PickK.t ?_ | refine PickK.f ?_); (conv => whnf))
  have hw2 : (wwB [1]).length = 2 := by decide +kernel
  have hwm : (wwB [1]).map vU8 = [vU8 128, vU8 16] := by
    have : wwB [1] = [128, 16] := by decide +kernel
    rw [this]; rfl
  rw [hw2, hwm]
  refine EffK.append 1 (news := [vU8 0, vU8 0, vU8 0, vU8 0]) rfl rfl rfl rfl rfl rfl rfl rfl (Src.ownW (k := 0) rfl rfl) (by intro u hu; simp only [List.mem_cons, List.not_mem_nil, or_false] at hu; rcases hu with rfl | rfl | rfl | rfl <;> rfl) (by simp [maxLen]) (by show (_ + _) * 1 ≤ _; omega) fun A5 c5 => ?_
  (conv => whnf); repeat ((first | refine RngK.mk (by omega) (by omega) ?_ | refine NzK.mk (by omega) ?_ | refine NnK.mk (by omega) ?_ | refine BdK.mk (by omega) (by omega) (by omega) ?_ | refine InsK.lit (by omega) (by omega) ?_ | refine SpK.lit ?_ | refine GrdK.same ?_ | refine GrdK.tf ?_ | refine GrdK.ft ?_ | refine PickK.t ?_ | refine PickK.f ?_); (conv => whnf))
  have hR : huD [128, 16, 0, 0, 0, 0] 0 128 = some ([(0, 1), (1, 1)], 1) := by decide +kernel
  have hrc := rcodesD_spec A5 6 c5 [128, 16, 0, 0, 0, 0] e u 0 (by omega) (by decide) (by decide)
  rw [show ([128, 16, 0, 0, 0, 0] : List UInt8)[0].toNat = 128 by rfl, hR] at hrc
  refine CallK.of [] hrc rfl (fun w hw => ⟨Bytes.ofOwn (bs := [128, 16, 0, 0, 0, 0]) hw 1 rfl, hL.pass hw⟩) ?_
  rintro _ _ ⟨A6, c6, rfl, rfl⟩
  (conv => whnf); repeat ((first | refine RngK.mk (by omega) (by omega) ?_ | refine NzK.mk (by omega) ?_ | refine NnK.mk (by omega) ?_ | refine BdK.mk (by omega) (by omega) (by omega) ?_ | refine InsK.lit (by omega) (by omega) ?_ | refine SpK.lit ?_ | refine GrdK.same ?_ | refine GrdK.tf ?_ | refine GrdK.ft ?_ | refine PickK.t ?_ | refine PickK.f ?_); (conv => whnf))
  exact ⟨[], HSub.nil _, rfl, rfl⟩
end Go.Proofs.YtgdhdkjbilifiaaDoor
