/- Tables of codes as plain data; tables that are read. Weights that are written; a small table that is read. -/
import Derived.Test.YtgdhdkjbilifiaaDoorCdA
import Derived.Test.YtgdhdkjbilifiaaDoorOwn
import Derived.Test.YtgdhdkjbilifiaaDoorLaid
namespace Go.Proofs.YtgdhdkjbilifiaaDoor
open Go Go.Sx
set_option maxRecDepth 100000
abbrev Cd := Nat × Nat
def cdC (x : Cd) : List Value := [vN x.1, vN x.2]
def cdE (l : List Cd) : List Value := l.flatMap cdC
theorem cdE_snoc (l : List Cd) (x : Cd) : cdE (l ++ [x]) = cdE l ++ cdC x := by simp [cdE, List.flatMap_append]
theorem cdE_len (l : List Cd) : (cdE l).length = l.length * 2 := by
  induction l with
  | nil => rfl
  | cons x l ih => simp [cdE, cdC] at ih ⊢; omega
theorem cd_one (x : Cd) : ∀ u ∈ cdC x, u.oneCell' = true := by
  intro u hu
  simp only [cdC, List.mem_cons, List.not_mem_nil, or_false] at hu
  rcases hu with rfl | rfl <;> rfl
def un (x : Nat) : Cd := (x / 256, x % 256)
theorem un_pk {x : Cd} (h : x.2 < 256) : un (pk x) = x := by
  unfold un pk
  ext <;> simp only <;> omega
abbrev OwnC (l : List Cd) (A : Option Addr) (cap : Nat) : Chunk := .own A l.length cap 65 2 (cdE l)
theorem ownC_snoc (l : List Cd) (x : Cd) (A : Option Addr) (cap : Nat) : OwnC (l ++ [x]) A cap = .own A (l.length + 1) cap 65 2 (cdE l ++ cdC x) := by
  simp [OwnC, cdE_snoc]
theorem codesOf_spec (A : Option Addr) (n c : Nat) (xs : List Nat) (hn : n ≤ 1000000) (hl : xs.length = n) (hx : ∀ x ∈ xs, x < 65536) : FnS Tryd.prog 37 [.slice A n c] [] (fun w => Rd w (blocks []) A n 1 (xs.map vU16))
    (fun v H => ∃ A1 c1, v = .slice A1 xs.length c1 ∧ H = [.own A1 xs.length c1 65 2 (cdE (xs.map un))]) := by
  refine FnS.introD Tryd.func37 rfl (by kernel_rfl) rfl fun w hH hp => ?_
  (conv => whnf); repeat ((first | refine RngK.mk (by omega) (by omega) ?_ | refine NzK.mk (by omega) ?_ | refine NnK.mk (by omega) ?_ | refine BdK.mk (by omega) (by omega) (by omega) ?_ | refine InsK.lit (by omega) (by omega) ?_ | refine SpK.lit ?_ | refine GrdK.same ?_ | refine GrdK.tf ?_ | refine GrdK.ft ?_ | refine PickK.t ?_ | refine PickK.f ?_); (conv => whnf))
  refine EffK.lit0 rfl rfl fun b => ?_
  (conv => whnf); repeat ((first | refine RngK.mk (by omega) (by omega) ?_ | refine NzK.mk (by omega) ?_ | refine NnK.mk (by omega) ?_ | refine BdK.mk (by omega) (by omega) (by omega) ?_ | refine InsK.lit (by omega) (by omega) ?_ | refine SpK.lit ?_ | refine GrdK.same ?_ | refine GrdK.tf ?_ | refine GrdK.ft ?_ | refine PickK.t ?_ | refine PickK.f ?_); (conv => whnf))
  refine Wp.loop (fun t : Nat × Option Addr × Nat => [(7, .slice A n c), (8, vN n), (9, vN t.1), (3, .slice t.2.1 (xs.take t.1).length t.2.2)]) (fun t => [.own t.2.1 (xs.take t.1).length t.2.2 65 2 (cdE ((xs.take t.1).map un))])
    (fun t => t.1 ≤ n) (fun t => n - t.1) (0, some ⟨b, 0, none⟩, 0) ⟨rfl, rfl, rfl, rfl, trivial⟩ (HSub.refl _) (Nat.zero_le _) fun ⟨k, A1, c1⟩ hk => ?_
  dsimp only at hk ⊢
  (conv => whnf); repeat ((first | refine RngK.mk (by omega) (by omega) ?_ | refine NzK.mk (by omega) ?_ | refine NnK.mk (by omega) ?_ | refine BdK.mk (by omega) (by omega) (by omega) ?_ | refine InsK.lit (by omega) (by omega) ?_ | refine SpK.lit ?_ | refine GrdK.same ?_ | refine GrdK.tf ?_ | refine GrdK.ft ?_ | refine PickK.t ?_ | refine PickK.f ?_); (conv => whnf))
  refine Wp.cond rfl (fun h => ?_) (fun h => ?_)
  · have h := dT h
    have hk' : k < xs.length := by omega
    have htk := List.take_succ_eq_append_getElem hk'
    have htl : (xs.take k).length = k := by simp; omega
    have hxk := hx _ (List.getElem_mem hk')
    have hcell : (xs.map vU16)[k]? = some (vU16 xs[k]) := by simp [hk']
    obtain ⟨x, hxx⟩ : ∃ x, xs[k] = x := ⟨_, rfl⟩
    rw [hxx] at hcell htk hxk
    have e1 : ishr .u16 (x : Int) 8 = ((x / 256 : Nat) : Int) := ishr_nat .u16 x (n := 8) (by decide)
    have e2 : iand .u16 (x : Int) 255 = ((x % 256 : Nat) : Int) := by
      have := iand_u (k := .u16) rfl (x := x) (y := 255) hxk (by decide)
      rw [show (255 : Nat) = 2 ^ 8 - 1 by rfl, Nat.and_two_pow_sub_one_eq_mod] at this
      exact this
    (conv => whnf); repeat ((first | refine RngK.mk (by omega) (by omega) ?_ | refine NzK.mk (by omega) ?_ | refine NnK.mk (by omega) ?_ | refine BdK.mk (by omega) (by omega) (by omega) ?_ | refine InsK.lit (by omega) (by omega) ?_ | refine SpK.lit ?_ | refine GrdK.same ?_ | refine GrdK.tf ?_ | refine GrdK.ft ?_ | refine PickK.t ?_ | refine PickK.f ?_); (conv => whnf))
    refine InsK.rd hp (by omega) (by omega) ?_
    (conv => whnf); repeat ((first | refine RngK.mk (by omega) (by omega) ?_ | refine NzK.mk (by omega) ?_ | refine NnK.mk (by omega) ?_ | refine BdK.mk (by omega) (by omega) (by omega) ?_ | refine InsK.lit (by omega) (by omega) ?_ | refine SpK.lit ?_ | refine GrdK.same ?_ | refine GrdK.tf ?_ | refine GrdK.ft ?_ | refine PickK.t ?_ | refine PickK.f ?_); (conv => whnf))
    refine LdK.rd (v := vU16 x) hp k rfl rfl rfl hcell ?_
    (conv => whnf); repeat ((first | refine RngK.mk (by omega) (by omega) ?_ | refine NzK.mk (by omega) ?_ | refine NnK.mk (by omega) ?_ | refine BdK.mk (by omega) (by omega) (by omega) ?_ | refine InsK.lit (by omega) (by omega) ?_ | refine SpK.lit ?_ | refine GrdK.same ?_ | refine GrdK.tf ?_ | refine GrdK.ft ?_ | refine PickK.t ?_ | refine PickK.f ?_); (conv => whnf))
    rw [e1, e2]
    (conv => whnf); repeat ((first | refine RngK.mk (by omega) (by omega) ?_ | refine NzK.mk (by omega) ?_ | refine NnK.mk (by omega) ?_ | refine BdK.mk (by omega) (by omega) (by omega) ?_ | refine InsK.lit (by omega) (by omega) ?_ | refine SpK.lit ?_ | refine GrdK.same ?_ | refine GrdK.tf ?_ | refine GrdK.ft ?_ | refine PickK.t ?_ | refine PickK.f ?_); (conv => whnf))
    refine ValK.buildS 2 rfl rfl rfl rfl rfl rfl rfl ?_
    (conv => whnf); repeat ((first | refine RngK.mk (by omega) (by omega) ?_ | refine NzK.mk (by omega) ?_ | refine NnK.mk (by omega) ?_ | refine BdK.mk (by omega) (by omega) (by omega) ?_ | refine InsK.lit (by omega) (by omega) ?_ | refine SpK.lit ?_ | refine GrdK.same ?_ | refine GrdK.tf ?_ | refine GrdK.ft ?_ | refine PickK.t ?_ | refine PickK.f ?_); (conv => whnf))
    refine EffK.litN 2 rfl rfl rfl rfl rfl rfl rfl rfl rfl rfl rfl ?_
    (conv => whnf); repeat ((first | refine RngK.mk (by omega) (by omega) ?_ | refine NzK.mk (by omega) ?_ | refine NnK.mk (by omega) ?_ | refine BdK.mk (by omega) (by omega) (by omega) ?_ | refine InsK.lit (by omega) (by omega) ?_ | refine SpK.lit ?_ | refine GrdK.same ?_ | refine GrdK.tf ?_ | refine GrdK.ft ?_ | refine PickK.t ?_ | refine PickK.f ?_); (conv => whnf))
    intro b3
    (conv => whnf); repeat ((first | refine RngK.mk (by omega) (by omega) ?_ | refine NzK.mk (by omega) ?_ | refine NnK.mk (by omega) ?_ | refine BdK.mk (by omega) (by omega) (by omega) ?_ | refine InsK.lit (by omega) (by omega) ?_ | refine SpK.lit ?_ | refine GrdK.same ?_ | refine GrdK.tf ?_ | refine GrdK.ft ?_ | refine PickK.t ?_ | refine PickK.f ?_); (conv => whnf))
    refine EffK.append 1 (news := cdC (un x)) rfl rfl rfl rfl rfl rfl rfl rfl (Src.ownW (k := 0) rfl rfl) (cd_one _) (by simp [maxLen]; omega) (by show (_ + _) * 16 ≤ _; omega) fun A' cap' => ?_
    (conv => whnf); repeat ((first | refine RngK.mk (by omega) (by omega) ?_ | refine NzK.mk (by omega) ?_ | refine NnK.mk (by omega) ?_ | refine BdK.mk (by omega) (by omega) (by omega) ?_ | refine InsK.lit (by omega) (by omega) ?_ | refine SpK.lit ?_ | refine GrdK.same ?_ | refine GrdK.tf ?_ | refine GrdK.ft ?_ | refine PickK.t ?_ | refine PickK.f ?_); (conv => whnf))
    refine ⟨(k + 1, A', cap'), ⟨rfl, rfl, rfl, ?_, trivial⟩, ?_, by simp only; omega, by simp only; omega⟩
    · show some _ = some _
      rw [htk]
      simp
    · dsimp only
      rw [htk, List.map_append, List.length_append, show cdE ((xs.take k).map un ++ [x].map un) = cdE ((xs.take k).map un) ++ cdC (un x) by simp [cdE, List.flatMap_append]]
      exact HSub.of [1] rfl
  · have h := dF h
    rw [List.take_of_length_le (by omega)]
    (conv => whnf); repeat ((first | refine RngK.mk (by omega) (by omega) ?_ | refine NzK.mk (by omega) ?_ | refine NnK.mk (by omega) ?_ | refine BdK.mk (by omega) (by omega) (by omega) ?_ | refine InsK.lit (by omega) (by omega) ?_ | refine SpK.lit ?_ | refine GrdK.same ?_ | refine GrdK.tf ?_ | refine GrdK.ft ?_ | refine PickK.t ?_ | refine PickK.f ?_); (conv => whnf))
    exact ⟨_, HSub.refl _, A1, c1, rfl, rfl⟩
theorem segC_mem {b w : Nat} : ∀ {l : List Nat} {i : Nat} {x : Cd}, x ∈ segC b w i l → x.1 < i + l.length ∧ i ≤ x.1 ∧ x.2 = b + 1 - w
  | [], i, x, h => by simp [segC] at h
  | y :: l, i, x, h => by
    rw [segC, List.mem_append] at h
    rcases h with h | h
    · split at h
      · have := List.eq_of_mem_replicate h
        subst this
        simp
      · simp at h
    · obtain ⟨h1, h2, h3⟩ := segC_mem h
      simp only [List.length_cons]
      exact ⟨by omega, by omega, h3⟩
theorem tabC_mem {all : List Nat} {b : Nat} : ∀ {k : Nat} {x : Cd}, x ∈ tabC all b k → x.1 < all.length ∧ b + 1 - k ≤ x.2 ∧ x.2 ≤ b
  | 0, x, h => by simp [tabC] at h
  | k + 1, x, h => by
    rw [tabC, List.mem_append] at h
    rcases h with h | h
    · obtain ⟨h1, h2, h3⟩ := tabC_mem h
      exact ⟨h1, by omega, h3⟩
    · obtain ⟨h1, h2, h3⟩ := segC_mem h
      exact ⟨by omega, by omega, by omega⟩
structure HufF (ws : List Nat) (l : List Cd) (b : Nat) : Prop where
  b0 : 1 ≤ b
  b1 : b ≤ 11
  len : l.length = 2 ^ b
  mem : ∀ x ∈ l, x.1 < ws.length + 1 ∧ 1 ≤ x.2 ∧ x.2 ≤ b
theorem hufS_facts {ws : List Nat} {l : List Cd} {b : Nat} (h : hufS ws = some (l, b)) : HufF ws l b := by
  unfold hufS at h
  split at h
  · cases h
  · rename_i all b' h1
    split at h
    · cases h
    · injection h with h
      injection h with h h'
      subst h h'
      have hW := wholeN_facts h1
      refine ⟨hW.b0, hW.b1, by rw [tabC_len, hW.base], fun x hx => ?_⟩
      obtain ⟨h2, h3, h4⟩ := tabC_mem hx
      rw [hW.al, List.length_append] at h2
      simp at h2
      exact ⟨h2, by omega, h4⟩
/-- what is read where weights of four bits each stand -/
def huD (bs : List UInt8) (off q : Nat) : Option (List Cd × Nat) := if off + 1 + (q - 126) / 2 < bs.length then hufS (nibs bs (off + 1) (q - 127)) else none
set_option maxHeartbeats 1000000 in
theorem zzhuffD_spec (A : Option Addr) (n c : Nat) (bs : List UInt8) (e u : Addr) (off : Nat) (hn : n ≤ 16777216) (ho : off < bs.length) (hd : 128 ≤ bs[off].toNat) :
    FnS Tryd.prog 36 [.slice A n c, vN off] [] (fun w => Bytes w (blocks []) A n c bs ∧ Laid w (blocks []) e u)
      (fun v H => match huD bs off bs[off].toNat with
        | none => ∃ T' x, v = .tuple #[.slice none 0 0, vI 0, vI 0, .iface T' x] ∧ H = []
        | some (l, b) => ∃ (A1 : Option Addr) (ys : List Nat), ys.length = 2048 ∧ ys.take (2 ^ b) = l.map pk ∧ v = .tuple #[.slice A1 (2 ^ b) 2048, vN b, vN (off + 1 + (bs[off].toNat - 126) / 2), .nilIface] ∧ H = [.own A1 2048 2048 109 1 (ys.map vU16)]) := by
  refine FnS.introD Tryd.func36 rfl (by kernel_rfl) rfl fun w hH ⟨hp, hL⟩ => ?_
  obtain ⟨R, hR⟩ : ∃ R, huD bs off bs[off].toNat = R := ⟨_, rfl⟩
  rw [hR]
  (conv => whnf); repeat ((first | refine RngK.mk (by omega) (by omega) ?_ | refine NzK.mk (by omega) ?_ | refine NnK.mk (by omega) ?_ | refine BdK.mk (by omega) (by omega) (by omega) ?_ | refine InsK.lit (by omega) (by omega) ?_ | refine SpK.lit ?_ | refine GrdK.same ?_ | refine GrdK.tf ?_ | refine GrdK.ft ?_ | refine PickK.t ?_ | refine PickK.f ?_); (conv => whnf))
  refine EffK.made1 2048 rfl rfl rfl rfl rfl rfl (by show 2 * _ ≤ _; omega) (by simp [maxLen]) fun b12 => ?_
  (conv => whnf); repeat ((first | refine RngK.mk (by omega) (by omega) ?_ | refine NzK.mk (by omega) ?_ | refine NnK.mk (by omega) ?_ | refine BdK.mk (by omega) (by omega) (by omega) ?_ | refine InsK.lit (by omega) (by omega) ?_ | refine SpK.lit ?_ | refine GrdK.same ?_ | refine GrdK.tf ?_ | refine GrdK.ft ?_ | refine PickK.t ?_ | refine PickK.f ?_); (conv => whnf))
  refine ⟨_, _, rfl, rfl, ?_⟩
  intro b17
  (conv => whnf); repeat ((first | refine RngK.mk (by omega) (by omega) ?_ | refine NzK.mk (by omega) ?_ | refine NnK.mk (by omega) ?_ | refine BdK.mk (by omega) (by omega) (by omega) ?_ | refine InsK.lit (by omega) (by omega) ?_ | refine SpK.lit ?_ | refine GrdK.same ?_ | refine GrdK.tf ?_ | refine GrdK.ft ?_ | refine PickK.t ?_ | refine PickK.f ?_); (conv => whnf))
  have hrf := readHuffD_spec b17 A n c bs e u off (some ⟨b12, 0, none⟩) 2048 2048 (List.replicate 2048 0) hn ho hd (by simp) (by omega) (by omega)
  have hR' := hR
  unfold huD at hR'
  rw [hR'] at hrf
  unfold tabU at hrf
  rw [List.map_replicate] at hrf
  refine CallK.of [1] hrf rfl (fun w hw => ⟨hp.pass hw, hL.pass hw, ?_⟩) ?_
  · exact Rd.ofBlk (o := 6) (m := 1) (sz := 1) hw 0 rfl (by decide)
  cases hRR : R with
  | none =>
    rintro _ _ ⟨ys, T', x, rfl, rfl⟩
    (conv => whnf); repeat ((first | refine RngK.mk (by omega) (by omega) ?_ | refine NzK.mk (by omega) ?_ | refine NnK.mk (by omega) ?_ | refine BdK.mk (by omega) (by omega) (by omega) ?_ | refine InsK.lit (by omega) (by omega) ?_ | refine SpK.lit ?_ | refine GrdK.same ?_ | refine GrdK.tf ?_ | refine GrdK.ft ?_ | refine PickK.t ?_ | refine PickK.f ?_); (conv => whnf))
    refine ValK.neIface rfl ?_
    (conv => whnf); repeat ((first | refine RngK.mk (by omega) (by omega) ?_ | refine NzK.mk (by omega) ?_ | refine NnK.mk (by omega) ?_ | refine BdK.mk (by omega) (by omega) (by omega) ?_ | refine InsK.lit (by omega) (by omega) ?_ | refine SpK.lit ?_ | refine GrdK.same ?_ | refine GrdK.tf ?_ | refine GrdK.ft ?_ | refine PickK.t ?_ | refine PickK.f ?_); (conv => whnf))
    refine Wp.cond rfl (fun _ => ?_) (fun h => by cases h)
    (conv => whnf); repeat ((first | refine RngK.mk (by omega) (by omega) ?_ | refine NzK.mk (by omega) ?_ | refine NnK.mk (by omega) ?_ | refine BdK.mk (by omega) (by omega) (by omega) ?_ | refine InsK.lit (by omega) (by omega) ?_ | refine SpK.lit ?_ | refine GrdK.same ?_ | refine GrdK.tf ?_ | refine GrdK.ft ?_ | refine PickK.t ?_ | refine PickK.f ?_); (conv => whnf))
    exact ⟨_, HSub.nil _, T', x, rfl, rfl⟩
  | some x =>
    obtain ⟨l, b⟩ := x
    rintro _ _ ⟨ys, hy1, hy2, rfl, rfl⟩
    rw [hRR] at hR'
    have hF : ∃ ws, HufF ws l b := by
      split at hR'
      · exact ⟨_, hufS_facts hR'⟩
      · cases hR'
    obtain ⟨ws, hF⟩ := hF
    have hb1 := hF.b1
    have h2b : 2 ^ b ≤ 2 ^ 11 := Nat.pow_le_pow_right (by omega) hb1
    have h2p := Nat.two_pow_pos b
    have e1 : ishl .i64 1 (b : Int) = ((2 ^ b : Nat) : Int) := by
      have := ishl_i64 (x := 1) (n := b) (by omega) (by omega)
      rw [Nat.one_mul] at this
      exact this
    (conv => whnf); repeat ((first | refine RngK.mk (by omega) (by omega) ?_ | refine NzK.mk (by omega) ?_ | refine NnK.mk (by omega) ?_ | refine BdK.mk (by omega) (by omega) (by omega) ?_ | refine InsK.lit (by omega) (by omega) ?_ | refine SpK.lit ?_ | refine GrdK.same ?_ | refine GrdK.tf ?_ | refine GrdK.ft ?_ | refine PickK.t ?_ | refine PickK.f ?_); (conv => whnf))
    refine ValK.neNil rfl ?_
    (conv => whnf); repeat ((first | refine RngK.mk (by omega) (by omega) ?_ | refine NzK.mk (by omega) ?_ | refine NnK.mk (by omega) ?_ | refine BdK.mk (by omega) (by omega) (by omega) ?_ | refine InsK.lit (by omega) (by omega) ?_ | refine SpK.lit ?_ | refine GrdK.same ?_ | refine GrdK.tf ?_ | refine GrdK.ft ?_ | refine PickK.t ?_ | refine PickK.f ?_); (conv => whnf))
    refine Wp.cond rfl (fun h => by cases h) (fun _ => ?_)
    (conv => whnf); repeat ((first | refine RngK.mk (by omega) (by omega) ?_ | refine NzK.mk (by omega) ?_ | refine NnK.mk (by omega) ?_ | refine BdK.mk (by omega) (by omega) (by omega) ?_ | refine InsK.lit (by omega) (by omega) ?_ | refine SpK.lit ?_ | refine GrdK.same ?_ | refine GrdK.tf ?_ | refine GrdK.ft ?_ | refine PickK.t ?_ | refine PickK.f ?_); (conv => whnf))
    rw [e1]
    (conv => whnf); repeat ((first | refine RngK.mk (by omega) (by omega) ?_ | refine NzK.mk (by omega) ?_ | refine NnK.mk (by omega) ?_ | refine BdK.mk (by omega) (by omega) (by omega) ?_ | refine InsK.lit (by omega) (by omega) ?_ | refine SpK.lit ?_ | refine GrdK.same ?_ | refine GrdK.tf ?_ | refine GrdK.ft ?_ | refine PickK.t ?_ | refine PickK.f ?_); (conv => whnf))
    refine ⟨_, HSub.of [0] rfl, some ⟨b12, 0, none⟩, ys, hy1, hy2, ?_, rfl⟩
    rfl
/-- what impl.ReadCodes gives for what is read -/
def CodesOut (p : Nat) (R : Option (List Cd × Nat)) (v : Value) (H : Hp) : Prop :=
  match R with
  | none => ∃ A1 c1, v = .tuple #[.slice A1 0 c1, vI 0, vI 0, vB false] ∧ H = [OwnC [] A1 c1]
  | some (l, b) => ∃ A1 c1, v = .tuple #[.slice A1 l.length c1, vN b, vN p, vB true] ∧ H = [OwnC l A1 c1]
set_option maxHeartbeats 1000000 in
theorem rcodesD_spec (A : Option Addr) (n c : Nat) (bs : List UInt8) (e u : Addr) (off : Nat) (hn : n ≤ 16777216) (ho : off < bs.length) (hd : 128 ≤ bs[off].toNat) :
    FnS Tryd.prog 15 [.slice A n c, vN off] [] (fun w => Bytes w (blocks []) A n c bs ∧ Laid w (blocks []) e u)
      (CodesOut (off + 1 + (bs[off].toNat - 126) / 2) (huD bs off bs[off].toNat)) := by
  refine FnS.introD Tryd.func15 rfl (by kernel_rfl) rfl fun w hH ⟨hp, hL⟩ => ?_
  have hrf := zzhuffD_spec A n c bs e u off hn ho hd
  obtain ⟨R, hR⟩ : ∃ R, huD bs off bs[off].toNat = R := ⟨_, rfl⟩
  rw [hR] at hrf ⊢
  (conv => whnf); repeat ((first | refine RngK.mk (by omega) (by omega) ?_ | refine NzK.mk (by omega) ?_ | refine NnK.mk (by omega) ?_ | refine BdK.mk (by omega) (by omega) (by omega) ?_ | refine InsK.lit (by omega) (by omega) ?_ | refine SpK.lit ?_ | refine GrdK.same ?_ | refine GrdK.tf ?_ | refine GrdK.ft ?_ | refine PickK.t ?_ | refine PickK.f ?_); (conv => whnf))
  refine CallK.of [] hrf rfl (fun w hw => ⟨hp.pass hw, hL.pass hw⟩) ?_
  cases hRR : R with
  | none =>
    rintro _ _ ⟨T', x, rfl, rfl⟩
    (conv => whnf); repeat ((first | refine RngK.mk (by omega) (by omega) ?_ | refine NzK.mk (by omega) ?_ | refine NnK.mk (by omega) ?_ | refine BdK.mk (by omega) (by omega) (by omega) ?_ | refine InsK.lit (by omega) (by omega) ?_ | refine SpK.lit ?_ | refine GrdK.same ?_ | refine GrdK.tf ?_ | refine GrdK.ft ?_ | refine PickK.t ?_ | refine PickK.f ?_); (conv => whnf))
    refine ValK.neIface rfl ?_
    (conv => whnf); repeat ((first | refine RngK.mk (by omega) (by omega) ?_ | refine NzK.mk (by omega) ?_ | refine NnK.mk (by omega) ?_ | refine BdK.mk (by omega) (by omega) (by omega) ?_ | refine InsK.lit (by omega) (by omega) ?_ | refine SpK.lit ?_ | refine GrdK.same ?_ | refine GrdK.tf ?_ | refine GrdK.ft ?_ | refine PickK.t ?_ | refine PickK.f ?_); (conv => whnf))
    refine Wp.cond rfl (fun _ => ?_) (fun h => by cases h)
    (conv => whnf); repeat ((first | refine RngK.mk (by omega) (by omega) ?_ | refine NzK.mk (by omega) ?_ | refine NnK.mk (by omega) ?_ | refine BdK.mk (by omega) (by omega) (by omega) ?_ | refine InsK.lit (by omega) (by omega) ?_ | refine SpK.lit ?_ | refine GrdK.same ?_ | refine GrdK.tf ?_ | refine GrdK.ft ?_ | refine PickK.t ?_ | refine PickK.f ?_); (conv => whnf))
    refine EffK.lit0 rfl rfl fun b => ?_
    (conv => whnf); repeat ((first | refine RngK.mk (by omega) (by omega) ?_ | refine NzK.mk (by omega) ?_ | refine NnK.mk (by omega) ?_ | refine BdK.mk (by omega) (by omega) (by omega) ?_ | refine InsK.lit (by omega) (by omega) ?_ | refine SpK.lit ?_ | refine GrdK.same ?_ | refine GrdK.tf ?_ | refine GrdK.ft ?_ | refine PickK.t ?_ | refine PickK.f ?_); (conv => whnf))
    exact ⟨_, HSub.refl _, _, _, rfl, rfl⟩
  | some x =>
    obtain ⟨l, b⟩ := x
    rintro _ _ ⟨A1, ys, hy1, hy2, rfl, rfl⟩
    rw [hRR] at hR
    have hF : ∃ ws, ws.length ≤ 128 ∧ HufF ws l b := by
      unfold huD at hR
      have := bs[off].toNat_lt
      split at hR
      · exact ⟨_, by rw [nibs_len]; omega, hufS_facts hR⟩
      · cases hR
    obtain ⟨ws, hwl, hF⟩ := hF
    have hb1 := hF.b1
    have hll := hF.len
    have h2b : 2 ^ b ≤ 2 ^ 11 := Nat.pow_le_pow_right (by omega) hb1
    have h2p := Nat.two_pow_pos b
    have e1 : ishl .i64 1 (b : Int) = ((2 ^ b : Nat) : Int) := by
      have := ishl_i64 (x := 1) (n := b) (by omega) (by omega)
      rw [Nat.one_mul] at this
      exact this
    have hpk : ∀ x ∈ l.map pk, x < 65536 := by
      intro x hx
      obtain ⟨y, hy, rfl⟩ := List.mem_map.1 hx
      obtain ⟨h1, h2, h3⟩ := hF.mem y hy
      unfold pk
      omega
    have hun : (l.map pk).map un = l := by
      rw [List.map_map]
      conv => rhs; rw [← List.map_id l]
      refine List.map_congr_left fun y hy => ?_
      obtain ⟨h1, h2, h3⟩ := hF.mem y hy
      exact un_pk (by omega)
    (conv => whnf); repeat ((first | refine RngK.mk (by omega) (by omega) ?_ | refine NzK.mk (by omega) ?_ | refine NnK.mk (by omega) ?_ | refine BdK.mk (by omega) (by omega) (by omega) ?_ | refine InsK.lit (by omega) (by omega) ?_ | refine SpK.lit ?_ | refine GrdK.same ?_ | refine GrdK.tf ?_ | refine GrdK.ft ?_ | refine PickK.t ?_ | refine PickK.f ?_); (conv => whnf))
    refine ValK.neNil rfl ?_
    (conv => whnf); repeat ((first | refine RngK.mk (by omega) (by omega) ?_ | refine NzK.mk (by omega) ?_ | refine NnK.mk (by omega) ?_ | refine BdK.mk (by omega) (by omega) (by omega) ?_ | refine InsK.lit (by omega) (by omega) ?_ | refine SpK.lit ?_ | refine GrdK.same ?_ | refine GrdK.tf ?_ | refine GrdK.ft ?_ | refine PickK.t ?_ | refine PickK.f ?_); (conv => whnf))
    refine Wp.own 0 rfl fun hA => ?_
    refine Wp.cond rfl (fun h => by cases h) (fun _ => ?_)
    (conv => whnf); repeat ((first | refine RngK.mk (by omega) (by omega) ?_ | refine NzK.mk (by omega) ?_ | refine NnK.mk (by omega) ?_ | refine BdK.mk (by omega) (by omega) (by omega) ?_ | refine InsK.lit (by omega) (by omega) ?_ | refine SpK.lit ?_ | refine GrdK.same ?_ | refine GrdK.tf ?_ | refine GrdK.ft ?_ | refine PickK.t ?_ | refine PickK.f ?_); (conv => whnf))
    rw [e1]
    (conv => whnf); repeat ((first | refine RngK.mk (by omega) (by omega) ?_ | refine NzK.mk (by omega) ?_ | refine NnK.mk (by omega) ?_ | refine BdK.mk (by omega) (by omega) (by omega) ?_ | refine InsK.lit (by omega) (by omega) ?_ | refine SpK.lit ?_ | refine GrdK.same ?_ | refine GrdK.tf ?_ | refine GrdK.ft ?_ | refine PickK.t ?_ | refine PickK.f ?_); (conv => whnf))
    refine SpK.own hA ?_
    (conv => whnf); repeat ((first | refine RngK.mk (by omega) (by omega) ?_ | refine NzK.mk (by omega) ?_ | refine NnK.mk (by omega) ?_ | refine BdK.mk (by omega) (by omega) (by omega) ?_ | refine InsK.lit (by omega) (by omega) ?_ | refine SpK.lit ?_ | refine GrdK.same ?_ | refine GrdK.tf ?_ | refine GrdK.ft ?_ | refine PickK.t ?_ | refine PickK.f ?_); (conv => whnf))
    refine CallK.cast [.slice A1 (2 ^ b) 2048] ?_ ?_
    · show [Value.slice (cutA A1 0 2048 1) (2 ^ b - 0) (2048 - 0)] = _
      rw [hA.cut0]
      rfl
    have htl : (ys.map vU16).take (2 ^ b * 1) = (l.map pk).map vU16 := by rw [Nat.mul_one, ← List.map_take, hy2]
    refine CallK.of [] (codesOf_spec A1 (2 ^ b) 2048 (l.map pk) (by omega) (by rw [List.length_map, hll]) hpk) rfl (fun w hw => ?_) ?_
    · have h := (Rd.ofOwn hw 0 rfl).take (show 2 ^ b ≤ 2048 by omega)
      rw [htl] at h
      exact h
    rintro _ _ ⟨A2, c2, rfl, rfl⟩
    rw [hun, List.length_map]
    (conv => whnf); repeat ((first | refine RngK.mk (by omega) (by omega) ?_ | refine NzK.mk (by omega) ?_ | refine NnK.mk (by omega) ?_ | refine BdK.mk (by omega) (by omega) (by omega) ?_ | refine InsK.lit (by omega) (by omega) ?_ | refine SpK.lit ?_ | refine GrdK.same ?_ | refine GrdK.tf ?_ | refine GrdK.ft ?_ | refine PickK.t ?_ | refine PickK.f ?_); (conv => whnf))
    exact ⟨_, HSub.of [0] rfl, A2, c2, rfl, rfl⟩
end Go.Proofs.YtgdhdkjbilifiaaDoor
namespace Go.Proofs.YtgdhdkjbilifiaaDoor
open Go Go.Sx
set_option maxRecDepth 100000
/-- two weights a byte -/
def wwT : List Nat → List Nat
  | [] => []
  | [x] => [16 * x]
  | x :: y :: l => (16 * x + y) :: wwT l
theorem wwT_len : ∀ l : List Nat, (wwT l).length = (l.length + 1) / 2
  | [] => rfl
  | [x] => by simp [wwT]
  | x :: y :: l => by simp only [wwT, List.length_cons, wwT_len l]; omega
theorem wwT_lt : ∀ l : List Nat, (∀ w ∈ l, w < 16) → ∀ x ∈ wwT l, x < 256
  | [], _, x, h => by simp [wwT] at h
  | [y], h, x, hx => by
    simp only [wwT, List.mem_singleton] at hx
    have := h y (by simp)
    omega
  | y :: z :: l, h, x, hx => by
    simp only [wwT, List.mem_cons] at hx
    rcases hx with rfl | hx
    · have := h y (by simp)
      have := h z (by simp)
      omega
    · exact wwT_lt l (fun w hw => h w (by simp [hw])) x hx
theorem wwT_even : ∀ (l : List Nat) (x : Nat), l.length % 2 = 0 → wwT (l ++ [x]) = wwT l ++ [16 * x]
  | [], x, _ => rfl
  | [y], x, h => by simp at h
  | y :: z :: l, x, h => by
    have := wwT_even l x (by simp only [List.length_cons] at h; omega)
    simp only [List.cons_append, wwT, this]
theorem wwT_odd : ∀ (l : List Nat) (x : Nat), l.length % 2 = 1 → ∃ d y, y ∈ l ∧ wwT l = d ++ [16 * y] ∧ wwT (l ++ [x]) = d ++ [16 * y + x]
  | [], x, h => by simp at h
  | [y], x, _ => ⟨[], y, by simp, rfl, rfl⟩
  | y :: z :: l, x, h => by
    obtain ⟨d, v, h0, h1, h2⟩ := wwT_odd l x (by simp only [List.length_cons] at h; omega)
    exact ⟨(16 * y + z) :: d, v, by simp [h0], by simp only [wwT, h1, List.cons_append], by simp only [List.cons_append, wwT, h2]⟩
theorem nibs_cons2 (bs : List UInt8) (a m : Nat) : nibs bs a (m + 2) = (bs.getD a 0).toNat / 16 :: (bs.getD a 0).toNat % 16 :: nibs bs (a + 1) m := by
  unfold nibs
  rw [List.range_succ_eq_map, List.range_succ_eq_map]
  simp only [List.map_cons, List.map_map, Nat.zero_mod, if_true, Nat.zero_div, Nat.add_zero]
  congr 2
  refine List.map_congr_left fun k _ => ?_
  simp only [Function.comp]
  have h1 : (k + 1 + 1) % 2 = k % 2 := by omega
  have h2 : a + (k + 1 + 1) / 2 = a + 1 + k / 2 := by omega
  simp only [Nat.succ_eq_add_one, h1, h2]
def bytes (l : List Nat) : List UInt8 := l.map UInt8.ofNat
theorem bytes_v {l : List Nat} (h : ∀ x ∈ l, x < 256) : (bytes l).map vU8 = l.map vW8 := by
  unfold bytes
  rw [List.map_map]
  refine List.map_congr_left fun x hx => ?_
  have : (UInt8.ofNat x).toNat = x := UInt8.toNat_ofNat_of_lt' (h x hx)
  show Value.int .u8 _ = Value.int .u8 _
  rw [this]
theorem nibs_ww : ∀ (ws : List Nat) (a c : List UInt8), (∀ w ∈ ws, w < 16) → nibs (a ++ bytes (wwT ws) ++ c) a.length ws.length = ws
  | [], a, c, _ => by simp [nibs]
  | [x], a, c, h => by
    have hx := h x (by simp)
    have h1 : (UInt8.ofNat (16 * x)).toNat = 16 * x := UInt8.toNat_ofNat_of_lt' (by simp [UInt8.size]; omega)
    have h2 : (a ++ bytes (wwT [x]) ++ c).getD a.length 0 = UInt8.ofNat (16 * x) := by simp [wwT, bytes]
    have : nibs (a ++ bytes (wwT [x]) ++ c) a.length 1 = [((a ++ bytes (wwT [x]) ++ c).getD a.length 0).toNat / 16] := by simp [nibs]
    rw [List.length_singleton, this, h2, h1]
    congr 1
    omega
  | x :: y :: l, a, c, h => by
    have hx := h x (by simp)
    have hy := h y (by simp)
    have h1 : (UInt8.ofNat (16 * x + y)).toNat = 16 * x + y := UInt8.toNat_ofNat_of_lt' (by simp [UInt8.size]; omega)
    have h2 : (a ++ bytes (wwT (x :: y :: l)) ++ c).getD a.length 0 = UInt8.ofNat (16 * x + y) := by simp [wwT, bytes]
    have ih := nibs_ww l (a ++ [UInt8.ofNat (16 * x + y)]) c fun w hw => h w (by simp [hw])
    have h3 : a ++ bytes (wwT (x :: y :: l)) ++ c = a ++ [UInt8.ofNat (16 * x + y)] ++ bytes (wwT l) ++ c := by simp [wwT, bytes]
    rw [List.length_cons, List.length_cons, nibs_cons2, h2, h1, h3]
    rw [List.length_append, List.length_singleton] at ih
    rw [ih]
    congr 1
    · omega
    · congr 1; omega
/-- the bytes of written weights -/
def wwB (ws : List Nat) : List UInt8 := bytes ((127 + ws.length) :: wwT ws)
theorem wwB_len (ws : List Nat) : (wwB ws).length = 1 + (ws.length + 1) / 2 := by
  unfold wwB bytes
  rw [List.length_map, List.length_cons, wwT_len]; omega
theorem wwB_head {ws : List Nat} (h : ws.length ≤ 128) (a c : List UInt8) : ∃ hl : a.length < (a ++ wwB ws ++ c).length, ((a ++ wwB ws ++ c)[a.length]'hl).toNat = 127 + ws.length := by
  have h0 : (wwB ws).length = 1 + (ws.length + 1) / 2 := wwB_len ws
  refine ⟨by simp only [List.length_append]; omega, ?_⟩
  have : (a ++ wwB ws ++ c)[a.length]'(by simp only [List.length_append]; omega) = UInt8.ofNat (127 + ws.length) := by simp [wwB, bytes]
  rw [this]
  exact UInt8.toNat_ofNat_of_lt' (by simp [UInt8.size]; omega)
/-- written weights are read -/
theorem huD_ww {ws : List Nat} (h : ∀ w ∈ ws, w < 16) (h0 : 1 ≤ ws.length) (a c : List UInt8) (hc : 1 ≤ c.length) : huD (a ++ wwB ws ++ c) a.length (127 + ws.length) = hufS ws := by
  unfold huD
  have hl := wwB_len ws
  rw [if_pos (by simp only [List.length_append]; omega), Nat.add_sub_cancel_left]
  have e : a ++ wwB ws ++ c = (a ++ [UInt8.ofNat (127 + ws.length)]) ++ bytes (wwT ws) ++ c := by simp [wwB, bytes]
  have := nibs_ww ws (a ++ [UInt8.ofNat (127 + ws.length)]) c h
  rw [List.length_append, List.length_singleton] at this
  rw [e, this]
set_option maxHeartbeats 1000000 in
theorem writeWeights_spec (A : Option Addr) (n c : Nat) (ws : List Nat) (hl : ws.length = n) (hn : n ≤ 128) (hw16 : ∀ w ∈ ws, w < 16) :
    FnS Tryd.prog 19 [.slice A n c] [] (fun w => Rd w (blocks []) A n 1 (ws.map vN)) (OwnU8 5 (wwB ws)) := by
  refine FnS.introD Tryd.func19 rfl (by kernel_rfl) rfl fun w hH hp => ?_
  subst hl
  have e1 : IntKind.u8.wrap (127 + (ws.length : Int)) = ((127 + ws.length : Nat) : Int) := wrap_u_lt (k := .u8) rfl (n := 127 + ws.length) (by show _ < 256; omega)
  (conv => whnf); repeat ((first | refine RngK.mk (by omega) (by omega) ?_ | refine NzK.mk (by omega) ?_ | refine NnK.mk (by omega) ?_ | refine BdK.mk (by omega) (by omega) (by omega) ?_ | refine InsK.lit (by omega) (by omega) ?_ | refine SpK.lit ?_ | refine GrdK.same ?_ | refine GrdK.tf ?_ | refine GrdK.ft ?_ | refine PickK.t ?_ | refine PickK.f ?_); (conv => whnf))
  rw [e1]
  refine EffK.litV rfl rfl rfl rfl rfl rfl rfl rfl rfl ?_
  (conv => whnf); repeat ((first | refine RngK.mk (by omega) (by omega) ?_ | refine NzK.mk (by omega) ?_ | refine NnK.mk (by omega) ?_ | refine BdK.mk (by omega) (by omega) (by omega) ?_ | refine InsK.lit (by omega) (by omega) ?_ | refine SpK.lit ?_ | refine GrdK.same ?_ | refine GrdK.tf ?_ | refine GrdK.ft ?_ | refine PickK.t ?_ | refine PickK.f ?_); (conv => whnf))
  intro b1
  (conv => whnf); repeat ((first | refine RngK.mk (by omega) (by omega) ?_ | refine NzK.mk (by omega) ?_ | refine NnK.mk (by omega) ?_ | refine BdK.mk (by omega) (by omega) (by omega) ?_ | refine InsK.lit (by omega) (by omega) ?_ | refine SpK.lit ?_ | refine GrdK.same ?_ | refine GrdK.tf ?_ | refine GrdK.ft ?_ | refine PickK.t ?_ | refine PickK.f ?_); (conv => whnf))
  refine Wp.loop (fun t : Nat × Option Addr × Nat => [(3, .slice t.2.1 (1 + (wwT (ws.take t.1)).length) t.2.2), (11, .slice A ws.length c), (12, vN ws.length), (13, vN t.1)])
    (fun t => [.own t.2.1 (1 + (wwT (ws.take t.1)).length) t.2.2 5 1 (((127 + ws.length) :: wwT (ws.take t.1)).map vW8)]) (fun t => t.1 ≤ ws.length) (fun t => ws.length - t.1) (0, some ⟨b1, 0, none⟩, 1)
    ⟨rfl, rfl, rfl, rfl, trivial⟩ (HSub.refl _) (Nat.zero_le _) fun ⟨k, A1, c1⟩ hk => ?_
  dsimp only at hk ⊢
  (conv => whnf); repeat ((first | refine RngK.mk (by omega) (by omega) ?_ | refine NzK.mk (by omega) ?_ | refine NnK.mk (by omega) ?_ | refine BdK.mk (by omega) (by omega) (by omega) ?_ | refine InsK.lit (by omega) (by omega) ?_ | refine SpK.lit ?_ | refine GrdK.same ?_ | refine GrdK.tf ?_ | refine GrdK.ft ?_ | refine PickK.t ?_ | refine PickK.f ?_); (conv => whnf))
  refine Wp.cond rfl (fun h => ?_) (fun h => ?_)
  rotate_left
  · have h := dF h
    have hkl : k = ws.length := by omega
    subst hkl
    (conv => whnf); repeat ((first | refine RngK.mk (by omega) (by omega) ?_ | refine NzK.mk (by omega) ?_ | refine NnK.mk (by omega) ?_ | refine BdK.mk (by omega) (by omega) (by omega) ?_ | refine InsK.lit (by omega) (by omega) ?_ | refine SpK.lit ?_ | refine GrdK.same ?_ | refine GrdK.tf ?_ | refine GrdK.ft ?_ | refine PickK.t ?_ | refine PickK.f ?_); (conv => whnf))
    have hbl : (wwB ws).length = 1 + (wwT ws).length := by rw [wwB_len, wwT_len]
    have hbv : (wwB ws).map vU8 = ((127 + ws.length) :: wwT ws).map vW8 := bytes_v fun x hx => by
      rcases List.mem_cons.1 hx with rfl | hx
      · omega
      · exact wwT_lt ws hw16 x hx
    refine ⟨_, HSub.refl _, A1, c1, ?_, ?_⟩
    · rw [List.take_length, hbl]
    · rw [List.take_length, hbl, hbv]
  have h := dT h
  have hk' : k < ws.length := by omega
  have htk := take_snoc hk'
  have htl : (ws.take k).length = k := by simp; omega
  have hwl := wwT_len (ws.take k)
  rw [htl] at hwl
  have hx16 := hw16 _ (List.getElem_mem hk')
  have hcell : (ws.map vN)[k]? = some (vN ws[k]) := by simp [hk']
  obtain ⟨x, hxx⟩ : ∃ x, ws[k] = x := ⟨_, rfl⟩
  rw [hxx] at hcell htk hx16
  (conv => whnf); repeat ((first | refine RngK.mk (by omega) (by omega) ?_ | refine NzK.mk (by omega) ?_ | refine NnK.mk (by omega) ?_ | refine BdK.mk (by omega) (by omega) (by omega) ?_ | refine InsK.lit (by omega) (by omega) ?_ | refine SpK.lit ?_ | refine GrdK.same ?_ | refine GrdK.tf ?_ | refine GrdK.ft ?_ | refine PickK.t ?_ | refine PickK.f ?_); (conv => whnf))
  refine InsK.rd hp (by omega) (by omega) ?_
  (conv => whnf); repeat ((first | refine RngK.mk (by omega) (by omega) ?_ | refine NzK.mk (by omega) ?_ | refine NnK.mk (by omega) ?_ | refine BdK.mk (by omega) (by omega) (by omega) ?_ | refine InsK.lit (by omega) (by omega) ?_ | refine SpK.lit ?_ | refine GrdK.same ?_ | refine GrdK.tf ?_ | refine GrdK.ft ?_ | refine PickK.t ?_ | refine PickK.f ?_); (conv => whnf))
  refine LdK.rd (v := vN x) hp k rfl rfl rfl hcell ?_
  (conv => whnf); repeat ((first | refine RngK.mk (by omega) (by omega) ?_ | refine NzK.mk (by omega) ?_ | refine NnK.mk (by omega) ?_ | refine BdK.mk (by omega) (by omega) (by omega) ?_ | refine InsK.lit (by omega) (by omega) ?_ | refine SpK.lit ?_ | refine GrdK.same ?_ | refine GrdK.tf ?_ | refine GrdK.ft ?_ | refine PickK.t ?_ | refine PickK.f ?_); (conv => whnf))
  have em : ((k : Nat) : Int).tmod 2 = ((k % 2 : Nat) : Int) := rfl
  rw [em]
  refine Wp.own 0 rfl fun hA => ?_
  refine Wp.cond rfl (fun g => ?_) (fun g => ?_)
  · have g : ((k % 2 : Nat) : Int) = 0 := eqT g
    have hev := wwT_even (ws.take k) x (by rw [htl]; omega)
    rw [← htk] at hev
    have e4 : ishl .i64 (x : Int) 4 = ((x * 16 : Nat) : Int) := ishl_i64 (x := x) (n := 4) (by omega) (by omega)
    have e5 : IntKind.u8.wrap ((x * 16 : Nat) : Int) = ((x * 16 : Nat) : Int) := wrap_u_lt rfl (by show _ < 256; omega)
    (conv => whnf); repeat ((first | refine RngK.mk (by omega) (by omega) ?_ | refine NzK.mk (by omega) ?_ | refine NnK.mk (by omega) ?_ | refine BdK.mk (by omega) (by omega) (by omega) ?_ | refine InsK.lit (by omega) (by omega) ?_ | refine SpK.lit ?_ | refine GrdK.same ?_ | refine GrdK.tf ?_ | refine GrdK.ft ?_ | refine PickK.t ?_ | refine PickK.f ?_); (conv => whnf))
    rw [e4, e5]
    refine EffK.litV rfl rfl rfl rfl rfl rfl rfl rfl rfl ?_
    (conv => whnf); repeat ((first | refine RngK.mk (by omega) (by omega) ?_ | refine NzK.mk (by omega) ?_ | refine NnK.mk (by omega) ?_ | refine BdK.mk (by omega) (by omega) (by omega) ?_ | refine InsK.lit (by omega) (by omega) ?_ | refine SpK.lit ?_ | refine GrdK.same ?_ | refine GrdK.tf ?_ | refine GrdK.ft ?_ | refine PickK.t ?_ | refine PickK.f ?_); (conv => whnf))
    intro b2
    (conv => whnf); repeat ((first | refine RngK.mk (by omega) (by omega) ?_ | refine NzK.mk (by omega) ?_ | refine NnK.mk (by omega) ?_ | refine BdK.mk (by omega) (by omega) (by omega) ?_ | refine InsK.lit (by omega) (by omega) ?_ | refine SpK.lit ?_ | refine GrdK.same ?_ | refine GrdK.tf ?_ | refine GrdK.ft ?_ | refine PickK.t ?_ | refine PickK.f ?_); (conv => whnf))
    refine EffK.append 1 (news := [vW8 (x * 16)]) rfl rfl rfl rfl rfl rfl rfl rfl (Src.ownW (k := 0) rfl rfl) (by intro u hu; rcases List.mem_singleton.1 hu with rfl; rfl) (by simp [maxLen]; omega) (by show (_ + _) * 1 ≤ _; omega) fun A5 c5 => ?_
    (conv => whnf); repeat ((first | refine RngK.mk (by omega) (by omega) ?_ | refine NzK.mk (by omega) ?_ | refine NnK.mk (by omega) ?_ | refine BdK.mk (by omega) (by omega) (by omega) ?_ | refine InsK.lit (by omega) (by omega) ?_ | refine SpK.lit ?_ | refine GrdK.same ?_ | refine GrdK.tf ?_ | refine GrdK.ft ?_ | refine PickK.t ?_ | refine PickK.f ?_); (conv => whnf))
    have hev2 := congrArg List.length hev
    rw [List.length_append, List.length_singleton] at hev2
    refine ⟨(k + 1, A5, c5), ⟨?_, rfl, rfl, rfl, trivial⟩, ?_, by simp only; omega, by simp only; omega⟩
    · show some (Value.slice A5 _ c5) = some (Value.slice A5 _ c5)
      rw [hev2]
      rfl
    · dsimp only
      rw [hev2, hev, ← List.cons_append, List.map_append, Nat.mul_comm 16 x]
      exact HSub.of [1] rfl
  · have g : ((k % 2 : Nat) : Int) ≠ 0 := eqF g
    obtain ⟨d, y, hy0, hy1, hy2⟩ := wwT_odd (ws.take k) x (by rw [htl]; omega)
    rw [← htk] at hy2
    have hy16 := hw16 y (List.mem_of_mem_take hy0)
    (conv => whnf); repeat ((first | refine RngK.mk (by omega) (by omega) ?_ | refine NzK.mk (by omega) ?_ | refine NnK.mk (by omega) ?_ | refine BdK.mk (by omega) (by omega) (by omega) ?_ | refine InsK.lit (by omega) (by omega) ?_ | refine SpK.lit ?_ | refine GrdK.same ?_ | refine GrdK.tf ?_ | refine GrdK.ft ?_ | refine PickK.t ?_ | refine PickK.f ?_); (conv => whnf))
    have hd1 := congrArg List.length hy1
    have hd2 := congrArg List.length hy2
    rw [List.length_append, List.length_singleton] at hd1 hd2
    have e6 : IntKind.u8.wrap (x : Int) = (x : Int) := wrap_u_lt rfl (by show _ < 256; omega)
    have e7 : ior .u8 ((16 * y : Nat) : Int) (x : Int) = ((16 * y + x : Nat) : Int) := by
      rw [ior_u rfl (by show _ < 256; omega) (by show _ < 256; omega), Nat.or_comm]
      have := or_add (x := x) (y := y) (i := 4) (by omega)
      rw [show 16 * y = y * 2 ^ 4 by omega, this]
      omega
    have hcl : (((127 + ws.length) :: wwT (ws.take k)).map vW8)[d.length + 1]? = some (vW8 (16 * y)) := by
      rw [hy1]
      simp
    have hset : (((127 + ws.length) :: wwT (ws.take k)).map vW8).set (d.length + 1) (vW8 (16 * y + x)) = ((127 + ws.length) :: wwT (ws.take (k + 1))).map vW8 := by
      rw [hy1, hy2]
      simp
    have eix : ((1 + (wwT (ws.take k)).length : Nat) : Int) - 1 = ((d.length + 1 : Nat) : Int) := by omega
    rw [eix]
    refine InsK.own hA (by omega) (by omega) ?_
    (conv => whnf); repeat ((first | refine RngK.mk (by omega) (by omega) ?_ | refine NzK.mk (by omega) ?_ | refine NnK.mk (by omega) ?_ | refine BdK.mk (by omega) (by omega) (by omega) ?_ | refine InsK.lit (by omega) (by omega) ?_ | refine SpK.lit ?_ | refine GrdK.same ?_ | refine GrdK.tf ?_ | refine GrdK.ft ?_ | refine PickK.t ?_ | refine PickK.f ?_); (conv => whnf))
    refine LdK.own 0 (d.length + 1) rfl rfl rfl rfl hcl ?_
    (conv => whnf); repeat ((first | refine RngK.mk (by omega) (by omega) ?_ | refine NzK.mk (by omega) ?_ | refine NnK.mk (by omega) ?_ | refine BdK.mk (by omega) (by omega) (by omega) ?_ | refine InsK.lit (by omega) (by omega) ?_ | refine SpK.lit ?_ | refine GrdK.same ?_ | refine GrdK.tf ?_ | refine GrdK.ft ?_ | refine PickK.t ?_ | refine PickK.f ?_); (conv => whnf))
    rw [e6, e7]
    refine InsK.own hA (by omega) (by omega) ?_
    (conv => whnf); repeat ((first | refine RngK.mk (by omega) (by omega) ?_ | refine NzK.mk (by omega) ?_ | refine NnK.mk (by omega) ?_ | refine BdK.mk (by omega) (by omega) (by omega) ?_ | refine InsK.lit (by omega) (by omega) ?_ | refine SpK.lit ?_ | refine GrdK.same ?_ | refine GrdK.tf ?_ | refine GrdK.ft ?_ | refine PickK.t ?_ | refine PickK.f ?_); (conv => whnf))
    refine StK.own 0 (d.length + 1) rfl (hA.ad (by omega)) rfl rfl rfl rfl (by rw [List.length_map, List.length_cons]; omega) ?_
    (conv => whnf); repeat ((first | refine RngK.mk (by omega) (by omega) ?_ | refine NzK.mk (by omega) ?_ | refine NnK.mk (by omega) ?_ | refine BdK.mk (by omega) (by omega) (by omega) ?_ | refine InsK.lit (by omega) (by omega) ?_ | refine SpK.lit ?_ | refine GrdK.same ?_ | refine GrdK.tf ?_ | refine GrdK.ft ?_ | refine PickK.t ?_ | refine PickK.f ?_); (conv => whnf))
    rw [hset]
    refine ⟨(k + 1, A1, c1), ⟨?_, rfl, rfl, rfl, trivial⟩, ?_, by simp only; omega, by simp only; omega⟩
    · show some (Value.slice A1 _ c1) = some (Value.slice A1 _ c1)
      rw [hd1, hd2]
    · dsimp only
      rw [hd1, hd2]
      exact HSub.refl _
theorem hufS_one : hufS [1] = some ([(0, 1), (1, 1)], 1) := by decide +kernel
set_option maxHeartbeats 1000000 in
theorem coded_spec (e u : Addr) : FnS Tryd.prog 13 [] [] (fun w => Laid w (blocks []) e u) (Is (vB true)) := by
  refine FnS.introD Tryd.func13 rfl (by kernel_rfl) rfl fun w hH hL => ?_
  (conv => whnf); repeat ((first | refine RngK.mk (by omega) (by omega) ?_ | refine NzK.mk (by omega) ?_ | refine NnK.mk (by omega) ?_ | refine BdK.mk (by omega) (by omega) (by omega) ?_ | refine InsK.lit (by omega) (by omega) ?_ | refine SpK.lit ?_ | refine GrdK.same ?_ | refine GrdK.tf ?_ | refine GrdK.ft ?_ | refine PickK.t ?_ | refine PickK.f ?_); (conv => whnf))
  refine EffK.litV rfl rfl rfl rfl rfl rfl rfl rfl rfl ?_
  (conv => whnf); repeat ((first | refine RngK.mk (by omega) (by omega) ?_ | refine NzK.mk (by omega) ?_ | refine NnK.mk (by omega) ?_ | refine BdK.mk (by omega) (by omega) (by omega) ?_ | refine InsK.lit (by omega) (by omega) ?_ | refine SpK.lit ?_ | refine GrdK.same ?_ | refine GrdK.tf ?_ | refine GrdK.ft ?_ | refine PickK.t ?_ | refine PickK.f ?_); (conv => whnf))
  intro b1
  (conv => whnf); repeat ((first | refine RngK.mk (by omega) (by omega) ?_ | refine NzK.mk (by omega) ?_ | refine NnK.mk (by omega) ?_ | refine BdK.mk (by omega) (by omega) (by omega) ?_ | refine InsK.lit (by omega) (by omega) ?_ | refine SpK.lit ?_ | refine GrdK.same ?_ | refine GrdK.tf ?_ | refine GrdK.ft ?_ | refine PickK.t ?_ | refine PickK.f ?_); (conv => whnf))
  refine CallK.of [] (writeWeights_spec (some ⟨b1, 0, none⟩) 1 1 [1] rfl (by omega) (by simp)) rfl (fun w hw => Rd.ofOwn hw 0 rfl) ?_
  rintro _ _ ⟨A1, c1, rfl, rfl⟩
  (conv => whnf); repeat ((first | refine RngK.mk (by omega) (by omega) ?_ | refine NzK.mk (by omega) ?_ | refine NnK.mk (by omega) ?_ | refine BdK.mk (by omega) (by omega) (by omega) ?_ | refine InsK.lit (by omega) (by omega) ?_ | refine SpK.lit ?_ | refine GrdK.same ?_ | refine GrdK.tf ?_ | refine GrdK.ft ?_ | refine PickK.t ?_ | refine PickK.f ?_); (conv => whnf))
  refine EffK.litV rfl rfl rfl rfl rfl rfl rfl rfl rfl ?_
  (conv => whnf); repeat ((first | refine RngK.mk (by omega) (by omega) ?_ | refine NzK.mk (by omega) ?_ | refine NnK.mk (by omega) ?_ | refine BdK.mk (by omega) (by omega) (by omega) ?_ | refine InsK.lit (by omega) (by omega) ?_ | refine SpK.lit ?_ | refine GrdK.same ?_ | refine GrdK.tf ?_ | refine GrdK.ft ?_ | refine PickK.t ?_ | refine PickK.f ?_); (conv => whnf))
  intro b2
  (conv => whnf); repeat ((first | refine RngK.mk (by omega) (by omega) ?_ | refine NzK.mk (by omega) ?_ | refine NnK.mk (by omega) ?_ | refine BdK.mk (by omega) (by omega) (by omega) ?_ | refine InsK.lit (by omega) (by omega) ?_ | refine SpK.lit ?_ | refine GrdK.same ?_ | refine GrdK.tf ?_ | refine GrdK.ft ?_ | refine PickK.t ?_ | refine PickK.f ?_); (conv => whnf))
  have hw2 : (wwB [1]).length = 2 := by decide +kernel
  have hwm : (wwB [1]).map vU8 = [vU8 128, vU8 16] := by
    have : wwB [1] = [128, 16] := by decide +kernel
    rw [this]; rfl
  rw [hw2, hwm]
  refine EffK.append 1 (news := [vU8 0, vU8 0, vU8 0, vU8 0]) rfl rfl rfl rfl rfl rfl rfl rfl (Src.ownW (k := 0) rfl rfl) (by intro u hu; simp only [List.mem_cons, List.not_mem_nil, or_false] at hu; rcases hu with rfl | rfl | rfl | rfl <;> rfl) (by simp [maxLen]) (by show (_ + _) * 1 ≤ _; omega) fun A5 c5 => ?_
  (conv => whnf); repeat ((first | refine RngK.mk (by omega) (by omega) ?_ | refine NzK.mk (by omega) ?_ | refine NnK.mk (by omega) ?_ | refine BdK.mk (by omega) (by omega) (by omega) ?_ | refine InsK.lit (by omega) (by omega) ?_ | refine SpK.lit ?_ | refine GrdK.same ?_ | refine GrdK.tf ?_ | refine GrdK.ft ?_ | refine PickK.t ?_ | refine PickK.f ?_); (conv => whnf))
  have hR : huD [128, 16, 0, 0, 0, 0] 0 128 = some ([(0, 1), (1, 1)], 1) := by decide +kernel
  have hrc := rcodesD_spec A5 6 c5 [128, 16, 0, 0, 0, 0] e u 0 (by omega) (by decide) (by decide)
  rw [show ([128, 16, 0, 0, 0, 0] : List UInt8)[0].toNat = 128 by rfl, hR] at hrc
  refine CallK.of [] hrc rfl (fun w hw => ⟨Bytes.ofOwn (bs := [128, 16, 0, 0, 0, 0]) hw 1 rfl, hL.pass hw⟩) ?_
  rintro _ _ ⟨A6, c6, rfl, rfl⟩
  (conv => whnf); repeat ((first | refine RngK.mk (by omega) (by omega) ?_ | refine NzK.mk (by omega) ?_ | refine NnK.mk (by omega) ?_ | refine BdK.mk (by omega) (by omega) (by omega) ?_ | refine InsK.lit (by omega) (by omega) ?_ | refine SpK.lit ?_ | refine GrdK.same ?_ | refine GrdK.tf ?_ | refine GrdK.ft ?_ | refine PickK.t ?_ | refine PickK.f ?_); (conv => whnf))
  exact ⟨[], HSub.nil _, rfl, rfl⟩
end Go.Proofs.YtgdhdkjbilifiaaDoor
