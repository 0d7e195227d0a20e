/- Literals of four streams: the package's door, and the reference. -/
import Derived.Test.YtgdhdkjbilifiaaDoorCdX
namespace Go.Proofs.YtgdhdkjbilifiaaDoor
open Go Go.Sx
set_option maxRecDepth 100000
theorem comb_len {R1 R2 R3 R4 : Option (List UInt8)} {l : List UInt8} {q q4 : Nat} (h : comb R1 R2 R3 R4 = some l) (h1 : ∀ x, R1 = some x → x.length = q) (h2 : ∀ x, R2 = some x → x.length = q) (h3 : ∀ x, R3 = some x → x.length = q) (h4 : ∀ x, R4 = some x → x.length = q4) : l.length = 3 * q + q4 := by
  cases R1 with
  | none => cases h
  | some a =>
    cases R2 with
    | none => cases h
    | some b =>
      cases R3 with
      | none => cases h
      | some c =>
        cases R4 with
        | none => cases h
        | some d =>
          simp only [comb, Option.some.injEq] at h
          subst h
          simp only [List.length_append, h1 a rfl, h2 b rfl, h3 c rfl, h4 d rfl]
          omega
theorem fourI_len {bs : List UInt8} {off total b many : Nat} {T : List Cd} {l : List UInt8} (hm : 9 ≤ many) (h : fourI bs off total b T many = some l) : l.length = many := by
  unfold fourI at h
  split at h
  · cases h
  · unfold fourR at h
    rw [comb_len h (fun x hx => oneI_len hx) (fun x hx => oneI_len hx) (fun x hx => oneI_len hx) (fun x hx => oneI_len hx)]
    omega
set_option maxHeartbeats 1000000 in
theorem zzFour_spec (A : Option Addr) (n c : Nat) (bs : List UInt8) (e u : Addr) (off size many : Nat) (B : Option Addr) (m mc b : Nat) (Tab : List Cd) (hn : n ≤ 16777216) (h0 : 6 ≤ size) (hs : off + size ≤ n) (hT : Tb b Tab) (hm9 : 9 ≤ many) (hmany : many ≤ 1000000) (hm : Tab.length = m) :
    FnS Tryd.prog 48 [.slice A n c, vN off, vN size, vN many, .slice B m mc, vN b] [] (fun w => (Bytes w (blocks []) A n c bs ∧ Laid w (blocks []) e u) ∧ Rd w (blocks []) B m 1 ((Tab.map pk).map vU16))
      (FourOut (fourI bs off size b Tab many)) := by
  refine FnS.introD Tryd.func48 rfl (by kernel_rfl) rfl fun w hH ⟨⟨hp, hL⟩, hB⟩ => ?_
  have h2b : 2 ^ b ≤ 2 ^ 11 := Nat.pow_le_pow_right (by omega) hT.b1
  have htl := hT.len
  have hrf := fun r T => readFour_spec r A n c bs e u off size many T 2048 2048 b (Tab.map pk ++ List.replicate (2048 - (Tab.map pk).length) 0) Tab hn h0 hs hT (by omega) (pad_take Tab htl) hm9 hmany
  obtain ⟨R, hR⟩ : ∃ R, fourI bs off size b Tab many = R := ⟨_, rfl⟩
  rw [hR] at hrf ⊢
  (conv => whnf); repeat ((first | refine RngK.mk (by omega) (by omega) ?_ | refine NzK.mk (by omega) ?_ | refine NnK.mk (by omega) ?_ | refine BdK.mk (by omega) (by omega) (by omega) ?_ | refine InsK.lit (by omega) (by omega) ?_ | refine SpK.lit ?_ | refine GrdK.same ?_ | refine GrdK.tf ?_ | refine GrdK.ft ?_ | refine PickK.t ?_ | refine PickK.f ?_); (conv => whnf))
  refine CallK.of [] (zzReader_spec B m mc (Tab.map pk) b (by rw [List.length_map]; exact hm) (by omega)) rfl (fun w hw => hB.pass hw) ?_
  rintro _ _ ⟨rb, tb, cs, rfl, rfl, h6, h12, h13⟩
  (conv => whnf); repeat ((first | refine RngK.mk (by omega) (by omega) ?_ | refine NzK.mk (by omega) ?_ | refine NnK.mk (by omega) ?_ | refine BdK.mk (by omega) (by omega) (by omega) ?_ | refine InsK.lit (by omega) (by omega) ?_ | refine SpK.lit ?_ | refine GrdK.same ?_ | refine GrdK.tf ?_ | refine GrdK.ft ?_ | refine PickK.t ?_ | refine PickK.f ?_); (conv => whnf))
  refine CallK.of [] (hrf rb (some ⟨tb, 0, none⟩)) rfl (fun w hw => HrPre.made hw 0 1 rfl rfl h6 h12 h13 hp hL) ?_
  cases hRR : R with
  | some l =>
    rintro _ _ ⟨A1, c1, rfl, rfl⟩
    (conv => whnf); repeat ((first | refine RngK.mk (by omega) (by omega) ?_ | refine NzK.mk (by omega) ?_ | refine NnK.mk (by omega) ?_ | refine BdK.mk (by omega) (by omega) (by omega) ?_ | refine InsK.lit (by omega) (by omega) ?_ | refine SpK.lit ?_ | refine GrdK.same ?_ | refine GrdK.tf ?_ | refine GrdK.ft ?_ | refine PickK.t ?_ | refine PickK.f ?_); (conv => whnf))
    exact ⟨_, HSub.of [0] rfl, A1, c1, rfl, rfl⟩
  | none =>
    rintro _ _ ⟨T', x, rfl, rfl⟩
    (conv => whnf); repeat ((first | refine RngK.mk (by omega) (by omega) ?_ | refine NzK.mk (by omega) ?_ | refine NnK.mk (by omega) ?_ | refine BdK.mk (by omega) (by omega) (by omega) ?_ | refine InsK.lit (by omega) (by omega) ?_ | refine SpK.lit ?_ | refine GrdK.same ?_ | refine GrdK.tf ?_ | refine GrdK.ft ?_ | refine PickK.t ?_ | refine PickK.f ?_); (conv => whnf))
    exact ⟨_, HSub.nil _, T', x, rfl, rfl⟩
set_option maxHeartbeats 1000000 in
theorem implFour_spec (A : Option Addr) (n c : Nat) (bs : List UInt8) (e u : Addr) (off size many : Nat) (B : Option Addr) (m mc b : Nat) (Tab : List Cd) (hn : n ≤ 16777216) (h0 : 6 ≤ size) (hs : off + size ≤ n) (hT : Tb b Tab) (hm9 : 9 ≤ many) (hmany : many ≤ 1000000) (hm : Tab.length = m) :
    FnS Tryd.prog 32 [.slice A n c, vN off, vN size, vN many, .slice B m mc, vN b] [] (fun w => (Bytes w (blocks []) A n c bs ∧ Laid w (blocks []) e u) ∧ Rd w (blocks []) B m 2 (cdE Tab))
      (fun v H => ∃ A1 c1, v = .tuple #[.slice A1 (outL (fourI bs off size b Tab many)).length c1, vB (fourI bs off size b Tab many).isSome] ∧ H = [.own A1 (outL (fourI bs off size b Tab many)).length c1 5 1 ((outL (fourI bs off size b Tab many)).map vU8)]) := by
  refine FnS.introD Tryd.func32 rfl (by kernel_rfl) rfl fun w hH ⟨⟨hp, hL⟩, hB⟩ => ?_
  have h2b : 2 ^ b ≤ 2 ^ 11 := Nat.pow_le_pow_right (by omega) hT.b1
  have htl := hT.len
  have hrf := fun T mc' => zzFour_spec A n c bs e u off size many T m mc' b Tab hn h0 hs hT hm9 hmany hm
  obtain ⟨R, hR⟩ : ∃ R, fourI bs off size b Tab many = R := ⟨_, rfl⟩
  rw [hR] at hrf ⊢
  (conv => whnf); repeat ((first | refine RngK.mk (by omega) (by omega) ?_ | refine NzK.mk (by omega) ?_ | refine NnK.mk (by omega) ?_ | refine BdK.mk (by omega) (by omega) (by omega) ?_ | refine InsK.lit (by omega) (by omega) ?_ | refine SpK.lit ?_ | refine GrdK.same ?_ | refine GrdK.tf ?_ | refine GrdK.ft ?_ | refine PickK.t ?_ | refine PickK.f ?_); (conv => whnf))
  refine CallK.of [] (pairsOf_spec B m mc Tab (by omega) hm (fun x hx => by have := hT.mem x hx; have := hT.b1; omega)) rfl (fun w hw => hB.pass hw) ?_
  rintro _ _ ⟨B1, kc, rfl, rfl⟩
  rw [hm]
  (conv => whnf); repeat ((first | refine RngK.mk (by omega) (by omega) ?_ | refine NzK.mk (by omega) ?_ | refine NnK.mk (by omega) ?_ | refine BdK.mk (by omega) (by omega) (by omega) ?_ | refine InsK.lit (by omega) (by omega) ?_ | refine SpK.lit ?_ | refine GrdK.same ?_ | refine GrdK.tf ?_ | refine GrdK.ft ?_ | refine PickK.t ?_ | refine PickK.f ?_); (conv => whnf))
  refine CallK.of [] (hrf B1 kc) rfl (fun w hw => ⟨⟨hp.pass hw, hL.pass hw⟩, Rd.ofOwn hw 0 rfl⟩) ?_
  cases hRR : R with
  | some l =>
    rintro _ _ ⟨A1, c1, rfl, rfl⟩
    have hll := fourI_len hm9 (hR.trans hRR)
    (conv => whnf); repeat ((first | refine RngK.mk (by omega) (by omega) ?_ | refine NzK.mk (by omega) ?_ | refine NnK.mk (by omega) ?_ | refine BdK.mk (by omega) (by omega) (by omega) ?_ | refine InsK.lit (by omega) (by omega) ?_ | refine SpK.lit ?_ | refine GrdK.same ?_ | refine GrdK.tf ?_ | refine GrdK.ft ?_ | refine PickK.t ?_ | refine PickK.f ?_); (conv => whnf))
    refine DrwK.ord (by kernel_rfl) [1, 3, 4, 0, 2, 5, 6] (by kernel_rfl) ?_; conv => whnf
    (conv => whnf); repeat ((first | refine RngK.mk (by omega) (by omega) ?_ | refine NzK.mk (by omega) ?_ | refine NnK.mk (by omega) ?_ | refine BdK.mk (by omega) (by omega) (by omega) ?_ | refine InsK.lit (by omega) (by omega) ?_ | refine SpK.lit ?_ | refine GrdK.same ?_ | refine GrdK.tf ?_ | refine GrdK.ft ?_ | refine PickK.t ?_ | refine PickK.f ?_); (conv => whnf))
    refine ValK.eqNil rfl ?_
    (conv => whnf); repeat ((first | refine RngK.mk (by omega) (by omega) ?_ | refine NzK.mk (by omega) ?_ | refine NnK.mk (by omega) ?_ | refine BdK.mk (by omega) (by omega) (by omega) ?_ | refine InsK.lit (by omega) (by omega) ?_ | refine SpK.lit ?_ | refine GrdK.same ?_ | refine GrdK.tf ?_ | refine GrdK.ft ?_ | refine PickK.t ?_ | refine PickK.f ?_); (conv => whnf))
    refine EffK.lit0 rfl rfl fun b => ?_
    (conv => whnf); repeat ((first | refine RngK.mk (by omega) (by omega) ?_ | refine NzK.mk (by omega) ?_ | refine NnK.mk (by omega) ?_ | refine BdK.mk (by omega) (by omega) (by omega) ?_ | refine InsK.lit (by omega) (by omega) ?_ | refine SpK.lit ?_ | refine GrdK.same ?_ | refine GrdK.tf ?_ | refine GrdK.ft ?_ | refine PickK.t ?_ | refine PickK.f ?_); (conv => whnf))
    refine EffK.append 0 (news := l.map vU8) rfl rfl rfl rfl rfl rfl rfl rfl (Src.ownW (sz := 1) (k := 1) rfl (by simp)) vU8_one (by simp [maxLen]; omega) (by show (_ + _) * 1 ≤ _; omega) fun A5 c5 => ?_
    (conv => whnf); repeat ((first | refine RngK.mk (by omega) (by omega) ?_ | refine NzK.mk (by omega) ?_ | refine NnK.mk (by omega) ?_ | refine BdK.mk (by omega) (by omega) (by omega) ?_ | refine InsK.lit (by omega) (by omega) ?_ | refine SpK.lit ?_ | refine GrdK.same ?_ | refine GrdK.tf ?_ | refine GrdK.ft ?_ | refine PickK.t ?_ | refine PickK.f ?_); (conv => whnf))
    refine ⟨_, HSub.of [0] rfl, A5, c5, ?_, ?_⟩
    · rw [Nat.zero_add]; rfl
    · rw [Nat.zero_add]; rfl
  | none =>
    rintro _ _ ⟨T', x, rfl, rfl⟩
    (conv => whnf); repeat ((first | refine RngK.mk (by omega) (by omega) ?_ | refine NzK.mk (by omega) ?_ | refine NnK.mk (by omega) ?_ | refine BdK.mk (by omega) (by omega) (by omega) ?_ | refine InsK.lit (by omega) (by omega) ?_ | refine SpK.lit ?_ | refine GrdK.same ?_ | refine GrdK.tf ?_ | refine GrdK.ft ?_ | refine PickK.t ?_ | refine PickK.f ?_); (conv => whnf))
    refine DrwK.ord (by kernel_rfl) [1, 3, 4, 0, 2, 5, 6] (by kernel_rfl) ?_; conv => whnf
    (conv => whnf); repeat ((first | refine RngK.mk (by omega) (by omega) ?_ | refine NzK.mk (by omega) ?_ | refine NnK.mk (by omega) ?_ | refine BdK.mk (by omega) (by omega) (by omega) ?_ | refine InsK.lit (by omega) (by omega) ?_ | refine SpK.lit ?_ | refine GrdK.same ?_ | refine GrdK.tf ?_ | refine GrdK.ft ?_ | refine PickK.t ?_ | refine PickK.f ?_); (conv => whnf))
    refine ValK.eqIface rfl ?_
    (conv => whnf); repeat ((first | refine RngK.mk (by omega) (by omega) ?_ | refine NzK.mk (by omega) ?_ | refine NnK.mk (by omega) ?_ | refine BdK.mk (by omega) (by omega) (by omega) ?_ | refine InsK.lit (by omega) (by omega) ?_ | refine SpK.lit ?_ | refine GrdK.same ?_ | refine GrdK.tf ?_ | refine GrdK.ft ?_ | refine PickK.t ?_ | refine PickK.f ?_); (conv => whnf))
    refine EffK.lit0 rfl rfl fun b => ?_
    (conv => whnf); repeat ((first | refine RngK.mk (by omega) (by omega) ?_ | refine NzK.mk (by omega) ?_ | refine NnK.mk (by omega) ?_ | refine BdK.mk (by omega) (by omega) (by omega) ?_ | refine InsK.lit (by omega) (by omega) ?_ | refine SpK.lit ?_ | refine GrdK.same ?_ | refine GrdK.tf ?_ | refine GrdK.ft ?_ | refine PickK.t ?_ | refine PickK.f ?_); (conv => whnf))
    refine EffK.append 0 (news := []) rfl rfl rfl rfl rfl rfl rfl rfl (Src.rd (Rd.nil 1)) (fun u hu => by cases hu) (by simp [maxLen]) (by show (_ + _) * 1 ≤ _; omega) fun A5 c5 => ?_
    (conv => whnf); repeat ((first | refine RngK.mk (by omega) (by omega) ?_ | refine NzK.mk (by omega) ?_ | refine NnK.mk (by omega) ?_ | refine BdK.mk (by omega) (by omega) (by omega) ?_ | refine InsK.lit (by omega) (by omega) ?_ | refine SpK.lit ?_ | refine GrdK.same ?_ | refine GrdK.tf ?_ | refine GrdK.ft ?_ | refine PickK.t ?_ | refine PickK.f ?_); (conv => whnf))
    exact ⟨_, HSub.of [0] rfl, A5, c5, rfl, rfl⟩
/-- the places where four parts of literals end -/
def qrt (many : Nat) : List Nat := [(many + 3) / 4, 2 * ((many + 3) / 4), 3 * ((many + 3) / 4), many]
theorem quarters_spec (many : Nat) (h : many ≤ 1000000) : FnS Tryd.prog 47 [vN many] [] (fun _ => True) (fun v H => ∃ A1, v = .slice A1 4 4 ∧ H = [.own A1 4 4 3 1 ((qrt many).map vN)]) := by
  refine FnS.introD Tryd.func47 rfl (by kernel_rfl) rfl fun w hH _ => ?_
  have eq4 : ((many : Int) + 3).tdiv 4 = (((many + 3) / 4 : Nat) : Int) := by
    rw [Int.tdiv_eq_ediv_of_nonneg (by omega)]; omega
  (conv => whnf); repeat ((first | refine RngK.mk (by omega) (by omega) ?_ | refine NzK.mk (by omega) ?_ | refine NnK.mk (by omega) ?_ | refine BdK.mk (by omega) (by omega) (by omega) ?_ | refine InsK.lit (by omega) (by omega) ?_ | refine SpK.lit ?_ | refine GrdK.same ?_ | refine GrdK.tf ?_ | refine GrdK.ft ?_ | refine PickK.t ?_ | refine PickK.f ?_); (conv => whnf))
  rw [eq4]
  (conv => whnf); repeat ((first | refine RngK.mk (by omega) (by omega) ?_ | refine NzK.mk (by omega) ?_ | refine NnK.mk (by omega) ?_ | refine BdK.mk (by omega) (by omega) (by omega) ?_ | refine InsK.lit (by omega) (by omega) ?_ | refine SpK.lit ?_ | refine GrdK.same ?_ | refine GrdK.tf ?_ | refine GrdK.ft ?_ | refine PickK.t ?_ | refine PickK.f ?_); (conv => whnf))
  refine EffK.litV rfl rfl rfl rfl rfl rfl rfl rfl rfl ?_
  (conv => whnf); repeat ((first | refine RngK.mk (by omega) (by omega) ?_ | refine NzK.mk (by omega) ?_ | refine NnK.mk (by omega) ?_ | refine BdK.mk (by omega) (by omega) (by omega) ?_ | refine InsK.lit (by omega) (by omega) ?_ | refine SpK.lit ?_ | refine GrdK.same ?_ | refine GrdK.tf ?_ | refine GrdK.ft ?_ | refine PickK.t ?_ | refine PickK.f ?_); (conv => whnf))
  intro b1
  (conv => whnf); repeat ((first | refine RngK.mk (by omega) (by omega) ?_ | refine NzK.mk (by omega) ?_ | refine NnK.mk (by omega) ?_ | refine BdK.mk (by omega) (by omega) (by omega) ?_ | refine InsK.lit (by omega) (by omega) ?_ | refine SpK.lit ?_ | refine GrdK.same ?_ | refine GrdK.tf ?_ | refine GrdK.ft ?_ | refine PickK.t ?_ | refine PickK.f ?_); (conv => whnf))
  refine ⟨_, HSub.refl _, some ⟨b1, 0, none⟩, rfl, ?_⟩
  show [Chunk.own _ _ _ _ _ [vI _, vI _, vI _, vI _]] = [Chunk.own _ _ _ _ _ [vI _, vI _, vI _, vI _]]
  rw [show (2 : Int) * (((many + 3) / 4 : Nat) : Int) = ((2 * ((many + 3) / 4) : Nat) : Int) by omega, show (3 : Int) * (((many + 3) / 4 : Nat) : Int) = ((3 * ((many + 3) / 4) : Nat) : Int) by omega]
/-- how many bytes of the rest a stream has -/
def szF (bs : List UInt8) (off total k at_ : Nat) : Nat := if k < 3 then min (off + total - at_) (le2 bs (off + 2 * k)) else off + total - at_
/-- what the reference reads from four streams -/
def rdF (bs : List UInt8) (off total b : Nat) (T : List Cd) : List Nat → Nat → Nat → Nat → List UInt8 → Option (List UInt8)
  | [], _, _, _, acc => some acc
  | to :: r, k, at_, from_, acc =>
    match strS bs at_ (szF bs off total k at_) b T (to - from_) with
    | none => none
    | some (l, p) => if p = 8 * at_ then rdF bs off total b T r (k + 1) (at_ + szF bs off total k at_) to (acc ++ l) else none
theorem strS_pos {bs : List UInt8} {off size b many : Nat} {T : List Cd} {x : List UInt8 × Nat} (h : strS bs off size b T many = some x) : 1 ≤ size := by
  unfold strS at h
  split at h
  · cases h
  · rename_i g
    omega
theorem rdF_step {bs : List UInt8} {off total b k at_ from_ to : Nat} {T : List Cd} {r : List Nat} {acc l : List UInt8} (h : rdF bs off total b T (to :: r) k at_ from_ acc = some l) :
    ∃ x, strS bs at_ (szF bs off total k at_) b T (to - from_) = some (x, 8 * at_) ∧ rdF bs off total b T r (k + 1) (at_ + szF bs off total k at_) to (acc ++ x) = some l := by
  rw [rdF] at h
  split at h
  · cases h
  · rename_i x p hs
    split at h
    · rename_i hp
      subst hp
      exact ⟨x, hs, h⟩
    · cases h
/-- what the reference reads the package reads, too -/
theorem rdF_fourI {bs : List UInt8} {off total b many : Nat} {T : List Cd} {l : List UInt8} (hT : Tb b T) (h : rdF bs off total b T (qrt many) 0 (off + 6) 0 [] = some l) : fourI bs off total b T many = some l := by
  unfold qrt at h
  obtain ⟨q, hq⟩ : ∃ q, (many + 3) / 4 = q := ⟨_, rfl⟩
  rw [hq] at h
  obtain ⟨x1, e1, h⟩ := rdF_step h
  obtain ⟨x2, e2, h⟩ := rdF_step h
  obtain ⟨x3, e3, h⟩ := rdF_step h
  obtain ⟨x4, e4, h⟩ := rdF_step h
  rw [rdF, Option.some.injEq] at h
  have p1 := strS_pos e1
  have p2 := strS_pos e2
  have p3 := strS_pos e3
  have p4 := strS_pos e4
  obtain ⟨s1, hs1⟩ : ∃ s, szF bs off total 0 (off + 6) = s := ⟨_, rfl⟩
  rw [hs1] at e1 e2 e3 e4 p1 p2 p3 p4
  obtain ⟨s2, hs2⟩ : ∃ s, szF bs off total (0 + 1) (off + 6 + s1) = s := ⟨_, rfl⟩
  rw [hs2] at e2 e3 e4 p2 p3 p4
  obtain ⟨s3, hs3⟩ : ∃ s, szF bs off total (0 + 1 + 1) (off + 6 + s1 + s2) = s := ⟨_, rfl⟩
  rw [hs3] at e3 e4 p3 p4
  obtain ⟨s4, hs4⟩ : ∃ s, szF bs off total (0 + 1 + 1 + 1) (off + 6 + s1 + s2 + s3) = s := ⟨_, rfl⟩
  rw [hs4] at e4 p4
  unfold szF at hs1 hs2 hs3 hs4
  rw [if_pos (by omega), show off + 2 * 0 = off by omega] at hs1
  rw [if_pos (by omega), show off + 2 * (0 + 1) = off + 2 by omega] at hs2
  rw [if_pos (by omega), show off + 2 * (0 + 1 + 1) = off + 4 by omega] at hs3
  rw [if_neg (by omega)] at hs4
  obtain ⟨g1, hg1⟩ : ∃ g, le2 bs off = g := ⟨_, rfl⟩
  obtain ⟨g2, hg2⟩ : ∃ g, le2 bs (off + 2) = g := ⟨_, rfl⟩
  obtain ⟨g3, hg3⟩ : ∃ g, le2 bs (off + 4) = g := ⟨_, rfl⟩
  rw [hg1] at hs1
  rw [hg2] at hs2
  rw [hg3] at hs3
  have f1 : s1 = g1 := by omega
  have f2 : s2 = g2 := by omega
  have f3 : s3 = g3 := by omega
  subst f1 f2 f3
  have o1 := strS_oneI hT (by omega) e1
  have o2 := strS_oneI hT (by omega) e2
  have o3 := strS_oneI hT (by omega) e3
  have o4 := strS_oneI hT (by omega) e4
  rw [Nat.sub_zero] at o1
  rw [show 2 * q - q = q by omega] at o2
  rw [show 3 * q - 2 * q = q by omega] at o3
  unfold fourI
  rw [hg1, hg2, hg3, hq, if_neg (by omega)]
  unfold fourR
  rw [show total - 6 - (s1 + s2 + s3) = s4 by omega, o1, o2, o3, o4, ← h]
  simp [comb, List.append_assoc]
structure RF where
  k : Nat
  p : Nat
  f : Nat
  l : List UInt8
  A : Option Addr
  c : Nat
set_option maxHeartbeats 4000000 in
theorem readFourS_spec (A : Option Addr) (n c : Nat) (bs : List UInt8) (off total many : Nat) (B : Option Addr) (m mc b : Nat) (Tab : List Cd) (hn : n ≤ 16777216) (h6 : 6 ≤ total) (hs : off + total ≤ n) (hT : Tb b Tab) (hm9 : 9 ≤ many) (hmany : many ≤ 1000000) (hm : Tab.length = m) :
    FnS Tryd.prog 31 [.slice A n c, vN off, vN total, vN many, .slice B m mc, vN b] [] (fun w => Bytes w (blocks []) A n c bs ∧ Rd w (blocks []) B m 2 (cdE Tab))
      (fun v H => match rdF bs off total b Tab (qrt many) 0 (off + 6) 0 [] with
        | none => v = .tuple #[.slice none 0 0, vB false] ∧ H = []
        | some l => ∃ A1 c1, v = .tuple #[.slice A1 l.length c1, vB true] ∧ H = [.own A1 l.length c1 5 1 (l.map vU8)]) := by
  refine FnS.introD Tryd.func31 rfl (by kernel_rfl) rfl fun w hH ⟨hp, hB⟩ => ?_
  obtain rfl : bs.length = n := hp.len
  have hle := hp.le
  obtain ⟨R, hR⟩ : ∃ R, rdF bs off total b Tab (qrt many) 0 (off + 6) 0 [] = R := ⟨_, rfl⟩
  rw [hR]
  (conv => whnf); repeat ((first | refine RngK.mk (by omega) (by omega) ?_ | refine NzK.mk (by omega) ?_ | refine NnK.mk (by omega) ?_ | refine BdK.mk (by omega) (by omega) (by omega) ?_ | refine InsK.lit (by omega) (by omega) ?_ | refine SpK.lit ?_ | refine GrdK.same ?_ | refine GrdK.tf ?_ | refine GrdK.ft ?_ | refine PickK.t ?_ | refine PickK.f ?_); (conv => whnf))
  refine Wp.cond rfl (fun h => ?_) (fun h => ?_)
  · have h := dT h
    omega
  clear h
  (conv => whnf); repeat ((first | refine RngK.mk (by omega) (by omega) ?_ | refine NzK.mk (by omega) ?_ | refine NnK.mk (by omega) ?_ | refine BdK.mk (by omega) (by omega) (by omega) ?_ | refine InsK.lit (by omega) (by omega) ?_ | refine SpK.lit ?_ | refine GrdK.same ?_ | refine GrdK.tf ?_ | refine GrdK.ft ?_ | refine PickK.t ?_ | refine PickK.f ?_); (conv => whnf))
  refine EffK.lit0 rfl rfl fun bk => ?_
  (conv => whnf); repeat ((first | refine RngK.mk (by omega) (by omega) ?_ | refine NzK.mk (by omega) ?_ | refine NnK.mk (by omega) ?_ | refine BdK.mk (by omega) (by omega) (by omega) ?_ | refine InsK.lit (by omega) (by omega) ?_ | refine SpK.lit ?_ | refine GrdK.same ?_ | refine GrdK.tf ?_ | refine GrdK.ft ?_ | refine PickK.t ?_ | refine PickK.f ?_); (conv => whnf))
  refine CallK.of0 (quarters_spec many hmany) ?_
  rintro _ _ ⟨Aq, rfl, rfl⟩
  (conv => whnf); repeat ((first | refine RngK.mk (by omega) (by omega) ?_ | refine NzK.mk (by omega) ?_ | refine NnK.mk (by omega) ?_ | refine BdK.mk (by omega) (by omega) (by omega) ?_ | refine InsK.lit (by omega) (by omega) ?_ | refine SpK.lit ?_ | refine GrdK.same ?_ | refine GrdK.tf ?_ | refine GrdK.ft ?_ | refine PickK.t ?_ | refine PickK.f ?_); (conv => whnf))
  obtain ⟨q, hq⟩ : ∃ q, (many + 3) / 4 = q := ⟨_, rfl⟩
  have hqr : qrt many = [q, 2 * q, 3 * q, many] := by unfold qrt; rw [hq]
  refine Wp.loop (fun s : RF => [(0, .slice A bs.length c), (1, vN off), (2, vN total), (4, .slice B m mc), (5, vN b), (14, .slice s.A s.l.length s.c), (15, vN s.p), (16, vN s.f), (28, .slice Aq 4 4), (29, vN 4), (30, vN s.k)])
    (fun s => [.own s.A s.l.length s.c 5 1 (s.l.map vU8), .own Aq 4 4 3 1 ((qrt many).map vN)])
    (fun s => s.k ≤ 4 ∧ s.p ≤ off + total ∧ off + 6 ≤ s.p ∧ s.f = (if s.k ≤ 3 then s.k * q else many) ∧ s.l.length = s.f ∧ rdF bs off total b Tab ((qrt many).drop s.k) s.k s.p s.f s.l = R) (fun s => 4 - s.k) ⟨0, off + 6, 0, [], some ⟨bk, 0, none⟩, 0⟩
    ⟨rfl, rfl, rfl, rfl, rfl, rfl, rfl, rfl, rfl, rfl, rfl, trivial⟩ (HSub.of [1, 0] rfl) ⟨Nat.zero_le _, by show off + 6 ≤ _; omega, Nat.le_refl _, by show 0 = if 0 ≤ 3 then 0 * q else many; rw [if_pos (by omega), Nat.zero_mul], rfl, hR⟩ fun ⟨k, p, f, l, A1, c1⟩ ⟨hk, hp1, hp2, hf, hl, hR⟩ => ?_
  dsimp only at hk hp1 hp2 hf hl hR ⊢
  (conv => whnf); repeat ((first | refine RngK.mk (by omega) (by omega) ?_ | refine NzK.mk (by omega) ?_ | refine NnK.mk (by omega) ?_ | refine BdK.mk (by omega) (by omega) (by omega) ?_ | refine InsK.lit (by omega) (by omega) ?_ | refine SpK.lit ?_ | refine GrdK.same ?_ | refine GrdK.tf ?_ | refine GrdK.ft ?_ | refine PickK.t ?_ | refine PickK.f ?_); (conv => whnf))
  refine Wp.own 1 rfl fun hAq => ?_
  refine Wp.cond rfl (fun h => ?_) (fun h => ?_)
  rotate_left
  · have h := dF h
    obtain rfl : k = 4 := by omega
    rw [show (qrt many).drop 4 = [] from rfl, rdF] at hR
    subst hR
    (conv => whnf); repeat ((first | refine RngK.mk (by omega) (by omega) ?_ | refine NzK.mk (by omega) ?_ | refine NnK.mk (by omega) ?_ | refine BdK.mk (by omega) (by omega) (by omega) ?_ | refine InsK.lit (by omega) (by omega) ?_ | refine SpK.lit ?_ | refine GrdK.same ?_ | refine GrdK.tf ?_ | refine GrdK.ft ?_ | refine PickK.t ?_ | refine PickK.f ?_); (conv => whnf))
    exact ⟨_, HSub.of [0] rfl, A1, c1, rfl, rfl⟩
  have h := dT h
  have hk3 : k ≤ 3 := by omega
  rw [if_pos hk3] at hf
  obtain ⟨to, hto, hto1, hto2, hto3, hdr⟩ : ∃ to, ((qrt many).map vN)[k]? = some (vN to) ∧ f ≤ to ∧ to ≤ many ∧ to = (if k + 1 ≤ 3 then (k + 1) * q else many) ∧ (qrt many).drop k = to :: (qrt many).drop (k + 1) := by
    rw [hqr]
    rcases (show k = 0 ∨ k = 1 ∨ k = 2 ∨ k = 3 by omega) with rfl | rfl | rfl | rfl
    · exact ⟨q, rfl, by omega, by omega, by rw [if_pos (by omega)]; omega, rfl⟩
    · exact ⟨2 * q, rfl, by omega, by omega, by rw [if_pos (by omega)], rfl⟩
    · exact ⟨3 * q, rfl, by omega, by omega, by rw [if_pos (by omega)], rfl⟩
    · exact ⟨many, rfl, by omega, by omega, by rw [if_neg (by omega)], rfl⟩
  rw [hdr, rdF] at hR
  have erest : (off : Int) + (total : Int) - (p : Int) = ((off + total - p : Nat) : Int) := by omega
  (conv => whnf); repeat ((first | refine RngK.mk (by omega) (by omega) ?_ | refine NzK.mk (by omega) ?_ | refine NnK.mk (by omega) ?_ | refine BdK.mk (by omega) (by omega) (by omega) ?_ | refine InsK.lit (by omega) (by omega) ?_ | refine SpK.lit ?_ | refine GrdK.same ?_ | refine GrdK.tf ?_ | refine GrdK.ft ?_ | refine PickK.t ?_ | refine PickK.f ?_); (conv => whnf))
  refine InsK.own hAq (by omega) (by omega) ?_
  (conv => whnf); repeat ((first | refine RngK.mk (by omega) (by omega) ?_ | refine NzK.mk (by omega) ?_ | refine NnK.mk (by omega) ?_ | refine BdK.mk (by omega) (by omega) (by omega) ?_ | refine InsK.lit (by omega) (by omega) ?_ | refine SpK.lit ?_ | refine GrdK.same ?_ | refine GrdK.tf ?_ | refine GrdK.ft ?_ | refine PickK.t ?_ | refine PickK.f ?_); (conv => whnf))
  refine LdK.own 1 k rfl rfl rfl rfl hto ?_
  (conv => whnf); repeat ((first | refine RngK.mk (by omega) (by omega) ?_ | refine NzK.mk (by omega) ?_ | refine NnK.mk (by omega) ?_ | refine BdK.mk (by omega) (by omega) (by omega) ?_ | refine InsK.lit (by omega) (by omega) ?_ | refine SpK.lit ?_ | refine GrdK.same ?_ | refine GrdK.tf ?_ | refine GrdK.ft ?_ | refine PickK.t ?_ | refine PickK.f ?_); (conv => whnf))
  rw [erest]
  obtain ⟨sz, hsz⟩ : ∃ sz, szF bs off total k p = sz := ⟨_, rfl⟩
  rw [hsz] at hR
  refine Wp.cut (fun _ : Unit => [(0, .slice A bs.length c), (1, vN off), (2, vN total), (4, .slice B m mc), (5, vN b), (14, .slice A1 l.length c1), (15, vN p), (16, vN f), (17, vN k), (18, vN to), (19, vN sz), (28, .slice Aq 4 4), (29, vN 4), (30, vN k)])
    (fun _ => [.own A1 l.length c1 5 1 (l.map vU8), .own Aq 4 4 3 1 ((qrt many).map vN)]) (fun _ => True) ?_ fun _ _ => ?_
  · refine Wp.cond rfl (fun g => ?_) (fun g => ?_)
    · have g := dT g
      (conv => whnf); repeat ((first | refine RngK.mk (by omega) (by omega) ?_ | refine NzK.mk (by omega) ?_ | refine NnK.mk (by omega) ?_ | refine BdK.mk (by omega) (by omega) (by omega) ?_ | refine InsK.lit (by omega) (by omega) ?_ | refine SpK.lit ?_ | refine GrdK.same ?_ | refine GrdK.tf ?_ | refine GrdK.ft ?_ | refine PickK.t ?_ | refine PickK.f ?_); (conv => whnf))
      refine Bytes.sp hp (by omega) ?_
      (conv => whnf); repeat ((first | refine RngK.mk (by omega) (by omega) ?_ | refine NzK.mk (by omega) ?_ | refine NnK.mk (by omega) ?_ | refine BdK.mk (by omega) (by omega) (by omega) ?_ | refine InsK.lit (by omega) (by omega) ?_ | refine SpK.lit ?_ | refine GrdK.same ?_ | refine GrdK.tf ?_ | refine GrdK.ft ?_ | refine PickK.t ?_ | refine PickK.f ?_); (conv => whnf))
      have en : ((off : Int) + 2 * (k : Int) + 2).toNat - ((off : Int) + 2 * (k : Int)).toNat = 2 := by omega
      have eo : ((off : Int) + 2 * (k : Int)).toNat = off + 2 * k := by omega
      rw [en, eo]
      have hnl := le2_lt bs (off + 2 * k)
      unfold le2 at hnl
      refine CallK.of [] (number_spec (cutA A (off + 2 * k) c 1) 2 (c - (off + 2 * k)) ((bs.drop (off + 2 * k)).take 2) (by omega)) rfl (fun w hw => ((hp.cut (l := off + 2 * k) (q := 2) (by omega)).pass hw).rd) ?_
      rintro _ _ ⟨rfl, rfl⟩
      have hsz2 : sz = min (off + total - p) (num ((bs.drop (off + 2 * k)).take 2)) := by
        rw [← hsz, szF, if_pos (by omega)]
        rfl
      obtain ⟨N, hN⟩ : ∃ N, num ((bs.drop (off + 2 * k)).take 2) = N := ⟨_, rfl⟩
      rw [hN] at hnl hsz2 ⊢
      have eN : ((UInt64.ofNat N).toNat : Int) = (N : Int) := by rw [UInt64.toNat_ofNat_of_lt' (by simp [UInt64.size]; omega)]
      have emin : (if (N : Int) < ((off + total - p : Nat) : Int) then (N : Int) else ((off + total - p : Nat) : Int)) = ((sz : Nat) : Int) := by
        rw [hsz2]
        split <;> omega
      unfold vU64
      rw [eN]
      (conv => whnf); repeat ((first | refine RngK.mk (by omega) (by omega) ?_ | refine NzK.mk (by omega) ?_ | refine NnK.mk (by omega) ?_ | refine BdK.mk (by omega) (by omega) (by omega) ?_ | refine InsK.lit (by omega) (by omega) ?_ | refine SpK.lit ?_ | refine GrdK.same ?_ | refine GrdK.tf ?_ | refine GrdK.ft ?_ | refine PickK.t ?_ | refine PickK.f ?_); (conv => whnf))
      rw [emin]
      exact ⟨(), ⟨rfl, rfl, rfl, rfl, rfl, rfl, rfl, rfl, rfl, rfl, rfl, rfl, rfl, rfl, trivial⟩, HSub.refl _, trivial⟩
    · have g := dF g
      have hsz2 : sz = off + total - p := by rw [← hsz, szF, if_neg (by omega)]
      subst hsz2
      (conv => whnf); repeat ((first | refine RngK.mk (by omega) (by omega) ?_ | refine NzK.mk (by omega) ?_ | refine NnK.mk (by omega) ?_ | refine BdK.mk (by omega) (by omega) (by omega) ?_ | refine InsK.lit (by omega) (by omega) ?_ | refine SpK.lit ?_ | refine GrdK.same ?_ | refine GrdK.tf ?_ | refine GrdK.ft ?_ | refine PickK.t ?_ | refine PickK.f ?_); (conv => whnf))
      exact ⟨(), ⟨rfl, rfl, rfl, rfl, rfl, rfl, rfl, rfl, rfl, rfl, rfl, rfl, rfl, rfl, trivial⟩, HSub.refl _, trivial⟩
  have hszle : p + sz ≤ off + total := by
    rw [← hsz, szF]
    split <;> omega
  have etf : (to : Int) - (f : Int) = ((to - f : Nat) : Int) := by omega
  (conv => whnf); repeat ((first | refine RngK.mk (by omega) (by omega) ?_ | refine NzK.mk (by omega) ?_ | refine NnK.mk (by omega) ?_ | refine BdK.mk (by omega) (by omega) (by omega) ?_ | refine InsK.lit (by omega) (by omega) ?_ | refine SpK.lit ?_ | refine GrdK.same ?_ | refine GrdK.tf ?_ | refine GrdK.ft ?_ | refine PickK.t ?_ | refine PickK.f ?_); (conv => whnf))
  rw [etf]
  refine CallK.of [] (readStream_spec A bs.length c bs p sz (to - f) B m mc b Tab hn (by omega) hT (by omega) hm) rfl (fun w hw => ⟨hp.pass hw, hB.pass hw⟩) ?_
  cases hS : strS bs p sz b Tab (to - f) with
  | none =>
    rw [hS] at hR
    subst hR
    rintro _ _ ⟨rfl, rfl⟩
    (conv => whnf); repeat ((first | refine RngK.mk (by omega) (by omega) ?_ | refine NzK.mk (by omega) ?_ | refine NnK.mk (by omega) ?_ | refine BdK.mk (by omega) (by omega) (by omega) ?_ | refine InsK.lit (by omega) (by omega) ?_ | refine SpK.lit ?_ | refine GrdK.same ?_ | refine GrdK.tf ?_ | refine GrdK.ft ?_ | refine PickK.t ?_ | refine PickK.f ?_); (conv => whnf))
    refine Wp.cond rfl (fun _ => ?_) (fun h => by cases h)
    (conv => whnf); repeat ((first | refine RngK.mk (by omega) (by omega) ?_ | refine NzK.mk (by omega) ?_ | refine NnK.mk (by omega) ?_ | refine BdK.mk (by omega) (by omega) (by omega) ?_ | refine InsK.lit (by omega) (by omega) ?_ | refine SpK.lit ?_ | refine GrdK.same ?_ | refine GrdK.tf ?_ | refine GrdK.ft ?_ | refine PickK.t ?_ | refine PickK.f ?_); (conv => whnf))
    exact ⟨[], HSub.nil _, rfl, rfl⟩
  | some x =>
    obtain ⟨l2, p2⟩ := x
    rw [hS] at hR
    have hll := strS_len hS
    rintro _ _ ⟨A3, c3, rfl, rfl⟩
    dsimp only at hR
    by_cases hq2 : p2 = 8 * p
    · rw [if_pos hq2] at hR
      rw [decide_eq_true hq2]
      (conv => whnf); repeat ((first | refine RngK.mk (by omega) (by omega) ?_ | refine NzK.mk (by omega) ?_ | refine NnK.mk (by omega) ?_ | refine BdK.mk (by omega) (by omega) (by omega) ?_ | refine InsK.lit (by omega) (by omega) ?_ | refine SpK.lit ?_ | refine GrdK.same ?_ | refine GrdK.tf ?_ | refine GrdK.ft ?_ | refine PickK.t ?_ | refine PickK.f ?_); (conv => whnf))
      refine Wp.cond rfl (fun h => by cases h) (fun _ => ?_)
      (conv => whnf); repeat ((first | refine RngK.mk (by omega) (by omega) ?_ | refine NzK.mk (by omega) ?_ | refine NnK.mk (by omega) ?_ | refine BdK.mk (by omega) (by omega) (by omega) ?_ | refine InsK.lit (by omega) (by omega) ?_ | refine SpK.lit ?_ | refine GrdK.same ?_ | refine GrdK.tf ?_ | refine GrdK.ft ?_ | refine PickK.t ?_ | refine PickK.f ?_); (conv => whnf))
      refine EffK.append 1 (news := l2.map vU8) rfl rfl rfl rfl rfl rfl rfl rfl (Src.ownW (k := 0) (sz := 1) rfl (by simp)) vU8_one (by simp [maxLen]; omega) (by show (_ + _) * 1 ≤ _; omega) fun A7 c7 => ?_
      (conv => whnf); repeat ((first | refine RngK.mk (by omega) (by omega) ?_ | refine NzK.mk (by omega) ?_ | refine NnK.mk (by omega) ?_ | refine BdK.mk (by omega) (by omega) (by omega) ?_ | refine InsK.lit (by omega) (by omega) ?_ | refine SpK.lit ?_ | refine GrdK.same ?_ | refine GrdK.tf ?_ | refine GrdK.ft ?_ | refine PickK.t ?_ | refine PickK.f ?_); (conv => whnf))
      refine ⟨⟨k + 1, p + sz, to, l ++ l2, A7, c7⟩, ⟨rfl, rfl, rfl, rfl, rfl, ?_, rfl, rfl, rfl, rfl, rfl, trivial⟩, ?_, ⟨by show k + 1 ≤ 4; omega, hszle, by show off + 6 ≤ p + sz; omega, hto3, ?_, hR⟩, by show 4 - (k + 1) < 4 - k; omega⟩
      · show some (Value.slice A7 _ c7) = some (Value.slice A7 (l ++ l2).length c7)
        rw [List.length_append]
      · dsimp only
        rw [List.length_append, List.map_append]
        exact HSub.of [1, 1] rfl
      · show (l ++ l2).length = to
        rw [List.length_append]
        omega
    · rw [if_neg hq2] at hR
      subst hR
      rw [decide_eq_false hq2]
      (conv => whnf); repeat ((first | refine RngK.mk (by omega) (by omega) ?_ | refine NzK.mk (by omega) ?_ | refine NnK.mk (by omega) ?_ | refine BdK.mk (by omega) (by omega) (by omega) ?_ | refine InsK.lit (by omega) (by omega) ?_ | refine SpK.lit ?_ | refine GrdK.same ?_ | refine GrdK.tf ?_ | refine GrdK.ft ?_ | refine PickK.t ?_ | refine PickK.f ?_); (conv => whnf))
      refine Wp.cond rfl (fun _ => ?_) (fun h => by cases h)
      (conv => whnf); repeat ((first | refine RngK.mk (by omega) (by omega) ?_ | refine NzK.mk (by omega) ?_ | refine NnK.mk (by omega) ?_ | refine BdK.mk (by omega) (by omega) (by omega) ?_ | refine InsK.lit (by omega) (by omega) ?_ | refine SpK.lit ?_ | refine GrdK.same ?_ | refine GrdK.tf ?_ | refine GrdK.ft ?_ | refine PickK.t ?_ | refine PickK.f ?_); (conv => whnf))
      exact ⟨[], HSub.nil _, rfl, rfl⟩
end Go.Proofs.YtgdhdkjbilifiaaDoor
