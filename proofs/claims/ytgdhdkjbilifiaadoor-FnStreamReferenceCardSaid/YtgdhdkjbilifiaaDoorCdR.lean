/- Literals of one stream: the reference. -/
import Derived.Test.YtgdhdkjbilifiaaDoorCdQ
namespace Go.Proofs.YtgdhdkjbilifiaaDoor
open Go Go.Sx
set_option maxRecDepth 100000
/-- what the reference reads from one stream -/
def strS (bs : List UInt8) (off size b : Nat) (T : List Cd) (many : Nat) : Option (List UInt8 × Nat) :=
  if size < 1 ∨ (bs.getD (off + size - 1) 0).toNat = 0 then none else litS (num bs) off b T many (8 * (off + size - 1) + wd (bs.getD (off + size - 1) 0).toNat - 1) []
set_option maxHeartbeats 4000000 in
theorem readStream_spec (A : Option Addr) (n c : Nat) (bs : List UInt8) (off size many : Nat) (B : Option Addr) (m mc b : Nat) (Tab : List Cd) (hn : n ≤ 16777216) (hs : off + size ≤ n) (hT : Tb b Tab) (hmany : many ≤ 1000000) (hm : Tab.length = m) :
    FnS Tryd.prog 26 [.slice A n c, vN off, vN size, vN many, .slice B m mc, vN b] [] (fun w => Bytes w (blocks []) A n c bs ∧ Rd w (blocks []) B m 2 (cdE Tab))
      (fun v H => match strS bs off size b Tab many with
        | none => v = .tuple #[.slice none 0 0, vB false] ∧ H = []
        | some (l, p) => ∃ A1 c1, v = .tuple #[.slice A1 l.length c1, vB (decide (p = 8 * off))] ∧ H = [.own A1 l.length c1 5 1 (l.map vU8)]) := by
  refine FnS.introD Tryd.func26 rfl (by kernel_rfl) rfl fun w hH ⟨hp, hB⟩ => ?_
  obtain rfl : bs.length = n := hp.len
  have hb0 := hT.b0
  have hb1 := hT.b1
  have htl := hT.len
  have h2b : 2 ^ b ≤ 2 ^ 11 := Nat.pow_le_pow_right (by omega) hb1
  obtain ⟨R, hR⟩ : ∃ R, strS bs off size b Tab many = R := ⟨_, rfl⟩
  rw [hR]
  unfold strS at hR
  (conv => whnf); repeat ((first | refine RngK.mk (by omega) (by omega) ?_ | refine NzK.mk (by omega) ?_ | refine NnK.mk (by omega) ?_ | refine BdK.mk (by omega) (by omega) (by omega) ?_ | refine InsK.lit (by omega) (by omega) ?_ | refine SpK.lit ?_ | refine GrdK.same ?_ | refine GrdK.tf ?_ | refine GrdK.ft ?_ | refine PickK.t ?_ | refine PickK.f ?_); (conv => whnf))
  by_cases h1 : size < 1
  · rw [if_pos (.inl h1)] at hR
    subst hR
    rw [decide_eq_true (show (size : Int) < 1 by omega)]
    (conv => whnf); repeat ((first | refine RngK.mk (by omega) (by omega) ?_ | refine NzK.mk (by omega) ?_ | refine NnK.mk (by omega) ?_ | refine BdK.mk (by omega) (by omega) (by omega) ?_ | refine InsK.lit (by omega) (by omega) ?_ | refine SpK.lit ?_ | refine GrdK.same ?_ | refine GrdK.tf ?_ | refine GrdK.ft ?_ | refine PickK.t ?_ | refine PickK.f ?_); (conv => whnf))
    refine Wp.cond rfl (fun _ => ?_) (fun h => by cases h)
    (conv => whnf); repeat ((first | refine RngK.mk (by omega) (by omega) ?_ | refine NzK.mk (by omega) ?_ | refine NnK.mk (by omega) ?_ | refine BdK.mk (by omega) (by omega) (by omega) ?_ | refine InsK.lit (by omega) (by omega) ?_ | refine SpK.lit ?_ | refine GrdK.same ?_ | refine GrdK.tf ?_ | refine GrdK.ft ?_ | refine PickK.t ?_ | refine PickK.f ?_); (conv => whnf))
    exact ⟨[], HSub.nil _, rfl, rfl⟩
  rw [decide_eq_false (show ¬ (size : Int) < 1 by omega)]
  have hlast : off + size - 1 < bs.length := by omega
  have hgd : bs.getD (off + size - 1) 0 = bs[off + size - 1] := by simp [hlast]
  rw [hgd] at hR
  have e1 : (off : Int) + (size : Int) - 1 = ((off + size - 1 : Nat) : Int) := by omega
  obtain ⟨o, hoe⟩ : ∃ o, off + size - 1 = o := ⟨_, rfl⟩
  have hom : o < bs.length := by omega
  have hR : (if size < 1 ∨ bs[o].toNat = 0 then none else litS (num bs) off b Tab many (8 * o + wd bs[o].toNat - 1) []) = R := by
    subst hoe; exact hR
  rw [hoe] at e1
  (conv => whnf); repeat ((first | refine RngK.mk (by omega) (by omega) ?_ | refine NzK.mk (by omega) ?_ | refine NnK.mk (by omega) ?_ | refine BdK.mk (by omega) (by omega) (by omega) ?_ | refine InsK.lit (by omega) (by omega) ?_ | refine SpK.lit ?_ | refine GrdK.same ?_ | refine GrdK.tf ?_ | refine GrdK.ft ?_ | refine PickK.t ?_ | refine PickK.f ?_); (conv => whnf))
  rw [e1]
  refine InsK.rd hp.rd (by omega) (by omega) ?_
  (conv => whnf); repeat ((first | refine RngK.mk (by omega) (by omega) ?_ | refine NzK.mk (by omega) ?_ | refine NnK.mk (by omega) ?_ | refine BdK.mk (by omega) (by omega) (by omega) ?_ | refine InsK.lit (by omega) (by omega) ?_ | refine SpK.lit ?_ | refine GrdK.same ?_ | refine GrdK.tf ?_ | refine GrdK.ft ?_ | refine PickK.t ?_ | refine PickK.f ?_); (conv => whnf))
  refine LdK.rd (v := vU8 bs[o]) hp.rd o rfl rfl rfl (by simp [hom]) ?_
  (conv => whnf); repeat ((first | refine RngK.mk (by omega) (by omega) ?_ | refine NzK.mk (by omega) ?_ | refine NnK.mk (by omega) ?_ | refine BdK.mk (by omega) (by omega) (by omega) ?_ | refine InsK.lit (by omega) (by omega) ?_ | refine SpK.lit ?_ | refine GrdK.same ?_ | refine GrdK.tf ?_ | refine GrdK.ft ?_ | refine PickK.t ?_ | refine PickK.f ?_); (conv => whnf))
  refine Wp.cond rfl (fun h => ?_) (fun h => ?_)
  · have h := eqT h
    rw [if_pos (.inr (by omega))] at hR
    subst hR
    (conv => whnf); repeat ((first | refine RngK.mk (by omega) (by omega) ?_ | refine NzK.mk (by omega) ?_ | refine NnK.mk (by omega) ?_ | refine BdK.mk (by omega) (by omega) (by omega) ?_ | refine InsK.lit (by omega) (by omega) ?_ | refine SpK.lit ?_ | refine GrdK.same ?_ | refine GrdK.tf ?_ | refine GrdK.ft ?_ | refine PickK.t ?_ | refine PickK.f ?_); (conv => whnf))
    exact ⟨[], HSub.nil _, rfl, rfl⟩
  have h := eqF h
  have g : 0 < bs[o].toNat := by omega
  rw [if_neg (by omega)] at hR
  have hw8 : wd bs[o].toNat ≤ 8 := wd_lt (by have := bs[o].toNat_lt; omega)
  have hwp := wd_pos g
  (conv => whnf); repeat ((first | refine RngK.mk (by omega) (by omega) ?_ | refine NzK.mk (by omega) ?_ | refine NnK.mk (by omega) ?_ | refine BdK.mk (by omega) (by omega) (by omega) ?_ | refine InsK.lit (by omega) (by omega) ?_ | refine SpK.lit ?_ | refine GrdK.same ?_ | refine GrdK.tf ?_ | refine GrdK.ft ?_ | refine PickK.t ?_ | refine PickK.f ?_); (conv => whnf))
  rw [e1]
  refine CallK.of [] (topOf_spec A bs.length c o bs hom hn) rfl (fun w hw => hp.pass hw) ?_
  rintro _ _ ⟨rfl, rfl⟩
  rw [if_neg (by omega)]
  obtain ⟨p0, hp0⟩ : ∃ p0, 8 * o + wd bs[o].toNat - 1 = p0 := ⟨_, rfl⟩
  rw [hp0] at hR ⊢
  have hp1 : 8 * off ≤ p0 := by omega
  have hp2 : p0 ≤ 8 * bs.length := by omega
  clear hp0 hw8 hwp h g
  (conv => whnf); repeat ((first | refine RngK.mk (by omega) (by omega) ?_ | refine NzK.mk (by omega) ?_ | refine NnK.mk (by omega) ?_ | refine BdK.mk (by omega) (by omega) (by omega) ?_ | refine InsK.lit (by omega) (by omega) ?_ | refine SpK.lit ?_ | refine GrdK.same ?_ | refine GrdK.tf ?_ | refine GrdK.ft ?_ | refine PickK.t ?_ | refine PickK.f ?_); (conv => whnf))
  refine EffK.lit0 rfl rfl fun bk => ?_
  (conv => whnf); repeat ((first | refine RngK.mk (by omega) (by omega) ?_ | refine NzK.mk (by omega) ?_ | refine NnK.mk (by omega) ?_ | refine BdK.mk (by omega) (by omega) (by omega) ?_ | refine InsK.lit (by omega) (by omega) ?_ | refine SpK.lit ?_ | refine GrdK.same ?_ | refine GrdK.tf ?_ | refine GrdK.ft ?_ | refine PickK.t ?_ | refine PickK.f ?_); (conv => whnf))
  refine Wp.cutEx 0 (fun t : List UInt8 × Option Addr × Nat × Nat => [(1, vN off), (14, vN t.2.2.2), (15, .slice t.2.1 t.1.length t.2.2.1)]) (fun t => [.own t.2.1 t.1.length t.2.2.1 5 1 (t.1.map vU8)]) (fun t => R = some (t.1, t.2.2.2) ∧ t.2.2.2 ≤ 8 * bs.length) ?_ fun ⟨l, A1, c1, p⟩ ⟨hl, hpl⟩ => ?_
  rotate_left
  · dsimp only at hl hpl ⊢
    subst hl
    (conv => whnf); repeat ((first | refine RngK.mk (by omega) (by omega) ?_ | refine NzK.mk (by omega) ?_ | refine NnK.mk (by omega) ?_ | refine BdK.mk (by omega) (by omega) (by omega) ?_ | refine InsK.lit (by omega) (by omega) ?_ | refine SpK.lit ?_ | refine GrdK.same ?_ | refine GrdK.tf ?_ | refine GrdK.ft ?_ | refine PickK.t ?_ | refine PickK.f ?_); (conv => whnf))
    have : (((p : Nat) : Int) == 8 * ((off : Nat) : Int)) = decide (p = 8 * off) := by
      by_cases hd : p = 8 * off
      · rw [decide_eq_true hd]; simp; omega
      · rw [decide_eq_false hd]; simp; omega
    rw [this]
    exact ⟨_, HSub.refl _, A1, c1, rfl, rfl⟩
  refine Wp.loop (fun t : Nat × List UInt8 × Option Addr × Nat × Nat => [(0, .slice A bs.length c), (1, vN off), (4, .slice B m mc), (5, vN b), (14, vN t.2.2.2.2), (15, .slice t.2.2.1 t.2.1.length t.2.2.2.1), (37, vN many), (38, vN t.1)])
    (fun t => [.own t.2.2.1 t.2.1.length t.2.2.2.1 5 1 (t.2.1.map vU8)])
    (fun t => t.1 ≤ many ∧ t.2.1.length = t.1 ∧ 8 * off ≤ t.2.2.2.2 ∧ t.2.2.2.2 ≤ 8 * bs.length ∧ litS (num bs) off b Tab (many - t.1) t.2.2.2.2 t.2.1 = R) (fun t => many - t.1) (0, [], some ⟨bk, 0, none⟩, 0, p0)
    ⟨rfl, rfl, rfl, rfl, rfl, rfl, rfl, rfl, trivial⟩ (HSub.refl _) ⟨Nat.zero_le _, rfl, hp1, hp2, hR⟩ fun ⟨i, l, A1, c1, p⟩ ⟨hi, hli, hp1, hp2, hR⟩ => ?_
  dsimp only at hi hli hp1 hp2 hR ⊢
  (conv => whnf); repeat ((first | refine RngK.mk (by omega) (by omega) ?_ | refine NzK.mk (by omega) ?_ | refine NnK.mk (by omega) ?_ | refine BdK.mk (by omega) (by omega) (by omega) ?_ | refine InsK.lit (by omega) (by omega) ?_ | refine SpK.lit ?_ | refine GrdK.same ?_ | refine GrdK.tf ?_ | refine GrdK.ft ?_ | refine PickK.t ?_ | refine PickK.f ?_); (conv => whnf))
  refine Wp.cond rfl (fun h => ?_) (fun h => ?_)
  rotate_left
  · have h := dF h
    have : i = many := by omega
    subst this
    rw [Nat.sub_self, litS] at hR
    (conv => whnf); repeat ((first | refine RngK.mk (by omega) (by omega) ?_ | refine NzK.mk (by omega) ?_ | refine NnK.mk (by omega) ?_ | refine BdK.mk (by omega) (by omega) (by omega) ?_ | refine InsK.lit (by omega) (by omega) ?_ | refine SpK.lit ?_ | refine GrdK.same ?_ | refine GrdK.tf ?_ | refine GrdK.ft ?_ | refine PickK.t ?_ | refine PickK.f ?_); (conv => whnf))
    exact ⟨(l, A1, c1, p), ⟨rfl, rfl, rfl, trivial⟩, HSub.refl _, hR.symm, hp2⟩
  have h := dT h
  obtain ⟨d, hd⟩ : ∃ d, many - i = d + 1 := ⟨many - i - 1, by omega⟩
  rw [hd, litS] at hR
  (conv => whnf); repeat ((first | refine RngK.mk (by omega) (by omega) ?_ | refine NzK.mk (by omega) ?_ | refine NnK.mk (by omega) ?_ | refine BdK.mk (by omega) (by omega) (by omega) ?_ | refine InsK.lit (by omega) (by omega) ?_ | refine SpK.lit ?_ | refine GrdK.same ?_ | refine GrdK.tf ?_ | refine GrdK.ft ?_ | refine PickK.t ?_ | refine PickK.f ?_); (conv => whnf))
  have emin : (if (p : Int) - 8 * (off : Int) < (b : Int) then (p : Int) - 8 * (off : Int) else (b : Int)) = ((min b (p - 8 * off) : Nat) : Int) := by
    split <;> omega
  rw [emin]
  obtain ⟨k, hk⟩ : ∃ k, min b (p - 8 * off) = k := ⟨_, rfl⟩
  rw [hk] at hR ⊢
  have hkb : k ≤ b := by omega
  have hkp : 8 * off + k ≤ p := by omega
  have epk : (p : Int) - (k : Int) = ((p - k : Nat) : Int) := by omega
  rw [epk]
  refine CallK.of [] (bitsAt_spec A bs.length c bs (p - k) k (by omega) (by omega)) rfl (fun w hw => ⟨hp.pass hw, by omega⟩) ?_
  rintro _ _ ⟨rfl, rfl⟩
  have hlt := bitsN_lt (num bs) (p - k) k
  have hpw : 2 ^ b = 2 ^ k * 2 ^ (b - k) := by rw [← Nat.pow_add]; congr 1; omega
  have hi2 : bitsN (num bs) (p - k) k * 2 ^ (b - k) < 2 ^ b := by
    rw [hpw]
    exact Nat.mul_lt_mul_of_pos_right hlt (Nat.two_pow_pos _)
  have ebk : (b : Int) - (k : Int) = ((b - k : Nat) : Int) := by omega
  have esh : ishl .i64 ((bitsN (num bs) (p - k) k : Nat) : Int) ((b - k : Nat) : Int) = ((bitsN (num bs) (p - k) k * 2 ^ (b - k) : Nat) : Int) := ishl_i64 (by omega) (by omega)
  have hent := hT.ent hi2
  have hcd := cdE_at (l := Tab) (k := bitsN (num bs) (p - k) k * 2 ^ (b - k)) (by omega)
  have hex : Tab[bitsN (num bs) (p - k) k * 2 ^ (b - k)]'(by omega) = ent Tab (bitsN (num bs) (p - k) k * 2 ^ (b - k)) := by
    have := ent_at (T := Tab) (i := bitsN (num bs) (p - k) k * 2 ^ (b - k)) (by omega)
    exact (List.getElem?_eq_some_iff.1 this).2
  rw [hex] at hcd
  (conv => whnf); repeat ((first | refine RngK.mk (by omega) (by omega) ?_ | refine NzK.mk (by omega) ?_ | refine NnK.mk (by omega) ?_ | refine BdK.mk (by omega) (by omega) (by omega) ?_ | refine InsK.lit (by omega) (by omega) ?_ | refine SpK.lit ?_ | refine GrdK.same ?_ | refine GrdK.tf ?_ | refine GrdK.ft ?_ | refine PickK.t ?_ | refine PickK.f ?_); (conv => whnf))
  rw [ebk]
  (conv => whnf); repeat ((first | refine RngK.mk (by omega) (by omega) ?_ | refine NzK.mk (by omega) ?_ | refine NnK.mk (by omega) ?_ | refine BdK.mk (by omega) (by omega) (by omega) ?_ | refine InsK.lit (by omega) (by omega) ?_ | refine SpK.lit ?_ | refine GrdK.same ?_ | refine GrdK.tf ?_ | refine GrdK.ft ?_ | refine PickK.t ?_ | refine PickK.f ?_); (conv => whnf))
  rw [esh]
  obtain ⟨ix, hix⟩ : ∃ ix, bitsN (num bs) (p - k) k * 2 ^ (b - k) = ix := ⟨_, rfl⟩
  rw [hix] at hR hi2 hent hcd ⊢
  obtain ⟨x, hx⟩ : ∃ x, ent Tab ix = x := ⟨_, rfl⟩
  rw [hx] at hent hcd hR
  obtain ⟨x1, x2, x3⟩ := hent
  refine InsK.rd hB (by omega) (by omega) ?_
  (conv => whnf); repeat ((first | refine RngK.mk (by omega) (by omega) ?_ | refine NzK.mk (by omega) ?_ | refine NnK.mk (by omega) ?_ | refine BdK.mk (by omega) (by omega) (by omega) ?_ | refine InsK.lit (by omega) (by omega) ?_ | refine SpK.lit ?_ | refine GrdK.same ?_ | refine GrdK.tf ?_ | refine GrdK.ft ?_ | refine PickK.t ?_ | refine PickK.f ?_); (conv => whnf))
  refine LdK.rdN (cs := cdC x) hB (ix * 2) rfl rfl rfl rfl rfl rfl hcd ?_
  (conv => whnf); repeat ((first | refine RngK.mk (by omega) (by omega) ?_ | refine NzK.mk (by omega) ?_ | refine NnK.mk (by omega) ?_ | refine BdK.mk (by omega) (by omega) (by omega) ?_ | refine InsK.lit (by omega) (by omega) ?_ | refine SpK.lit ?_ | refine GrdK.same ?_ | refine GrdK.tf ?_ | refine GrdK.ft ?_ | refine PickK.t ?_ | refine PickK.f ?_); (conv => whnf))
  refine ⟨_, _, rfl, rfl, ?_⟩
  intro b17
  (conv => whnf); repeat ((first | refine RngK.mk (by omega) (by omega) ?_ | refine NzK.mk (by omega) ?_ | refine NnK.mk (by omega) ?_ | refine BdK.mk (by omega) (by omega) (by omega) ?_ | refine InsK.lit (by omega) (by omega) ?_ | refine SpK.lit ?_ | refine GrdK.same ?_ | refine GrdK.tf ?_ | refine GrdK.ft ?_ | refine PickK.t ?_ | refine PickK.f ?_); (conv => whnf))
  refine StK.blkNE 0 (cdC x) rfl rfl rfl rfl rfl rfl ?_
  (conv => whnf); repeat ((first | refine RngK.mk (by omega) (by omega) ?_ | refine NzK.mk (by omega) ?_ | refine NnK.mk (by omega) ?_ | refine BdK.mk (by omega) (by omega) (by omega) ?_ | refine InsK.lit (by omega) (by omega) ?_ | refine SpK.lit ?_ | refine GrdK.same ?_ | refine GrdK.tf ?_ | refine GrdK.ft ?_ | refine PickK.t ?_ | refine PickK.f ?_); (conv => whnf))
  refine LdK.blk 0 rfl rfl rfl rfl ?_
  (conv => whnf); repeat ((first | refine RngK.mk (by omega) (by omega) ?_ | refine NzK.mk (by omega) ?_ | refine NnK.mk (by omega) ?_ | refine BdK.mk (by omega) (by omega) (by omega) ?_ | refine InsK.lit (by omega) (by omega) ?_ | refine SpK.lit ?_ | refine GrdK.same ?_ | refine GrdK.tf ?_ | refine GrdK.ft ?_ | refine PickK.t ?_ | refine PickK.f ?_); (conv => whnf))
  refine Wp.cond rfl (fun h => ?_) (fun h => ?_)
  · have h := dT h
    rw [if_pos (by omega)] at hR
    subst hR
    (conv => whnf); repeat ((first | refine RngK.mk (by omega) (by omega) ?_ | refine NzK.mk (by omega) ?_ | refine NnK.mk (by omega) ?_ | refine BdK.mk (by omega) (by omega) (by omega) ?_ | refine InsK.lit (by omega) (by omega) ?_ | refine SpK.lit ?_ | refine GrdK.same ?_ | refine GrdK.tf ?_ | refine GrdK.ft ?_ | refine PickK.t ?_ | refine PickK.f ?_); (conv => whnf))
    exact ⟨[], HSub.nil _, rfl, rfl⟩
  have h := dF h
  rw [if_neg (by omega)] at hR
  have e8 : IntKind.u8.wrap (x.1 : Int) = (x.1 : Int) := wrap_u_lt (k := .u8) rfl (by show _ < 256; omega)
  (conv => whnf); repeat ((first | refine RngK.mk (by omega) (by omega) ?_ | refine NzK.mk (by omega) ?_ | refine NnK.mk (by omega) ?_ | refine BdK.mk (by omega) (by omega) (by omega) ?_ | refine InsK.lit (by omega) (by omega) ?_ | refine SpK.lit ?_ | refine GrdK.same ?_ | refine GrdK.tf ?_ | refine GrdK.ft ?_ | refine PickK.t ?_ | refine PickK.f ?_); (conv => whnf))
  refine LdK.blk 0 rfl rfl rfl rfl ?_
  (conv => whnf); repeat ((first | refine RngK.mk (by omega) (by omega) ?_ | refine NzK.mk (by omega) ?_ | refine NnK.mk (by omega) ?_ | refine BdK.mk (by omega) (by omega) (by omega) ?_ | refine InsK.lit (by omega) (by omega) ?_ | refine SpK.lit ?_ | refine GrdK.same ?_ | refine GrdK.tf ?_ | refine GrdK.ft ?_ | refine PickK.t ?_ | refine PickK.f ?_); (conv => whnf))
  refine LdK.blk 0 rfl rfl rfl rfl ?_
  (conv => whnf); repeat ((first | refine RngK.mk (by omega) (by omega) ?_ | refine NzK.mk (by omega) ?_ | refine NnK.mk (by omega) ?_ | refine BdK.mk (by omega) (by omega) (by omega) ?_ | refine InsK.lit (by omega) (by omega) ?_ | refine SpK.lit ?_ | refine GrdK.same ?_ | refine GrdK.tf ?_ | refine GrdK.ft ?_ | refine PickK.t ?_ | refine PickK.f ?_); (conv => whnf))
  rw [e8]
  refine EffK.litV rfl rfl rfl rfl rfl rfl rfl rfl rfl ?_
  (conv => whnf); repeat ((first | refine RngK.mk (by omega) (by omega) ?_ | refine NzK.mk (by omega) ?_ | refine NnK.mk (by omega) ?_ | refine BdK.mk (by omega) (by omega) (by omega) ?_ | refine InsK.lit (by omega) (by omega) ?_ | refine SpK.lit ?_ | refine GrdK.same ?_ | refine GrdK.tf ?_ | refine GrdK.ft ?_ | refine PickK.t ?_ | refine PickK.f ?_); (conv => whnf))
  intro b3
  (conv => whnf); repeat ((first | refine RngK.mk (by omega) (by omega) ?_ | refine NzK.mk (by omega) ?_ | refine NnK.mk (by omega) ?_ | refine BdK.mk (by omega) (by omega) (by omega) ?_ | refine InsK.lit (by omega) (by omega) ?_ | refine SpK.lit ?_ | refine GrdK.same ?_ | refine GrdK.tf ?_ | refine GrdK.ft ?_ | refine PickK.t ?_ | refine PickK.f ?_); (conv => whnf))
  refine EffK.append 2 (news := [.int .u8 (x.1 : Int)]) rfl rfl rfl rfl rfl rfl rfl rfl (Src.ownW (k := 0) rfl rfl) (by intro u hu; obtain rfl := List.mem_singleton.1 hu; rfl) (by simp [maxLen]; omega) (by show (_ + _) * 1 ≤ _; omega) fun A' cap' => ?_
  (conv => whnf); repeat ((first | refine RngK.mk (by omega) (by omega) ?_ | refine NzK.mk (by omega) ?_ | refine NnK.mk (by omega) ?_ | refine BdK.mk (by omega) (by omega) (by omega) ?_ | refine InsK.lit (by omega) (by omega) ?_ | refine SpK.lit ?_ | refine GrdK.same ?_ | refine GrdK.tf ?_ | refine GrdK.ft ?_ | refine PickK.t ?_ | refine PickK.f ?_); (conv => whnf))
  refine ⟨(i + 1, l ++ [UInt8.ofNat x.1], A', cap', p - x.2), ⟨rfl, rfl, rfl, rfl, ?_, ?_, rfl, rfl, trivial⟩, ?_, ⟨by simp only; omega, by simp only [List.length_append, List.length_singleton]; omega, by simp only; omega, by simp only; omega, ?_⟩, by simp only; omega⟩
  · show some (vI ((p : Int) - (x.2 : Int))) = some (vI ((p - x.2 : Nat) : Int))
    rw [show (p : Int) - (x.2 : Int) = ((p - x.2 : Nat) : Int) by omega]
  · show some (Value.slice A' _ cap') = some (Value.slice A' _ cap')
    rw [List.length_append]; rfl
  · dsimp only
    rw [u8_snoc l x1, List.length_append]
    exact HSub.of [2] rfl
  · dsimp only
    rw [show many - (i + 1) = d by omega]
    exact hR
end Go.Proofs.YtgdhdkjbilifiaaDoor
