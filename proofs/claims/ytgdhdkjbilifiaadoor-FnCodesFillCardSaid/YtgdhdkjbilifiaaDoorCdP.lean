/- Tables of prefix codes whose entries stand at all their places; streams that are read with them. Plain; no program. Literals of one stream: the package. Literals of one stream: the reference. The law FnStreamReference: it returns true. -/
import Derived.Test.YtgdhdkjbilifiaaDoorCdB
import Derived.Test.YtgdhdkjbilifiaaDoorBits
import Derived.Test.YtgdhdkjbilifiaaDoorCdG
import Derived.Test.YtgdhdkjbilifiaaDoorRvA
import Derived.Test.YtgdhdkjbilifiaaDoorCdK
namespace Go.Proofs.YtgdhdkjbilifiaaDoor
open Go Go.Sx
set_option maxRecDepth 100000
/-- each entry stands at all places that begin with its code -/
def Al (b : Nat) (T : List Cd) : Prop := ∀ i x, T[i]? = some x → ∀ j, j / 2 ^ (b - x.2) = i / 2 ^ (b - x.2) → T[j]? = some x
theorem segC_blk (b w : Nat) : ∀ (l : List Nat) (i p q : Nat), p / 2 ^ (w - 1) = q / 2 ^ (w - 1) → (segC b w i l)[p]? = (segC b w i l)[q]?
  | [], i, p, q, _ => by simp [segC]
  | x :: l, i, p, q, h => by
    rw [segC]
    have hp := Nat.two_pow_pos (w - 1)
    by_cases hx : x = w
    · rw [if_pos hx]
      by_cases h1 : p < 2 ^ (w - 1)
      · have h2 : q < 2 ^ (w - 1) := by
          rw [Nat.div_eq_of_lt h1] at h
          exact (Nat.div_eq_zero_iff_lt hp).1 h.symm
        rw [List.getElem?_append_left (by simpa using h1), List.getElem?_append_left (by simpa using h2), List.getElem?_replicate, List.getElem?_replicate, if_pos h1, if_pos h2]
      · have h2 : ¬ q < 2 ^ (w - 1) := fun h2 => h1 (by rw [Nat.div_eq_of_lt h2] at h; exact (Nat.div_eq_zero_iff_lt hp).1 h)
        rw [List.getElem?_append_right (by simp; omega), List.getElem?_append_right (by simp; omega), List.length_replicate]
        apply segC_blk
        obtain ⟨p', rfl⟩ : ∃ p', p = 2 ^ (w - 1) + p' := ⟨p - 2 ^ (w - 1), by omega⟩
        obtain ⟨q', rfl⟩ : ∃ q', q = 2 ^ (w - 1) + q' := ⟨q - 2 ^ (w - 1), by omega⟩
        rw [Nat.add_div_left _ hp, Nat.add_div_left _ hp] at h
        rw [Nat.add_sub_cancel_left, Nat.add_sub_cancel_left]
        omega
    · rw [if_neg hx, List.nil_append]
      exact segC_blk b w l (i + 1) p q h
theorem base_dvd {ws all : List Nat} {b : Nat} (hW : Whl ws all b) : ∀ (d k : Nat), k + d = b → 2 ^ k ∣ baseC all k
  | 0, k, h => by
    have : k = b := by omega
    subst this
    rw [hW.base]
    exact Nat.dvd_refl _
  | d + 1, k, h => by
    have ih := base_dvd hW d (k + 1) (by omega)
    rw [baseC] at ih
    have h1 : 2 ^ k ∣ baseC all k + all.count (k + 1) * 2 ^ k := Nat.dvd_trans (Nat.pow_dvd_pow 2 (Nat.le_succ k)) ih
    exact (Nat.dvd_add_iff_left (Nat.dvd_mul_left _ _)).2 h1
theorem tabC_al {all : List Nat} {b : Nat} (hd : ∀ k, k ≤ b → 2 ^ k ∣ baseC all k) : ∀ m, m ≤ b → ∀ i x, (tabC all b m)[i]? = some x → ∀ j, j / 2 ^ (b - x.2) = i / 2 ^ (b - x.2) → (tabC all b m)[j]? = some x
  | 0, _, i, x, h, j, _ => by simp [tabC] at h
  | m + 1, hm, i, x, h, j, hj => by
    rw [tabC] at h ⊢
    by_cases hi : i < (tabC all b m).length
    · rw [List.getElem?_append_left hi] at h
      have ih := tabC_al hd m (by omega) i x h j hj
      have hjl := (List.getElem?_eq_some_iff.1 ih).1
      rw [List.getElem?_append_left hjl]
      exact ih
    · rw [List.getElem?_append_right (by omega)] at h
      have hx := (segC_mem (List.mem_of_getElem? h)).2.2
      have hbx : b - x.2 = m := by omega
      rw [hbx] at hj
      have hp := Nat.two_pow_pos m
      obtain ⟨t, ht⟩ := hd m (by omega)
      have hl := tabC_len all b m
      rw [ht] at hl
      have hti : t ≤ i / 2 ^ m := by
        rw [Nat.le_div_iff_mul_le hp, Nat.mul_comm]
        omega
      have hjt : 2 ^ m * t ≤ j := by
        rw [← hj, Nat.le_div_iff_mul_le hp, Nat.mul_comm] at hti
        exact hti
      rw [List.getElem?_append_right (by omega), hl]
      rw [hl] at h
      rw [← h]
      apply segC_blk
      rw [Nat.add_sub_cancel, Nat.sub_mul_div, Nat.sub_mul_div, hj]
theorem Whl.al_ {ws all : List Nat} {b : Nat} (h : Whl ws all b) : Al b (tabC all b b) :=
  tabC_al (fun k hk => base_dvd h (b - k) k (by omega)) b (Nat.le_refl b)
theorem Whl.len_ {ws all : List Nat} {b : Nat} (h : Whl ws all b) : (tabC all b b).length = 2 ^ b := by rw [tabC_len, h.base]
theorem Whl.mem_ {ws all : List Nat} {b : Nat} (_ : Whl ws all b) : ∀ x ∈ tabC all b b, x.1 < all.length ∧ 1 ≤ x.2 ∧ x.2 ≤ b := fun x hx => by
  obtain ⟨h1, h2, h3⟩ := tabC_mem hx
  exact ⟨h1, by omega, h3⟩
/-- a table of codes, whole -/
structure Tb (b : Nat) (T : List Cd) : Prop where
  b0 : 1 ≤ b
  b1 : b ≤ 11
  len : T.length = 2 ^ b
  mem : ∀ x ∈ T, x.1 < 256 ∧ 1 ≤ x.2 ∧ x.2 ≤ b
  al : Al b T
theorem Whl.tb {ws all : List Nat} {b : Nat} (h : Whl ws all b) (hl : all.length ≤ 256) : Tb b (tabC all b b) :=
  ⟨h.b0, h.b1, h.len_, fun x hx => by have := h.mem_ x hx; exact ⟨by omega, this.2⟩, h.al_⟩
def ent (T : List Cd) (i : Nat) : Cd := T.getD i (0, 0)
theorem ent_at {T : List Cd} {i : Nat} (h : i < T.length) : T[i]? = some (ent T i) := by simp [ent, h]
theorem ent_of {T : List Cd} {i : Nat} {x : Cd} (h : T[i]? = some x) : ent T i = x := by simp [ent, h]
theorem Tb.ent {b : Nat} {T : List Cd} (h : Tb b T) {i : Nat} (hi : i < 2 ^ b) : (ent T i).1 < 256 ∧ 1 ≤ (ent T i).2 ∧ (ent T i).2 ≤ b :=
  h.mem _ (List.mem_of_getElem? (ent_at (by rw [h.len]; exact hi)))
/-- so many literals are told by a stream that goes down to a place -/
def litS (N st b : Nat) (T : List Cd) : Nat → Nat → List UInt8 → Option (List UInt8 × Nat)
  | 0, p, acc => some (acc, p)
  | m + 1, p, acc =>
    if min b (p - 8 * st) < (ent T (bitsN N (p - min b (p - 8 * st)) (min b (p - 8 * st)) * 2 ^ (b - min b (p - 8 * st)))).2 then none
    else litS N st b T m (p - (ent T (bitsN N (p - min b (p - 8 * st)) (min b (p - 8 * st)) * 2 ^ (b - min b (p - 8 * st)))).2)
      (acc ++ [UInt8.ofNat (ent T (bitsN N (p - min b (p - 8 * st)) (min b (p - 8 * st)) * 2 ^ (b - min b (p - 8 * st)))).1])
/-- the same, by as many bits as the table has, each time -/
def litI (N st b : Nat) (T : List Cd) : Nat → Nat → List UInt8 → Option (List UInt8)
  | 0, _, acc => some acc
  | m + 1, p, acc => if p < 8 * st + b then none else litI N st b T m (p - (ent T (bitsN N (p - b) b)).2) (acc ++ [UInt8.ofNat (ent T (bitsN N (p - b) b)).1])
/-- what stands at a place is what its first bits tell -/
theorem Tb.low {b : Nat} {T : List Cd} (h : Tb b T) {N p n : Nat} (hn : n ≤ b) (hp : b ≤ p) {i : Nat} (hi : i < 2 ^ b) (he : i / 2 ^ (b - n) = bitsN N (p - n) n) (hx : (Go.Proofs.YtgdhdkjbilifiaaDoor.ent T i).2 ≤ n) : Go.Proofs.YtgdhdkjbilifiaaDoor.ent T (bitsN N (p - b) b) = Go.Proofs.YtgdhdkjbilifiaaDoor.ent T i := by
  have h1 := bitsN_shr N (p - b) (b := b - n) (c := b) (by omega)
  rw [show p - b + (b - n) = p - n by omega, show b - (b - n) = n by omega, ← he] at h1
  have h2 := ent_at (T := T) (i := i) (by rw [h.len]; exact hi)
  refine ent_of (h.al i _ h2 _ ?_)
  have e : b - (Go.Proofs.YtgdhdkjbilifiaaDoor.ent T i).2 = (b - n) + (n - (Go.Proofs.YtgdhdkjbilifiaaDoor.ent T i).2) := by omega
  rw [e, Nat.pow_add, ← Nat.div_div_eq_div_mul, ← Nat.div_div_eq_div_mul, h1]
theorem litS_litI {b : Nat} {T : List Cd} (h : Tb b T) {N st : Nat} (hs : 2 ≤ st) : ∀ (m p : Nat) (acc l : List UInt8) (q : Nat), 8 * st ≤ p → litS N st b T m p acc = some (l, q) → litI N (st - 2) b T m p acc = some l
  | 0, p, acc, l, q, _, hr => by
    simp only [litS, Option.some.injEq, Prod.mk.injEq] at hr
    rw [litI, hr.1]
  | m + 1, p, acc, l, q, hp, hr => by
    have hb := h.b1
    rw [litS] at hr
    rw [litI, if_neg (by omega)]
    obtain ⟨n, hn⟩ : ∃ n, min b (p - 8 * st) = n := ⟨_, rfl⟩
    rw [hn] at hr
    have hnb : n ≤ b := by omega
    have hlt := bitsN_lt N (p - n) n
    have hpw : 2 ^ b = 2 ^ n * 2 ^ (b - n) := by rw [← Nat.pow_add]; congr 1; omega
    have hi : bitsN N (p - n) n * 2 ^ (b - n) < 2 ^ b := by
      rw [hpw]
      exact Nat.mul_lt_mul_of_pos_right hlt (Nat.two_pow_pos _)
    split at hr
    · cases hr
    · rename_i g
      have := h.low (N := N) (p := p) hnb (by omega) hi (Nat.mul_div_cancel _ (Nat.two_pow_pos _)) (by omega)
      rw [this]
      exact litS_litI h hs m _ _ l q (by omega) hr
theorem litS_len {N st b : Nat} {T : List Cd} : ∀ (m p : Nat) (acc l : List UInt8) (q : Nat), litS N st b T m p acc = some (l, q) → l.length = acc.length + m
  | 0, p, acc, l, q, hr => by
    simp only [litS, Option.some.injEq, Prod.mk.injEq] at hr
    rw [← hr.1]; rfl
  | m + 1, p, acc, l, q, hr => by
    rw [litS] at hr
    split at hr
    · cases hr
    · have := litS_len m _ _ l q hr
      rw [this, List.length_append, List.length_singleton]; omega
end Go.Proofs.YtgdhdkjbilifiaaDoor
namespace Go.Proofs.YtgdhdkjbilifiaaDoor
open Go Go.Sx
set_option maxRecDepth 100000
/-- a Reader that has a table -/
structure HrPre (w : World) (W : Nat → Prop) (r : Nat) (A : Option Addr) (n c : Nat) (bs : List UInt8) (e u : Addr) (T : Option Addr) (m mc b : Nat) (ts : List Nat) : Prop where
  br : BrPre w W r A n c bs e u
  fl : Rd w W (some ⟨r, 12, none⟩) 2 1 [.slice T m mc, vN b]
  tb : Rd w W T m 1 (ts.map vU16)
theorem HrPre.pass {w0 w : World} {W : Nat → Prop} {Hin Hr : Hp} (hw : HInv w0 W (Hin ++ Hr) w) {r n c m mc b : Nat} {A T : Option Addr} {bs : List UInt8} {e u : Addr} {ts : List Nat} (h : HrPre w0 W r A n c bs e u T m mc b ts) : HrPre w (blocks Hin) r A n c bs e u T m mc b ts :=
  ⟨h.br.pass hw, h.fl.pass hw, h.tb.pass hw⟩
/-- what the package reads from one stream -/
def oneI (bs : List UInt8) (off size b : Nat) (T : List Cd) (many : Nat) : Option (List UInt8) :=
  if (bs.getD (off + size - 1) 0).toNat = 0 then none else litI (num bs) (off - 2) b T many (8 * (off + size - 1) + wd (bs.getD (off + size - 1) 0).toNat - 1) []
theorem pick_bits {N p bits cnt b : Nat} (hb : b ≤ 11) (hc : b ≤ cnt) (hc2 : cnt < 32) (h32 : bits < 2 ^ 32) (hl : bits % 2 ^ cnt = bitsN N p cnt) :
    iand .u32 (ishr .u32 (bits : Int) ((cnt - b : Nat) : Int)) ((2 ^ b - 1 : Nat) : Int) = ((bitsN N (p + cnt - b) b : Nat) : Int) := by
  have h2q : 2 ^ b ≤ 2 ^ 11 := Nat.pow_le_pow_right (by omega) hb
  have e2 : ishr .u32 (bits : Int) ((cnt - b : Nat) : Int) = ((bits / 2 ^ (cnt - b) : Nat) : Int) := ishr_nat .u32 bits (by show _ ≤ 32; omega)
  have hd : bits / 2 ^ (cnt - b) < 2 ^ 32 := Nat.lt_of_le_of_lt (Nat.div_le_self _ _) h32
  rw [e2, iand_u (k := .u32) rfl hd (by show _ < 2 ^ 32; omega), Nat.and_two_pow_sub_one_eq_mod]
  have e4 : bitsN N (p + cnt - b) b = bitsN N (p + (cnt - b)) (cnt - (cnt - b)) := by
    rw [show p + cnt - b = p + (cnt - b) by omega, show cnt - (cnt - b) = b by omega]
  rw [e4, ← bitsN_shr _ _ (by omega), ← hl]
  have e5 : 2 ^ cnt = 2 ^ (cnt - b) * 2 ^ b := by rw [← Nat.pow_add]; congr 1; omega
  rw [e5, Nat.mod_mul_right_div_self]
theorem RbI.less {N n st off bits cnt k : Nat} (h : RbI N n st off bits cnt) (hk : k ≤ cnt) : RbI N n st off bits (cnt - k) := by
  obtain ⟨i1, i2, i3, i4, i5⟩ := h
  refine ⟨i1, i2, by omega, i4, ?_⟩
  have e6 : bits % 2 ^ cnt % 2 ^ (cnt - k) = bits % 2 ^ (cnt - k) := Nat.mod_mod_of_dvd _ (Nat.pow_dvd_pow 2 (by omega))
  rw [← e6, i5, bitsN_low _ _ (by omega)]
theorem pk_hi {x : Cd} (h2 : x.2 < 256) : pk x / 256 = x.1 := by unfold pk; omega
theorem pk_lo {x : Cd} (h2 : x.2 < 256) : pk x % 256 = x.2 := by unfold pk; omega
theorem u8_snoc (l : List UInt8) {x : Nat} (h : x < 256) : l.map vU8 ++ [Value.int .u8 (x : Int)] = (l ++ [UInt8.ofNat x]).map vU8 := by
  have e : (UInt8.ofNat x).toNat = x := UInt8.toNat_ofNat_of_lt' h
  rw [List.map_append]
  show _ = _ ++ [Value.int .u8 _]
  rw [e]
set_option maxHeartbeats 4000000 in
theorem readOne_spec (r : Nat) (A : Option Addr) (n c : Nat) (bs : List UInt8) (e u : Addr) (off size many : Nat) (T : Option Addr) (m mc b : Nat) (ts : List Nat) (Tab : List Cd) (hn : n ≤ 16777216) (ho : 2 ≤ off) (h0 : 1 ≤ size) (hs : off + size ≤ n) (hT : Tb b Tab)
    (htm : 2 ^ b ≤ m) (hts : ts.take (2 ^ b) = Tab.map pk) (hmany : many ≤ 1000000) :
    FnS Tryd.prog 55 [.pointer (some ⟨r, 0, none⟩), .slice A n c, vN off, vN size, vN many, .slice none 0 0] [] (fun w => HrPre w (blocks []) r A n c bs e u T m mc b ts)
      (fun v H => match oneI bs off size b Tab many with
        | none => ∃ T' x, v = .tuple #[.slice none 0 0, .iface T' x] ∧ H = []
        | some l => ∃ A1 c1, v = .tuple #[.slice A1 l.length c1, .nilIface] ∧ H = [.own A1 l.length c1 5 1 (l.map vU8)]) := by
  refine FnS.introD Tryd.func55 rfl (by kernel_rfl) rfl fun w hH hp => ?_
  obtain rfl : bs.length = n := hp.br.by_.len
  have hb0 := hT.b0
  have hb1 := hT.b1
  have h2b : 2 ^ b ≤ 2 ^ 11 := Nat.pow_le_pow_right (by omega) hb1
  have h2p := Nat.two_pow_pos b
  obtain ⟨R, hR⟩ : ∃ R, oneI bs off size b Tab many = R := ⟨_, rfl⟩
  rw [hR]
  have hlast : off + size - 1 < bs.length := by omega
  have hgd : bs.getD (off + size - 1) 0 = bs[off + size - 1] := by simp [hlast]
  unfold oneI at hR
  rw [hgd] at hR
  have e1 : (off : Int) + (size : Int) - 1 = ((off + size - 1 : Nat) : Int) := by omega
  have e2 : (off : Int) - 2 = ((off - 2 : Nat) : Int) := by omega
  (conv => whnf); repeat ((first | refine RngK.mk (by omega) (by omega) ?_ | refine NzK.mk (by omega) ?_ | refine NnK.mk (by omega) ?_ | refine BdK.mk (by omega) (by omega) (by omega) ?_ | refine InsK.lit (by omega) (by omega) ?_ | refine SpK.lit ?_ | refine GrdK.same ?_ | refine GrdK.tf ?_ | refine GrdK.ft ?_ | refine PickK.t ?_ | refine PickK.f ?_); (conv => whnf))
  rw [e1, e2]
  obtain ⟨o, hoe⟩ : ∃ o, off + size - 1 = o := ⟨_, rfl⟩
  obtain ⟨st, hst⟩ : ∃ st, off - 2 = st := ⟨_, rfl⟩
  have hom : o < bs.length := by omega
  have hR : (if bs[o].toNat = 0 then none else litI (num bs) st b Tab many (8 * o + wd bs[o].toNat - 1) []) = R := by
    subst hoe hst; exact hR
  rw [hoe, hst]
  refine CallK.of [] (makeReverse_spec r A bs.length c o st bs e u hn hom (by omega)) rfl (fun w hw => hp.br.pass hw) ?_
  rintro v _ ⟨rfl, ⟨g, cs, T', x, h6, h1, rfl⟩ | ⟨g, rfl⟩⟩
  · rw [if_pos g] at hR
    subst hR
    (conv => whnf); repeat ((first | refine RngK.mk (by omega) (by omega) ?_ | refine NzK.mk (by omega) ?_ | refine NnK.mk (by omega) ?_ | refine BdK.mk (by omega) (by omega) (by omega) ?_ | refine InsK.lit (by omega) (by omega) ?_ | refine SpK.lit ?_ | refine GrdK.same ?_ | refine GrdK.tf ?_ | refine GrdK.ft ?_ | refine PickK.t ?_ | refine PickK.f ?_); (conv => whnf))
    refine ⟨_, _, rfl, rfl, ?_⟩
    intro b14
    (conv => whnf); repeat ((first | refine RngK.mk (by omega) (by omega) ?_ | refine NzK.mk (by omega) ?_ | refine NnK.mk (by omega) ?_ | refine BdK.mk (by omega) (by omega) (by omega) ?_ | refine InsK.lit (by omega) (by omega) ?_ | refine SpK.lit ?_ | refine GrdK.same ?_ | refine GrdK.tf ?_ | refine GrdK.ft ?_ | refine PickK.t ?_ | refine PickK.f ?_); (conv => whnf))
    refine StK.blkN 0 rfl rfl h6 (List.all_eq_true.1 h1) (by decide) ?_
    (conv => whnf); repeat ((first | refine RngK.mk (by omega) (by omega) ?_ | refine NzK.mk (by omega) ?_ | refine NnK.mk (by omega) ?_ | refine BdK.mk (by omega) (by omega) (by omega) ?_ | refine InsK.lit (by omega) (by omega) ?_ | refine SpK.lit ?_ | refine GrdK.same ?_ | refine GrdK.tf ?_ | refine GrdK.ft ?_ | refine PickK.t ?_ | refine PickK.f ?_); (conv => whnf))
    refine ValK.neIface rfl ?_
    (conv => whnf); repeat ((first | refine RngK.mk (by omega) (by omega) ?_ | refine NzK.mk (by omega) ?_ | refine NnK.mk (by omega) ?_ | refine BdK.mk (by omega) (by omega) (by omega) ?_ | refine InsK.lit (by omega) (by omega) ?_ | refine SpK.lit ?_ | refine GrdK.same ?_ | refine GrdK.tf ?_ | refine GrdK.ft ?_ | refine PickK.t ?_ | refine PickK.f ?_); (conv => whnf))
    refine Wp.cond rfl (fun _ => ?_) (fun h => by cases h)
    (conv => whnf); repeat ((first | refine RngK.mk (by omega) (by omega) ?_ | refine NzK.mk (by omega) ?_ | refine NnK.mk (by omega) ?_ | refine BdK.mk (by omega) (by omega) (by omega) ?_ | refine InsK.lit (by omega) (by omega) ?_ | refine SpK.lit ?_ | refine GrdK.same ?_ | refine GrdK.tf ?_ | refine GrdK.ft ?_ | refine PickK.t ?_ | refine PickK.f ?_); (conv => whnf))
    exact ⟨[], HSub.nil _, T', x, rfl, rfl⟩
  rw [if_neg (by omega)] at hR
  have hI := RbI.start hom (show st ≤ o by omega)
  have hw8 : wd bs[o].toNat ≤ 8 := wd_lt (by have := bs[o].toNat_lt; omega)
  have hwp := wd_pos g
  (conv => whnf); repeat ((first | refine RngK.mk (by omega) (by omega) ?_ | refine NzK.mk (by omega) ?_ | refine NnK.mk (by omega) ?_ | refine BdK.mk (by omega) (by omega) (by omega) ?_ | refine InsK.lit (by omega) (by omega) ?_ | refine SpK.lit ?_ | refine GrdK.same ?_ | refine GrdK.tf ?_ | refine GrdK.ft ?_ | refine PickK.t ?_ | refine PickK.f ?_); (conv => whnf))
  refine ⟨_, _, rfl, rfl, ?_⟩
  intro b14
  (conv => whnf); repeat ((first | refine RngK.mk (by omega) (by omega) ?_ | refine NzK.mk (by omega) ?_ | refine NnK.mk (by omega) ?_ | refine BdK.mk (by omega) (by omega) (by omega) ?_ | refine InsK.lit (by omega) (by omega) ?_ | refine SpK.lit ?_ | refine GrdK.same ?_ | refine GrdK.tf ?_ | refine GrdK.ft ?_ | refine PickK.t ?_ | refine PickK.f ?_); (conv => whnf))
  refine StK.blkNE 0 (rbc r A bs.length c o st bs[o].toNat (wd bs[o].toNat - 1)) rfl rfl rfl rfl rfl rfl ?_
  (conv => whnf); repeat ((first | refine RngK.mk (by omega) (by omega) ?_ | refine NzK.mk (by omega) ?_ | refine NnK.mk (by omega) ?_ | refine BdK.mk (by omega) (by omega) (by omega) ?_ | refine InsK.lit (by omega) (by omega) ?_ | refine SpK.lit ?_ | refine GrdK.same ?_ | refine GrdK.tf ?_ | refine GrdK.ft ?_ | refine PickK.t ?_ | refine PickK.f ?_); (conv => whnf))
  refine ValK.neNil rfl ?_
  (conv => whnf); repeat ((first | refine RngK.mk (by omega) (by omega) ?_ | refine NzK.mk (by omega) ?_ | refine NnK.mk (by omega) ?_ | refine BdK.mk (by omega) (by omega) (by omega) ?_ | refine InsK.lit (by omega) (by omega) ?_ | refine SpK.lit ?_ | refine GrdK.same ?_ | refine GrdK.tf ?_ | refine GrdK.ft ?_ | refine PickK.t ?_ | refine PickK.f ?_); (conv => whnf))
  refine Wp.cond rfl (fun h => by cases h) (fun _ => ?_)
  (conv => whnf); repeat ((first | refine RngK.mk (by omega) (by omega) ?_ | refine NzK.mk (by omega) ?_ | refine NnK.mk (by omega) ?_ | refine BdK.mk (by omega) (by omega) (by omega) ?_ | refine InsK.lit (by omega) (by omega) ?_ | refine SpK.lit ?_ | refine GrdK.same ?_ | refine GrdK.tf ?_ | refine GrdK.ft ?_ | refine PickK.t ?_ | refine PickK.f ?_); (conv => whnf))
  refine LdK.rd (v := .slice T m mc) hp.fl 0 rfl rfl rfl rfl ?_
  (conv => whnf); repeat ((first | refine RngK.mk (by omega) (by omega) ?_ | refine NzK.mk (by omega) ?_ | refine NnK.mk (by omega) ?_ | refine BdK.mk (by omega) (by omega) (by omega) ?_ | refine InsK.lit (by omega) (by omega) ?_ | refine SpK.lit ?_ | refine GrdK.same ?_ | refine GrdK.tf ?_ | refine GrdK.ft ?_ | refine PickK.t ?_ | refine PickK.f ?_); (conv => whnf))
  refine LdK.rd (v := vN b) hp.fl 1 rfl rfl rfl rfl ?_
  have e3 : IntKind.u32.wrap (b : Int) = (b : Int) := IntWalk.u32_in _ (by omega)
  have e4 : ishl .u32 1 (b : Int) = ((2 ^ b : Nat) : Int) := by
    have := ishl_u (k := .u32) rfl 1 (n := b) (by show _ ≤ 32; omega)
    rw [Nat.one_mul, Nat.mod_eq_of_lt (by show _ < 2 ^ 32; omega)] at this
    exact this
  have e5 : IntKind.u32.wrap (((2 ^ b : Nat) : Int) - 1) = ((2 ^ b - 1 : Nat) : Int) := by
    rw [IntWalk.u32_in _ (by omega)]; omega
  have e6 : IntKind.u8.wrap (b : Int) = (b : Int) := wrap_u_lt (k := .u8) rfl (by show _ < 256; omega)
  (conv => whnf); repeat ((first | refine RngK.mk (by omega) (by omega) ?_ | refine NzK.mk (by omega) ?_ | refine NnK.mk (by omega) ?_ | refine BdK.mk (by omega) (by omega) (by omega) ?_ | refine InsK.lit (by omega) (by omega) ?_ | refine SpK.lit ?_ | refine GrdK.same ?_ | refine GrdK.tf ?_ | refine GrdK.ft ?_ | refine PickK.t ?_ | refine PickK.f ?_); (conv => whnf))
  rw [e3, e4, e5]
  refine Wp.nilC 5 1 ?_
  have hp0 : 8 * o + wd bs[o].toNat - 1 = 8 * o + (wd bs[o].toNat - 1) := by omega
  rw [hp0] at hR
  obtain ⟨bt, hbt⟩ : ∃ bt, bs[o].toNat = bt := ⟨_, rfl⟩
  rw [hbt] at hI hR hw8 hwp ⊢
  obtain ⟨cn, hcn⟩ : ∃ cn, wd bt - 1 = cn := ⟨_, rfl⟩
  rw [hcn] at hI hR ⊢
  refine Wp.cutEx 0 (fun t : List UInt8 × Option Addr × Nat => [(5, .slice t.2.1 t.1.length t.2.2)]) (fun t => [.own t.2.1 t.1.length t.2.2 5 1 (t.1.map vU8)]) (fun t => R = some t.1) ?_ fun ⟨l, A1, c1⟩ hl => ?_
  rotate_left
  · dsimp only at hl ⊢
    subst hl
    (conv => whnf); repeat ((first | refine RngK.mk (by omega) (by omega) ?_ | refine NzK.mk (by omega) ?_ | refine NnK.mk (by omega) ?_ | refine BdK.mk (by omega) (by omega) (by omega) ?_ | refine InsK.lit (by omega) (by omega) ?_ | refine SpK.lit ?_ | refine GrdK.same ?_ | refine GrdK.tf ?_ | refine GrdK.ft ?_ | refine PickK.t ?_ | refine PickK.f ?_); (conv => whnf))
    exact ⟨_, HSub.refl _, A1, c1, rfl, rfl⟩
  refine Wp.loop (fun t : Nat × List UInt8 × Option Addr × Nat × Nat × Nat × Nat => [(4, vN many), (5, .slice t.2.2.1 t.2.1.length t.2.2.2.1), (14, .pointer (some ⟨b14, 0, none⟩)), (16, .slice T m mc), (17, .int .u32 (b : Int)), (18, .int .u32 ((2 ^ b - 1 : Nat) : Int)), (19, vN t.1)])
    (fun t => [.own t.2.2.1 t.2.1.length t.2.2.2.1 5 1 (t.2.1.map vU8), .blk b14 125 (rbc r A bs.length c t.2.2.2.2.1 st t.2.2.2.2.2.1 t.2.2.2.2.2.2)])
    (fun t => t.1 ≤ many ∧ t.2.1.length = t.1 ∧ RbI (num bs) bs.length st t.2.2.2.2.1 t.2.2.2.2.2.1 t.2.2.2.2.2.2 ∧ litI (num bs) st b Tab (many - t.1) (8 * t.2.2.2.2.1 + t.2.2.2.2.2.2) t.2.1 = R) (fun t => many - t.1) (0, [], none, 0, o, bt, cn)
    ⟨rfl, rfl, rfl, rfl, rfl, rfl, rfl, trivial⟩ (HSub.of [0, 0] rfl) ⟨Nat.zero_le _, rfl, hI, hR⟩ fun ⟨i, l, A1, c1, of1, bi1, cn1⟩ ⟨hi, hli, hI, hR⟩ => ?_
  dsimp only at hi hli hI hR ⊢
  (conv => whnf); repeat ((first | refine RngK.mk (by omega) (by omega) ?_ | refine NzK.mk (by omega) ?_ | refine NnK.mk (by omega) ?_ | refine BdK.mk (by omega) (by omega) (by omega) ?_ | refine InsK.lit (by omega) (by omega) ?_ | refine SpK.lit ?_ | refine GrdK.same ?_ | refine GrdK.tf ?_ | refine GrdK.ft ?_ | refine PickK.t ?_ | refine PickK.f ?_); (conv => whnf))
  refine Wp.cond rfl (fun h => ?_) (fun h => ?_)
  rotate_left
  · have h := dF h
    have : i = many := by omega
    subst this
    rw [Nat.sub_self, litI] at hR
    (conv => whnf); repeat ((first | refine RngK.mk (by omega) (by omega) ?_ | refine NzK.mk (by omega) ?_ | refine NnK.mk (by omega) ?_ | refine BdK.mk (by omega) (by omega) (by omega) ?_ | refine InsK.lit (by omega) (by omega) ?_ | refine SpK.lit ?_ | refine GrdK.same ?_ | refine GrdK.tf ?_ | refine GrdK.ft ?_ | refine PickK.t ?_ | refine PickK.f ?_); (conv => whnf))
    exact ⟨(l, A1, c1), ⟨rfl, trivial⟩, HSub.of [0] rfl, hR.symm⟩
  have h := dT h
  obtain ⟨d, hd⟩ : ∃ d, many - i = d + 1 := ⟨many - i - 1, by omega⟩
  rw [hd, litI] at hR
  (conv => whnf); repeat ((first | refine RngK.mk (by omega) (by omega) ?_ | refine NzK.mk (by omega) ?_ | refine NnK.mk (by omega) ?_ | refine BdK.mk (by omega) (by omega) (by omega) ?_ | refine InsK.lit (by omega) (by omega) ?_ | refine SpK.lit ?_ | refine GrdK.same ?_ | refine GrdK.tf ?_ | refine GrdK.ft ?_ | refine PickK.t ?_ | refine PickK.f ?_); (conv => whnf))
  rw [e6]
  refine CallK.of [1] (fetch_spec b14 r A bs.length c bs of1 st bi1 cn1 b hn hI (by omega)) rfl (fun w hw => hp.br.by_.pass hw) ?_
  rintro v _ ⟨of2, bi2, cn2, g1, hI2, rfl, hv⟩
  rcases hv with ⟨rfl, g3, g4⟩ | ⟨rfl, g3⟩
  rotate_left
  · rw [if_pos (by omega)] at hR
    subst hR
    have := hI2.on
    (conv => whnf); repeat ((first | refine RngK.mk (by omega) (by omega) ?_ | refine NzK.mk (by omega) ?_ | refine NnK.mk (by omega) ?_ | refine BdK.mk (by omega) (by omega) (by omega) ?_ | refine InsK.lit (by omega) (by omega) ?_ | refine SpK.lit ?_ | refine GrdK.same ?_ | refine GrdK.tf ?_ | refine GrdK.ft ?_ | refine PickK.t ?_ | refine PickK.f ?_); (conv => whnf))
    refine Wp.cond rfl (fun _ => ?_) (fun h => by cases h)
    (conv => whnf); repeat ((first | refine RngK.mk (by omega) (by omega) ?_ | refine NzK.mk (by omega) ?_ | refine NnK.mk (by omega) ?_ | refine BdK.mk (by omega) (by omega) (by omega) ?_ | refine InsK.lit (by omega) (by omega) ?_ | refine SpK.lit ?_ | refine GrdK.same ?_ | refine GrdK.tf ?_ | refine GrdK.ft ?_ | refine PickK.t ?_ | refine PickK.f ?_); (conv => whnf))
    refine CallK.of [0] (rbErr_spec b14 r A bs.length c of2 st bi2 cn2 _ e u (by omega)) rfl (fun w hw => ⟨hp.br.la.pass hw, hp.br.rr.pass hw⟩) ?_
    rintro _ _ ⟨⟨T', x, rfl⟩, rfl⟩
    (conv => whnf); repeat ((first | refine RngK.mk (by omega) (by omega) ?_ | refine NzK.mk (by omega) ?_ | refine NnK.mk (by omega) ?_ | refine BdK.mk (by omega) (by omega) (by omega) ?_ | refine InsK.lit (by omega) (by omega) ?_ | refine SpK.lit ?_ | refine GrdK.same ?_ | refine GrdK.tf ?_ | refine GrdK.ft ?_ | refine PickK.t ?_ | refine PickK.f ?_); (conv => whnf))
    exact ⟨[], HSub.nil _, T', x, rfl, rfl⟩
  rw [if_neg (by omega)] at hR
  have hix := bitsN_lt (num bs) (8 * of1 + cn1 - b) b
  have hent := hT.ent hix
  have hpb := pick_bits hb1 g3 hI2.lt hI2.b32 hI2.low
  rw [g1] at hpb
  have hcb : IntKind.u32.wrap ((cn2 : Int) - (b : Int)) = ((cn2 - b : Nat) : Int) := by
    have := hI2.lt
    rw [IntWalk.u32_in _ (by omega)]; omega
  have htsx : (ts.map vU16)[bitsN (num bs) (8 * of1 + cn1 - b) b]? = some (vU16 (pk (ent Tab (bitsN (num bs) (8 * of1 + cn1 - b) b)))) := by
    have h1 : (ts.take (2 ^ b))[bitsN (num bs) (8 * of1 + cn1 - b) b]? = some (pk (ent Tab (bitsN (num bs) (8 * of1 + cn1 - b) b))) := by
      rw [hts, List.getElem?_map, ent_at (by rw [hT.len]; exact hix)]; rfl
    rw [List.getElem?_take, if_pos hix] at h1
    rw [List.getElem?_map, h1]; rfl
  obtain ⟨ix, hixe⟩ : ∃ ix, bitsN (num bs) (8 * of1 + cn1 - b) b = ix := ⟨_, rfl⟩
  rw [hixe] at hix hent hpb htsx hR
  obtain ⟨x, hx⟩ : ∃ x, ent Tab ix = x := ⟨_, rfl⟩
  rw [hx] at hent htsx hR
  obtain ⟨x1, x2, x3⟩ := hent
  have hpk1 := pk_hi (x := x) (by omega)
  have hpk2 := pk_lo (x := x) (by omega)
  have hpk3 : pk x < 65536 := by unfold pk; omega
  obtain ⟨px, hpx⟩ : ∃ px, pk x = px := ⟨_, rfl⟩
  rw [hpx] at hpk1 hpk2 hpk3 htsx
  have f1 : ishr .u16 (px : Int) 8 = ((x.1 : Nat) : Int) := by rw [← hpk1]; exact ishr_nat .u16 px (n := 8) (by decide)
  have f2 : iand .u16 (px : Int) 255 = ((x.2 : Nat) : Int) := by
    have := iand_u (k := .u16) rfl (x := px) (y := 255) hpk3 (by decide)
    rw [show (255 : Nat) = 2 ^ 8 - 1 by rfl, Nat.and_two_pow_sub_one_eq_mod] at this
    rw [← hpk2]
    exact this
  have f3 : IntKind.u8.wrap (x.1 : Int) = (x.1 : Int) := wrap_u_lt (k := .u8) rfl (by show _ < 256; omega)
  have f4 : IntKind.u32.wrap (x.2 : Int) = (x.2 : Int) := IntWalk.u32_in _ (by omega)
  have f5 : IntKind.u32.wrap ((cn2 : Int) - (x.2 : Int)) = ((cn2 - x.2 : Nat) : Int) := by
    have := hI2.lt
    rw [IntWalk.u32_in _ (by omega)]; omega
  (conv => whnf); repeat ((first | refine RngK.mk (by omega) (by omega) ?_ | refine NzK.mk (by omega) ?_ | refine NnK.mk (by omega) ?_ | refine BdK.mk (by omega) (by omega) (by omega) ?_ | refine InsK.lit (by omega) (by omega) ?_ | refine SpK.lit ?_ | refine GrdK.same ?_ | refine GrdK.tf ?_ | refine GrdK.ft ?_ | refine PickK.t ?_ | refine PickK.f ?_); (conv => whnf))
  refine Wp.cond rfl (fun h => by cases h) (fun _ => ?_)
  (conv => whnf); repeat ((first | refine RngK.mk (by omega) (by omega) ?_ | refine NzK.mk (by omega) ?_ | refine NnK.mk (by omega) ?_ | refine BdK.mk (by omega) (by omega) (by omega) ?_ | refine InsK.lit (by omega) (by omega) ?_ | refine SpK.lit ?_ | refine GrdK.same ?_ | refine GrdK.tf ?_ | refine GrdK.ft ?_ | refine PickK.t ?_ | refine PickK.f ?_); (conv => whnf))
  refine LdK.blk 0 rfl rfl rfl rfl ?_
  (conv => whnf); repeat ((first | refine RngK.mk (by omega) (by omega) ?_ | refine NzK.mk (by omega) ?_ | refine NnK.mk (by omega) ?_ | refine BdK.mk (by omega) (by omega) (by omega) ?_ | refine InsK.lit (by omega) (by omega) ?_ | refine SpK.lit ?_ | refine GrdK.same ?_ | refine GrdK.tf ?_ | refine GrdK.ft ?_ | refine PickK.t ?_ | refine PickK.f ?_); (conv => whnf))
  refine LdK.blk 0 rfl rfl rfl rfl ?_
  (conv => whnf); repeat ((first | refine RngK.mk (by omega) (by omega) ?_ | refine NzK.mk (by omega) ?_ | refine NnK.mk (by omega) ?_ | refine BdK.mk (by omega) (by omega) (by omega) ?_ | refine InsK.lit (by omega) (by omega) ?_ | refine SpK.lit ?_ | refine GrdK.same ?_ | refine GrdK.tf ?_ | refine GrdK.ft ?_ | refine PickK.t ?_ | refine PickK.f ?_); (conv => whnf))
  rw [hcb]
  (conv => whnf); repeat ((first | refine RngK.mk (by omega) (by omega) ?_ | refine NzK.mk (by omega) ?_ | refine NnK.mk (by omega) ?_ | refine BdK.mk (by omega) (by omega) (by omega) ?_ | refine InsK.lit (by omega) (by omega) ?_ | refine SpK.lit ?_ | refine GrdK.same ?_ | refine GrdK.tf ?_ | refine GrdK.ft ?_ | refine PickK.t ?_ | refine PickK.f ?_); (conv => whnf))
  rw [hpb]
  refine InsK.rd hp.tb (by omega) (by omega) ?_
  (conv => whnf); repeat ((first | refine RngK.mk (by omega) (by omega) ?_ | refine NzK.mk (by omega) ?_ | refine NnK.mk (by omega) ?_ | refine BdK.mk (by omega) (by omega) (by omega) ?_ | refine InsK.lit (by omega) (by omega) ?_ | refine SpK.lit ?_ | refine GrdK.same ?_ | refine GrdK.tf ?_ | refine GrdK.ft ?_ | refine PickK.t ?_ | refine PickK.f ?_); (conv => whnf))
  refine LdK.rd (v := vU16 px) hp.tb ix rfl rfl rfl htsx ?_
  (conv => whnf); repeat ((first | refine RngK.mk (by omega) (by omega) ?_ | refine NzK.mk (by omega) ?_ | refine NnK.mk (by omega) ?_ | refine BdK.mk (by omega) (by omega) (by omega) ?_ | refine InsK.lit (by omega) (by omega) ?_ | refine SpK.lit ?_ | refine GrdK.same ?_ | refine GrdK.tf ?_ | refine GrdK.ft ?_ | refine PickK.t ?_ | refine PickK.f ?_); (conv => whnf))
  rw [f1, f3]
  refine EffK.litV rfl rfl rfl rfl rfl rfl rfl rfl rfl ?_
  (conv => whnf); repeat ((first | refine RngK.mk (by omega) (by omega) ?_ | refine NzK.mk (by omega) ?_ | refine NnK.mk (by omega) ?_ | refine BdK.mk (by omega) (by omega) (by omega) ?_ | refine InsK.lit (by omega) (by omega) ?_ | refine SpK.lit ?_ | refine GrdK.same ?_ | refine GrdK.tf ?_ | refine GrdK.ft ?_ | refine PickK.t ?_ | refine PickK.f ?_); (conv => whnf))
  intro b3
  (conv => whnf); repeat ((first | refine RngK.mk (by omega) (by omega) ?_ | refine NzK.mk (by omega) ?_ | refine NnK.mk (by omega) ?_ | refine BdK.mk (by omega) (by omega) (by omega) ?_ | refine InsK.lit (by omega) (by omega) ?_ | refine SpK.lit ?_ | refine GrdK.same ?_ | refine GrdK.tf ?_ | refine GrdK.ft ?_ | refine PickK.t ?_ | refine PickK.f ?_); (conv => whnf))
  refine EffK.append 2 (news := [.int .u8 (x.1 : Int)]) rfl rfl rfl rfl rfl rfl rfl rfl (Src.ownW (k := 0) rfl rfl) (by intro u hu; obtain rfl := List.mem_singleton.1 hu; rfl) (by simp [maxLen]; omega) (by show (_ + _) * 1 ≤ _; omega) fun A' cap' => ?_
  (conv => whnf); repeat ((first | refine RngK.mk (by omega) (by omega) ?_ | refine NzK.mk (by omega) ?_ | refine NnK.mk (by omega) ?_ | refine BdK.mk (by omega) (by omega) (by omega) ?_ | refine InsK.lit (by omega) (by omega) ?_ | refine SpK.lit ?_ | refine GrdK.same ?_ | refine GrdK.tf ?_ | refine GrdK.ft ?_ | refine PickK.t ?_ | refine PickK.f ?_); (conv => whnf))
  refine LdK.blk 1 rfl rfl rfl rfl ?_
  (conv => whnf); repeat ((first | refine RngK.mk (by omega) (by omega) ?_ | refine NzK.mk (by omega) ?_ | refine NnK.mk (by omega) ?_ | refine BdK.mk (by omega) (by omega) (by omega) ?_ | refine InsK.lit (by omega) (by omega) ?_ | refine SpK.lit ?_ | refine GrdK.same ?_ | refine GrdK.tf ?_ | refine GrdK.ft ?_ | refine PickK.t ?_ | refine PickK.f ?_); (conv => whnf))
  rw [f2]
  refine StK.blkE 1 (rbc r A bs.length c of2 st bi2 (cn2 - x.2)) rfl rfl rfl rfl (Nat.le_of_ble_eq_true rfl) ?_ ?_
  · show [_, _, _, _, _, Value.int .u32 _] = [_, _, _, _, _, Value.int .u32 _]
    rw [f4, f5]
  (conv => whnf); repeat ((first | refine RngK.mk (by omega) (by omega) ?_ | refine NzK.mk (by omega) ?_ | refine NnK.mk (by omega) ?_ | refine BdK.mk (by omega) (by omega) (by omega) ?_ | refine InsK.lit (by omega) (by omega) ?_ | refine SpK.lit ?_ | refine GrdK.same ?_ | refine GrdK.tf ?_ | refine GrdK.ft ?_ | refine PickK.t ?_ | refine PickK.f ?_); (conv => whnf))
  refine ⟨(i + 1, l ++ [UInt8.ofNat x.1], A', cap', of2, bi2, cn2 - x.2), ⟨rfl, ?_, rfl, rfl, rfl, rfl, rfl, trivial⟩, ?_, ⟨by simp only; omega, by simp only [List.length_append, List.length_singleton]; omega, hI2.less (by omega), ?_⟩, by simp only; omega⟩
  · show some (Value.slice A' _ cap') = some (Value.slice A' _ cap')
    rw [List.length_append]; rfl
  · dsimp only
    rw [u8_snoc l x1, List.length_append]
    exact HSub.of [2, 1] rfl
  · dsimp only
    rw [show many - (i + 1) = d by omega, show 8 * of2 + (cn2 - x.2) = 8 * of1 + cn1 - x.2 by omega]
    exact hR
theorem two_cells {cs : List Value} {k : Nat} {x y : Value} (h1 : cs[k]? = some x) (h2 : cs[k + 1]? = some y) : (cs.drop k).take (2 * 1) = [x, y] := by
  obtain ⟨l1, e1⟩ := List.getElem?_eq_some_iff.1 h1
  obtain ⟨l2, e2⟩ := List.getElem?_eq_some_iff.1 h2
  rw [List.drop_eq_getElem_cons l1, List.drop_eq_getElem_cons l2, e1, e2]
  rfl
theorem HrPre.made {w0 w : World} {W : Nat → Prop} {Hin Hr : Hp} (hw : HInv w0 W (Hin ++ Hr) w) {rb tb : Nat} {cs : List Value} {ts : List Nat} {b : Nat} {A : Option Addr} {n c : Nat} {bs : List UInt8} {e u : Addr} (k j : Nat)
    (hk : Hr[k]? = some (.blk rb 107 cs)) (hj : Hr[j]? = some (.own (some ⟨tb, 0, none⟩) 2048 2048 109 1 (ts.map vU16)))
    (h6 : cs[6]? = some (vI 0)) (h12 : cs[12]? = some (.slice (some ⟨tb, 0, none⟩) 2048 2048)) (h13 : cs[13]? = some (vN b)) (hB : Bytes w0 W A n c bs) (hL : Laid w0 W e u) :
    HrPre w (blocks Hin) rb A n c bs e u (some ⟨tb, 0, none⟩) 2048 2048 b ts := by
  obtain ⟨hl13, _⟩ := List.getElem?_eq_some_iff.1 h13
  refine ⟨⟨hB.pass hw, hL.pass hw, ?_⟩, ?_, Rd.ofOwn hw j hj⟩
  · obtain ⟨hl6, he6⟩ := List.getElem?_eq_some_iff.1 h6
    have h := Rd.ofBlk (o := 6) (m := 1) (sz := 1) hw k hk (by omega)
    rw [List.drop_eq_getElem_cons hl6, he6] at h
    exact h
  · have h := Rd.ofBlk (o := 12) (m := 2) (sz := 1) hw k hk (by omega)
    rw [two_cells h12 h13] at h
    exact h
theorem pad_take (Tab : List Cd) {q k : Nat} (h : Tab.length = q) : (Tab.map pk ++ List.replicate k 0).take q = Tab.map pk := by
  rw [List.take_append_of_le_length (by rw [List.length_map]; omega), List.take_of_length_le (by rw [List.length_map]; omega)]
set_option maxHeartbeats 1000000 in
theorem zzOne_spec (A : Option Addr) (n c : Nat) (bs : List UInt8) (e u : Addr) (off size many : Nat) (B : Option Addr) (m mc b : Nat) (Tab : List Cd) (hn : n ≤ 16777216) (ho : 2 ≤ off) (h0 : 1 ≤ size) (hs : off + size ≤ n) (hT : Tb b Tab) (hmany : many ≤ 1000000) (hm : Tab.length = m) :
    FnS Tryd.prog 41 [.slice A n c, vN off, vN size, vN many, .slice B m mc, vN b] [] (fun w => (Bytes w (blocks []) A n c bs ∧ Laid w (blocks []) e u) ∧ Rd w (blocks []) B m 1 ((Tab.map pk).map vU16))
      (fun v H => match oneI bs off size b Tab many with
        | none => ∃ T' x, v = .tuple #[.slice none 0 0, .iface T' x] ∧ H = []
        | some l => ∃ A1 c1, v = .tuple #[.slice A1 l.length c1, .nilIface] ∧ H = [.own A1 l.length c1 5 1 (l.map vU8)]) := by
  refine FnS.introD Tryd.func41 rfl (by kernel_rfl) rfl fun w hH ⟨⟨hp, hL⟩, hB⟩ => ?_
  have h2b : 2 ^ b ≤ 2 ^ 11 := Nat.pow_le_pow_right (by omega) hT.b1
  have htl := hT.len
  have hrf := fun r T => readOne_spec r A n c bs e u off size many T 2048 2048 b (Tab.map pk ++ List.replicate (2048 - (Tab.map pk).length) 0) Tab hn ho h0 hs hT (by omega) (pad_take Tab htl) hmany
  obtain ⟨R, hR⟩ : ∃ R, oneI bs off size b Tab many = R := ⟨_, rfl⟩
  rw [hR] at hrf ⊢
  (conv => whnf); repeat ((first | refine RngK.mk (by omega) (by omega) ?_ | refine NzK.mk (by omega) ?_ | refine NnK.mk (by omega) ?_ | refine BdK.mk (by omega) (by omega) (by omega) ?_ | refine InsK.lit (by omega) (by omega) ?_ | refine SpK.lit ?_ | refine GrdK.same ?_ | refine GrdK.tf ?_ | refine GrdK.ft ?_ | refine PickK.t ?_ | refine PickK.f ?_); (conv => whnf))
  refine CallK.of [] (zzReader_spec B m mc (Tab.map pk) b (by rw [List.length_map]; exact hm) (by omega)) rfl (fun w hw => hB.pass hw) ?_
  rintro _ _ ⟨rb, tb, cs, rfl, rfl, h6, h12, h13⟩
  (conv => whnf); repeat ((first | refine RngK.mk (by omega) (by omega) ?_ | refine NzK.mk (by omega) ?_ | refine NnK.mk (by omega) ?_ | refine BdK.mk (by omega) (by omega) (by omega) ?_ | refine InsK.lit (by omega) (by omega) ?_ | refine SpK.lit ?_ | refine GrdK.same ?_ | refine GrdK.tf ?_ | refine GrdK.ft ?_ | refine PickK.t ?_ | refine PickK.f ?_); (conv => whnf))
  refine CallK.of [] (hrf rb (some ⟨tb, 0, none⟩)) rfl (fun w hw => HrPre.made hw 0 1 rfl rfl h6 h12 h13 hp hL) ?_
  cases hRR : R with
  | some l =>
    rintro _ _ ⟨A1, c1, rfl, rfl⟩
    (conv => whnf); repeat ((first | refine RngK.mk (by omega) (by omega) ?_ | refine NzK.mk (by omega) ?_ | refine NnK.mk (by omega) ?_ | refine BdK.mk (by omega) (by omega) (by omega) ?_ | refine InsK.lit (by omega) (by omega) ?_ | refine SpK.lit ?_ | refine GrdK.same ?_ | refine GrdK.tf ?_ | refine GrdK.ft ?_ | refine PickK.t ?_ | refine PickK.f ?_); (conv => whnf))
    exact ⟨_, HSub.of [0] rfl, A1, c1, rfl, rfl⟩
  | none =>
    rintro _ _ ⟨T', x, rfl, rfl⟩
    (conv => whnf); repeat ((first | refine RngK.mk (by omega) (by omega) ?_ | refine NzK.mk (by omega) ?_ | refine NnK.mk (by omega) ?_ | refine BdK.mk (by omega) (by omega) (by omega) ?_ | refine InsK.lit (by omega) (by omega) ?_ | refine SpK.lit ?_ | refine GrdK.same ?_ | refine GrdK.tf ?_ | refine GrdK.ft ?_ | refine PickK.t ?_ | refine PickK.f ?_); (conv => whnf))
    exact ⟨_, HSub.nil _, T', x, rfl, rfl⟩
theorem litI_len {N st b : Nat} {T : List Cd} : ∀ (m p : Nat) (acc l : List UInt8), litI N st b T m p acc = some l → l.length = acc.length + m
  | 0, p, acc, l, hr => by
    simp only [litI, Option.some.injEq] at hr
    rw [← hr]; rfl
  | m + 1, p, acc, l, hr => by
    rw [litI] at hr
    split at hr
    · cases hr
    · have := litI_len m _ _ l hr
      rw [this, List.length_append, List.length_singleton]; omega
theorem oneI_len {bs : List UInt8} {off size b many : Nat} {T : List Cd} {l : List UInt8} (h : oneI bs off size b T many = some l) : l.length = many := by
  unfold oneI at h
  split at h
  · cases h
  · have := litI_len _ _ _ _ h
    simpa using this
def outL (R : Option (List UInt8)) : List UInt8 := R.getD []
set_option maxHeartbeats 1000000 in
theorem implOne_spec (A : Option Addr) (n c : Nat) (bs : List UInt8) (e u : Addr) (off size many : Nat) (B : Option Addr) (m mc b : Nat) (Tab : List Cd) (hn : n ≤ 16777216) (ho : 2 ≤ off) (h0 : 1 ≤ size) (hs : off + size ≤ n) (hT : Tb b Tab) (hmany : many ≤ 1000000) (hm : Tab.length = m) :
    FnS Tryd.prog 24 [.slice A n c, vN off, vN size, vN many, .slice B m mc, vN b] [] (fun w => (Bytes w (blocks []) A n c bs ∧ Laid w (blocks []) e u) ∧ Rd w (blocks []) B m 2 (cdE Tab))
      (fun v H => ∃ A1 c1, v = .tuple #[.slice A1 (outL (oneI bs off size b Tab many)).length c1, vB (oneI bs off size b Tab many).isSome] ∧ H = [.own A1 (outL (oneI bs off size b Tab many)).length c1 5 1 ((outL (oneI bs off size b Tab many)).map vU8)]) := by
  refine FnS.introD Tryd.func24 rfl (by kernel_rfl) rfl fun w hH ⟨⟨hp, hL⟩, hB⟩ => ?_
  have h2b : 2 ^ b ≤ 2 ^ 11 := Nat.pow_le_pow_right (by omega) hT.b1
  have htl := hT.len
  have hrf := fun T mc' => zzOne_spec A n c bs e u off size many T m mc' b Tab hn ho h0 hs hT hmany hm
  obtain ⟨R, hR⟩ : ∃ R, oneI bs off size b Tab many = R := ⟨_, rfl⟩
  rw [hR] at hrf ⊢
  (conv => whnf); repeat ((first | refine RngK.mk (by omega) (by omega) ?_ | refine NzK.mk (by omega) ?_ | refine NnK.mk (by omega) ?_ | refine BdK.mk (by omega) (by omega) (by omega) ?_ | refine InsK.lit (by omega) (by omega) ?_ | refine SpK.lit ?_ | refine GrdK.same ?_ | refine GrdK.tf ?_ | refine GrdK.ft ?_ | refine PickK.t ?_ | refine PickK.f ?_); (conv => whnf))
  refine CallK.of [] (pairsOf_spec B m mc Tab (by omega) hm (fun x hx => by have := hT.mem x hx; have := hT.b1; omega)) rfl (fun w hw => hB.pass hw) ?_
  rintro _ _ ⟨B1, kc, rfl, rfl⟩
  rw [hm]
  (conv => whnf); repeat ((first | refine RngK.mk (by omega) (by omega) ?_ | refine NzK.mk (by omega) ?_ | refine NnK.mk (by omega) ?_ | refine BdK.mk (by omega) (by omega) (by omega) ?_ | refine InsK.lit (by omega) (by omega) ?_ | refine SpK.lit ?_ | refine GrdK.same ?_ | refine GrdK.tf ?_ | refine GrdK.ft ?_ | refine PickK.t ?_ | refine PickK.f ?_); (conv => whnf))
  refine CallK.of [] (hrf B1 kc) rfl (fun w hw => ⟨⟨hp.pass hw, hL.pass hw⟩, Rd.ofOwn hw 0 rfl⟩) ?_
  cases hRR : R with
  | some l =>
    rintro _ _ ⟨A1, c1, rfl, rfl⟩
    have hll := oneI_len (hR.trans hRR)
    (conv => whnf); repeat ((first | refine RngK.mk (by omega) (by omega) ?_ | refine NzK.mk (by omega) ?_ | refine NnK.mk (by omega) ?_ | refine BdK.mk (by omega) (by omega) (by omega) ?_ | refine InsK.lit (by omega) (by omega) ?_ | refine SpK.lit ?_ | refine GrdK.same ?_ | refine GrdK.tf ?_ | refine GrdK.ft ?_ | refine PickK.t ?_ | refine PickK.f ?_); (conv => whnf))
    refine DrwK.ord (by kernel_rfl) [1, 3, 4, 0, 2, 5, 6] (by kernel_rfl) ?_; conv => whnf
    (conv => whnf); repeat ((first | refine RngK.mk (by omega) (by omega) ?_ | refine NzK.mk (by omega) ?_ | refine NnK.mk (by omega) ?_ | refine BdK.mk (by omega) (by omega) (by omega) ?_ | refine InsK.lit (by omega) (by omega) ?_ | refine SpK.lit ?_ | refine GrdK.same ?_ | refine GrdK.tf ?_ | refine GrdK.ft ?_ | refine PickK.t ?_ | refine PickK.f ?_); (conv => whnf))
    refine ValK.eqNil rfl ?_
    (conv => whnf); repeat ((first | refine RngK.mk (by omega) (by omega) ?_ | refine NzK.mk (by omega) ?_ | refine NnK.mk (by omega) ?_ | refine BdK.mk (by omega) (by omega) (by omega) ?_ | refine InsK.lit (by omega) (by omega) ?_ | refine SpK.lit ?_ | refine GrdK.same ?_ | refine GrdK.tf ?_ | refine GrdK.ft ?_ | refine PickK.t ?_ | refine PickK.f ?_); (conv => whnf))
    refine EffK.lit0 rfl rfl fun b => ?_
    (conv => whnf); repeat ((first | refine RngK.mk (by omega) (by omega) ?_ | refine NzK.mk (by omega) ?_ | refine NnK.mk (by omega) ?_ | refine BdK.mk (by omega) (by omega) (by omega) ?_ | refine InsK.lit (by omega) (by omega) ?_ | refine SpK.lit ?_ | refine GrdK.same ?_ | refine GrdK.tf ?_ | refine GrdK.ft ?_ | refine PickK.t ?_ | refine PickK.f ?_); (conv => whnf))
    refine EffK.append 0 (news := l.map vU8) rfl rfl rfl rfl rfl rfl rfl rfl (Src.ownW (sz := 1) (k := 1) rfl (by simp)) vU8_one (by simp [maxLen]; omega) (by show (_ + _) * 1 ≤ _; omega) fun A5 c5 => ?_
    (conv => whnf); repeat ((first | refine RngK.mk (by omega) (by omega) ?_ | refine NzK.mk (by omega) ?_ | refine NnK.mk (by omega) ?_ | refine BdK.mk (by omega) (by omega) (by omega) ?_ | refine InsK.lit (by omega) (by omega) ?_ | refine SpK.lit ?_ | refine GrdK.same ?_ | refine GrdK.tf ?_ | refine GrdK.ft ?_ | refine PickK.t ?_ | refine PickK.f ?_); (conv => whnf))
    refine ⟨_, HSub.of [0] rfl, A5, c5, ?_, ?_⟩
    · rw [Nat.zero_add]; rfl
    · rw [Nat.zero_add]; rfl
  | none =>
    rintro _ _ ⟨T', x, rfl, rfl⟩
    (conv => whnf); repeat ((first | refine RngK.mk (by omega) (by omega) ?_ | refine NzK.mk (by omega) ?_ | refine NnK.mk (by omega) ?_ | refine BdK.mk (by omega) (by omega) (by omega) ?_ | refine InsK.lit (by omega) (by omega) ?_ | refine SpK.lit ?_ | refine GrdK.same ?_ | refine GrdK.tf ?_ | refine GrdK.ft ?_ | refine PickK.t ?_ | refine PickK.f ?_); (conv => whnf))
    refine DrwK.ord (by kernel_rfl) [1, 3, 4, 0, 2, 5, 6] (by kernel_rfl) ?_; conv => whnf
    (conv => whnf); repeat ((first | refine RngK.mk (by omega) (by omega) ?_ | refine NzK.mk (by omega) ?_ | refine NnK.mk (by omega) ?_ | refine BdK.mk (by omega) (by omega) (by omega) ?_ | refine InsK.lit (by omega) (by omega) ?_ | refine SpK.lit ?_ | refine GrdK.same ?_ | refine GrdK.tf ?_ | refine GrdK.ft ?_ | refine PickK.t ?_ | refine PickK.f ?_); (conv => whnf))
    refine ValK.eqIface rfl ?_
    (conv => whnf); repeat ((first | refine RngK.mk (by omega) (by omega) ?_ | refine NzK.mk (by omega) ?_ | refine NnK.mk (by omega) ?_ | refine BdK.mk (by omega) (by omega) (by omega) ?_ | refine InsK.lit (by omega) (by omega) ?_ | refine SpK.lit ?_ | refine GrdK.same ?_ | refine GrdK.tf ?_ | refine GrdK.ft ?_ | refine PickK.t ?_ | refine PickK.f ?_); (conv => whnf))
    refine EffK.lit0 rfl rfl fun b => ?_
    (conv => whnf); repeat ((first | refine RngK.mk (by omega) (by omega) ?_ | refine NzK.mk (by omega) ?_ | refine NnK.mk (by omega) ?_ | refine BdK.mk (by omega) (by omega) (by omega) ?_ | refine InsK.lit (by omega) (by omega) ?_ | refine SpK.lit ?_ | refine GrdK.same ?_ | refine GrdK.tf ?_ | refine GrdK.ft ?_ | refine PickK.t ?_ | refine PickK.f ?_); (conv => whnf))
    refine EffK.append 0 (news := []) rfl rfl rfl rfl rfl rfl rfl rfl (Src.rd (Rd.nil 1)) (fun u hu => by cases hu) (by simp [maxLen]) (by show (_ + _) * 1 ≤ _; omega) fun A5 c5 => ?_
    (conv => whnf); repeat ((first | refine RngK.mk (by omega) (by omega) ?_ | refine NzK.mk (by omega) ?_ | refine NnK.mk (by omega) ?_ | refine BdK.mk (by omega) (by omega) (by omega) ?_ | refine InsK.lit (by omega) (by omega) ?_ | refine SpK.lit ?_ | refine GrdK.same ?_ | refine GrdK.tf ?_ | refine GrdK.ft ?_ | refine PickK.t ?_ | refine PickK.f ?_); (conv => whnf))
    exact ⟨_, HSub.of [0] rfl, A5, c5, rfl, rfl⟩
end Go.Proofs.YtgdhdkjbilifiaaDoor
namespace Go.Proofs.YtgdhdkjbilifiaaDoor
open Go Go.Sx
set_option maxRecDepth 100000
/-- what the reference reads from one stream -/
def strS (bs : List UInt8) (off size b : Nat) (T : List Cd) (many : Nat) : Option (List UInt8 × Nat) :=
  if size < 1 ∨ (bs.getD (off + size - 1) 0).toNat = 0 then none else litS (num bs) off b T many (8 * (off + size - 1) + wd (bs.getD (off + size - 1) 0).toNat - 1) []
set_option maxHeartbeats 4000000 in
theorem readStream_spec (A : Option Addr) (n c : Nat) (bs : List UInt8) (off size many : Nat) (B : Option Addr) (m mc b : Nat) (Tab : List Cd) (hn : n ≤ 16777216) (hs : off + size ≤ n) (hT : Tb b Tab) (hmany : many ≤ 1000000) (hm : Tab.length = m) :
    FnS Tryd.prog 26 [.slice A n c, vN off, vN size, vN many, .slice B m mc, vN b] [] (fun w => Bytes w (blocks []) A n c bs ∧ Rd w (blocks []) B m 2 (cdE Tab))
      (fun v H => match strS bs off size b Tab many with
        | none => v = .tuple #[.slice none 0 0, vB false] ∧ H = []
        | some (l, p) => ∃ A1 c1, v = .tuple #[.slice A1 l.length c1, vB (decide (p = 8 * off))] ∧ H = [.own A1 l.length c1 5 1 (l.map vU8)]) := by
  refine FnS.introD Tryd.func26 rfl (by kernel_rfl) rfl fun w hH ⟨hp, hB⟩ => ?_
  obtain rfl : bs.length = n := hp.len
  have hb0 := hT.b0
  have hb1 := hT.b1
  have htl := hT.len
  have h2b : 2 ^ b ≤ 2 ^ 11 := Nat.pow_le_pow_right (by omega) hb1
  obtain ⟨R, hR⟩ : ∃ R, strS bs off size b Tab many = R := ⟨_, rfl⟩
  rw [hR]
  unfold strS at hR
  (conv => whnf); repeat ((first | refine RngK.mk (by omega) (by omega) ?_ | refine NzK.mk (by omega) ?_ | refine NnK.mk (by omega) ?_ | refine BdK.mk (by omega) (by omega) (by omega) ?_ | refine InsK.lit (by omega) (by omega) ?_ | refine SpK.lit ?_ | refine GrdK.same ?_ | refine GrdK.tf ?_ | refine GrdK.ft ?_ | refine PickK.t ?_ | refine PickK.f ?_); (conv => whnf))
  by_cases h1 : size < 1
  · rw [if_pos (.inl h1)] at hR
    subst hR
    rw [decide_eq_true (show (size : Int) < 1 by omega)]
    (conv => whnf); repeat ((first | refine RngK.mk (by omega) (by omega) ?_ | refine NzK.mk (by omega) ?_ | refine NnK.mk (by omega) ?_ | refine BdK.mk (by omega) (by omega) (by omega) ?_ | refine InsK.lit (by omega) (by omega) ?_ | refine SpK.lit ?_ | refine GrdK.same ?_ | refine GrdK.tf ?_ | refine GrdK.ft ?_ | refine PickK.t ?_ | refine PickK.f ?_); (conv => whnf))
    refine Wp.cond rfl (fun _ => ?_) (fun h => by cases h)
    (conv => whnf); repeat ((first | refine RngK.mk (by omega) (by omega) ?_ | refine NzK.mk (by omega) ?_ | refine NnK.mk (by omega) ?_ | refine BdK.mk (by omega) (by omega) (by omega) ?_ | refine InsK.lit (by omega) (by omega) ?_ | refine SpK.lit ?_ | refine GrdK.same ?_ | refine GrdK.tf ?_ | refine GrdK.ft ?_ | refine PickK.t ?_ | refine PickK.f ?_); (conv => whnf))
    exact ⟨[], HSub.nil _, rfl, rfl⟩
  rw [decide_eq_false (show ¬ (size : Int) < 1 by omega)]
  have hlast : off + size - 1 < bs.length := by omega
  have hgd : bs.getD (off + size - 1) 0 = bs[off + size - 1] := by simp [hlast]
  rw [hgd] at hR
  have e1 : (off : Int) + (size : Int) - 1 = ((off + size - 1 : Nat) : Int) := by omega
  obtain ⟨o, hoe⟩ : ∃ o, off + size - 1 = o := ⟨_, rfl⟩
  have hom : o < bs.length := by omega
  have hR : (if size < 1 ∨ bs[o].toNat = 0 then none else litS (num bs) off b Tab many (8 * o + wd bs[o].toNat - 1) []) = R := by
    subst hoe; exact hR
  rw [hoe] at e1
  (conv => whnf); repeat ((first | refine RngK.mk (by omega) (by omega) ?_ | refine NzK.mk (by omega) ?_ | refine NnK.mk (by omega) ?_ | refine BdK.mk (by omega) (by omega) (by omega) ?_ | refine InsK.lit (by omega) (by omega) ?_ | refine SpK.lit ?_ | refine GrdK.same ?_ | refine GrdK.tf ?_ | refine GrdK.ft ?_ | refine PickK.t ?_ | refine PickK.f ?_); (conv => whnf))
  rw [e1]
  refine InsK.rd hp.rd (by omega) (by omega) ?_
  (conv => whnf); repeat ((first | refine RngK.mk (by omega) (by omega) ?_ | refine NzK.mk (by omega) ?_ | refine NnK.mk (by omega) ?_ | refine BdK.mk (by omega) (by omega) (by omega) ?_ | refine InsK.lit (by omega) (by omega) ?_ | refine SpK.lit ?_ | refine GrdK.same ?_ | refine GrdK.tf ?_ | refine GrdK.ft ?_ | refine PickK.t ?_ | refine PickK.f ?_); (conv => whnf))
  refine LdK.rd (v := vU8 bs[o]) hp.rd o rfl rfl rfl (by simp [hom]) ?_
  (conv => whnf); repeat ((first | refine RngK.mk (by omega) (by omega) ?_ | refine NzK.mk (by omega) ?_ | refine NnK.mk (by omega) ?_ | refine BdK.mk (by omega) (by omega) (by omega) ?_ | refine InsK.lit (by omega) (by omega) ?_ | refine SpK.lit ?_ | refine GrdK.same ?_ | refine GrdK.tf ?_ | refine GrdK.ft ?_ | refine PickK.t ?_ | refine PickK.f ?_); (conv => whnf))
  refine Wp.cond rfl (fun h => ?_) (fun h => ?_)
  · have h := eqT h
    rw [if_pos (.inr (by omega))] at hR
    subst hR
    (conv => whnf); repeat ((first | refine RngK.mk (by omega) (by omega) ?_ | refine NzK.mk (by omega) ?_ | refine NnK.mk (by omega) ?_ | refine BdK.mk (by omega) (by omega) (by omega) ?_ | refine InsK.lit (by omega) (by omega) ?_ | refine SpK.lit ?_ | refine GrdK.same ?_ | refine GrdK.tf ?_ | refine GrdK.ft ?_ | refine PickK.t ?_ | refine PickK.f ?_); (conv => whnf))
    exact ⟨[], HSub.nil _, rfl, rfl⟩
  have h := eqF h
  have g : 0 < bs[o].toNat := by omega
  rw [if_neg (by omega)] at hR
  have hw8 : wd bs[o].toNat ≤ 8 := wd_lt (by have := bs[o].toNat_lt; omega)
  have hwp := wd_pos g
  (conv => whnf); repeat ((first | refine RngK.mk (by omega) (by omega) ?_ | refine NzK.mk (by omega) ?_ | refine NnK.mk (by omega) ?_ | refine BdK.mk (by omega) (by omega) (by omega) ?_ | refine InsK.lit (by omega) (by omega) ?_ | refine SpK.lit ?_ | refine GrdK.same ?_ | refine GrdK.tf ?_ | refine GrdK.ft ?_ | refine PickK.t ?_ | refine PickK.f ?_); (conv => whnf))
  rw [e1]
  refine CallK.of [] (topOf_spec A bs.length c o bs hom hn) rfl (fun w hw => hp.pass hw) ?_
  rintro _ _ ⟨rfl, rfl⟩
  rw [if_neg (by omega)]
  obtain ⟨p0, hp0⟩ : ∃ p0, 8 * o + wd bs[o].toNat - 1 = p0 := ⟨_, rfl⟩
  rw [hp0] at hR ⊢
  have hp1 : 8 * off ≤ p0 := by omega
  have hp2 : p0 ≤ 8 * bs.length := by omega
  clear hp0 hw8 hwp h g
  (conv => whnf); repeat ((first | refine RngK.mk (by omega) (by omega) ?_ | refine NzK.mk (by omega) ?_ | refine NnK.mk (by omega) ?_ | refine BdK.mk (by omega) (by omega) (by omega) ?_ | refine InsK.lit (by omega) (by omega) ?_ | refine SpK.lit ?_ | refine GrdK.same ?_ | refine GrdK.tf ?_ | refine GrdK.ft ?_ | refine PickK.t ?_ | refine PickK.f ?_); (conv => whnf))
  refine EffK.lit0 rfl rfl fun bk => ?_
  (conv => whnf); repeat ((first | refine RngK.mk (by omega) (by omega) ?_ | refine NzK.mk (by omega) ?_ | refine NnK.mk (by omega) ?_ | refine BdK.mk (by omega) (by omega) (by omega) ?_ | refine InsK.lit (by omega) (by omega) ?_ | refine SpK.lit ?_ | refine GrdK.same ?_ | refine GrdK.tf ?_ | refine GrdK.ft ?_ | refine PickK.t ?_ | refine PickK.f ?_); (conv => whnf))
  refine Wp.cutEx 0 (fun t : List UInt8 × Option Addr × Nat × Nat => [(1, vN off), (14, vN t.2.2.2), (15, .slice t.2.1 t.1.length t.2.2.1)]) (fun t => [.own t.2.1 t.1.length t.2.2.1 5 1 (t.1.map vU8)]) (fun t => R = some (t.1, t.2.2.2) ∧ t.2.2.2 ≤ 8 * bs.length) ?_ fun ⟨l, A1, c1, p⟩ ⟨hl, hpl⟩ => ?_
  rotate_left
  · dsimp only at hl hpl ⊢
    subst hl
    (conv => whnf); repeat ((first | refine RngK.mk (by omega) (by omega) ?_ | refine NzK.mk (by omega) ?_ | refine NnK.mk (by omega) ?_ | refine BdK.mk (by omega) (by omega) (by omega) ?_ | refine InsK.lit (by omega) (by omega) ?_ | refine SpK.lit ?_ | refine GrdK.same ?_ | refine GrdK.tf ?_ | refine GrdK.ft ?_ | refine PickK.t ?_ | refine PickK.f ?_); (conv => whnf))
    have : (((p : Nat) : Int) == 8 * ((off : Nat) : Int)) = decide (p = 8 * off) := by
      by_cases hd : p = 8 * off
      · rw [decide_eq_true hd]; simp; omega
      · rw [decide_eq_false hd]; simp; omega
    rw [this]
    exact ⟨_, HSub.refl _, A1, c1, rfl, rfl⟩
  refine Wp.loop (fun t : Nat × List UInt8 × Option Addr × Nat × Nat => [(0, .slice A bs.length c), (1, vN off), (4, .slice B m mc), (5, vN b), (14, vN t.2.2.2.2), (15, .slice t.2.2.1 t.2.1.length t.2.2.2.1), (37, vN many), (38, vN t.1)])
    (fun t => [.own t.2.2.1 t.2.1.length t.2.2.2.1 5 1 (t.2.1.map vU8)])
    (fun t => t.1 ≤ many ∧ t.2.1.length = t.1 ∧ 8 * off ≤ t.2.2.2.2 ∧ t.2.2.2.2 ≤ 8 * bs.length ∧ litS (num bs) off b Tab (many - t.1) t.2.2.2.2 t.2.1 = R) (fun t => many - t.1) (0, [], some ⟨bk, 0, none⟩, 0, p0)
    ⟨rfl, rfl, rfl, rfl, rfl, rfl, rfl, rfl, trivial⟩ (HSub.refl _) ⟨Nat.zero_le _, rfl, hp1, hp2, hR⟩ fun ⟨i, l, A1, c1, p⟩ ⟨hi, hli, hp1, hp2, hR⟩ => ?_
  dsimp only at hi hli hp1 hp2 hR ⊢
  (conv => whnf); repeat ((first | refine RngK.mk (by omega) (by omega) ?_ | refine NzK.mk (by omega) ?_ | refine NnK.mk (by omega) ?_ | refine BdK.mk (by omega) (by omega) (by omega) ?_ | refine InsK.lit (by omega) (by omega) ?_ | refine SpK.lit ?_ | refine GrdK.same ?_ | refine GrdK.tf ?_ | refine GrdK.ft ?_ | refine PickK.t ?_ | refine PickK.f ?_); (conv => whnf))
  refine Wp.cond rfl (fun h => ?_) (fun h => ?_)
  rotate_left
  · have h := dF h
    have : i = many := by omega
    subst this
    rw [Nat.sub_self, litS] at hR
    (conv => whnf); repeat ((first | refine RngK.mk (by omega) (by omega) ?_ | refine NzK.mk (by omega) ?_ | refine NnK.mk (by omega) ?_ | refine BdK.mk (by omega) (by omega) (by omega) ?_ | refine InsK.lit (by omega) (by omega) ?_ | refine SpK.lit ?_ | refine GrdK.same ?_ | refine GrdK.tf ?_ | refine GrdK.ft ?_ | refine PickK.t ?_ | refine PickK.f ?_); (conv => whnf))
    exact ⟨(l, A1, c1, p), ⟨rfl, rfl, rfl, trivial⟩, HSub.refl _, hR.symm, hp2⟩
  have h := dT h
  obtain ⟨d, hd⟩ : ∃ d, many - i = d + 1 := ⟨many - i - 1, by omega⟩
  rw [hd, litS] at hR
  (conv => whnf); repeat ((first | refine RngK.mk (by omega) (by omega) ?_ | refine NzK.mk (by omega) ?_ | refine NnK.mk (by omega) ?_ | refine BdK.mk (by omega) (by omega) (by omega) ?_ | refine InsK.lit (by omega) (by omega) ?_ | refine SpK.lit ?_ | refine GrdK.same ?_ | refine GrdK.tf ?_ | refine GrdK.ft ?_ | refine PickK.t ?_ | refine PickK.f ?_); (conv => whnf))
  have emin : (if (p : Int) - 8 * (off : Int) < (b : Int) then (p : Int) - 8 * (off : Int) else (b : Int)) = ((min b (p - 8 * off) : Nat) : Int) := by
    split <;> omega
  rw [emin]
  obtain ⟨k, hk⟩ : ∃ k, min b (p - 8 * off) = k := ⟨_, rfl⟩
  rw [hk] at hR ⊢
  have hkb : k ≤ b := by omega
  have hkp : 8 * off + k ≤ p := by omega
  have epk : (p : Int) - (k : Int) = ((p - k : Nat) : Int) := by omega
  rw [epk]
  refine CallK.of [] (bitsAt_spec A bs.length c bs (p - k) k (by omega) (by omega)) rfl (fun w hw => ⟨hp.pass hw, by omega⟩) ?_
  rintro _ _ ⟨rfl, rfl⟩
  have hlt := bitsN_lt (num bs) (p - k) k
  have hpw : 2 ^ b = 2 ^ k * 2 ^ (b - k) := by rw [← Nat.pow_add]; congr 1; omega
  have hi2 : bitsN (num bs) (p - k) k * 2 ^ (b - k) < 2 ^ b := by
    rw [hpw]
    exact Nat.mul_lt_mul_of_pos_right hlt (Nat.two_pow_pos _)
  have ebk : (b : Int) - (k : Int) = ((b - k : Nat) : Int) := by omega
  have esh : ishl .i64 ((bitsN (num bs) (p - k) k : Nat) : Int) ((b - k : Nat) : Int) = ((bitsN (num bs) (p - k) k * 2 ^ (b - k) : Nat) : Int) := ishl_i64 (by omega) (by omega)
  have hent := hT.ent hi2
  have hcd := cdE_at (l := Tab) (k := bitsN (num bs) (p - k) k * 2 ^ (b - k)) (by omega)
  have hex : Tab[bitsN (num bs) (p - k) k * 2 ^ (b - k)]'(by omega) = ent Tab (bitsN (num bs) (p - k) k * 2 ^ (b - k)) := by
    have := ent_at (T := Tab) (i := bitsN (num bs) (p - k) k * 2 ^ (b - k)) (by omega)
    exact (List.getElem?_eq_some_iff.1 this).2
  rw [hex] at hcd
  (conv => whnf); repeat ((first | refine RngK.mk (by omega) (by omega) ?_ | refine NzK.mk (by omega) ?_ | refine NnK.mk (by omega) ?_ | refine BdK.mk (by omega) (by omega) (by omega) ?_ | refine InsK.lit (by omega) (by omega) ?_ | refine SpK.lit ?_ | refine GrdK.same ?_ | refine GrdK.tf ?_ | refine GrdK.ft ?_ | refine PickK.t ?_ | refine PickK.f ?_); (conv => whnf))
  rw [ebk]
  (conv => whnf); repeat ((first | refine RngK.mk (by omega) (by omega) ?_ | refine NzK.mk (by omega) ?_ | refine NnK.mk (by omega) ?_ | refine BdK.mk (by omega) (by omega) (by omega) ?_ | refine InsK.lit (by omega) (by omega) ?_ | refine SpK.lit ?_ | refine GrdK.same ?_ | refine GrdK.tf ?_ | refine GrdK.ft ?_ | refine PickK.t ?_ | refine PickK.f ?_); (conv => whnf))
  rw [esh]
  obtain ⟨ix, hix⟩ : ∃ ix, bitsN (num bs) (p - k) k * 2 ^ (b - k) = ix := ⟨_, rfl⟩
  rw [hix] at hR hi2 hent hcd ⊢
  obtain ⟨x, hx⟩ : ∃ x, ent Tab ix = x := ⟨_, rfl⟩
  rw [hx] at hent hcd hR
  obtain ⟨x1, x2, x3⟩ := hent
  refine InsK.rd hB (by omega) (by omega) ?_
  (conv => whnf); repeat ((first | refine RngK.mk (by omega) (by omega) ?_ | refine NzK.mk (by omega) ?_ | refine NnK.mk (by omega) ?_ | refine BdK.mk (by omega) (by omega) (by omega) ?_ | refine InsK.lit (by omega) (by omega) ?_ | refine SpK.lit ?_ | refine GrdK.same ?_ | refine GrdK.tf ?_ | refine GrdK.ft ?_ | refine PickK.t ?_ | refine PickK.f ?_); (conv => whnf))
  refine LdK.rdN (cs := cdC x) hB (ix * 2) rfl rfl rfl rfl rfl rfl hcd ?_
  (conv => whnf); repeat ((first | refine RngK.mk (by omega) (by omega) ?_ | refine NzK.mk (by omega) ?_ | refine NnK.mk (by omega) ?_ | refine BdK.mk (by omega) (by omega) (by omega) ?_ | refine InsK.lit (by omega) (by omega) ?_ | refine SpK.lit ?_ | refine GrdK.same ?_ | refine GrdK.tf ?_ | refine GrdK.ft ?_ | refine PickK.t ?_ | refine PickK.f ?_); (conv => whnf))
  refine ⟨_, _, rfl, rfl, ?_⟩
  intro b17
  (conv => whnf); repeat ((first | refine RngK.mk (by omega) (by omega) ?_ | refine NzK.mk (by omega) ?_ | refine NnK.mk (by omega) ?_ | refine BdK.mk (by omega) (by omega) (by omega) ?_ | refine InsK.lit (by omega) (by omega) ?_ | refine SpK.lit ?_ | refine GrdK.same ?_ | refine GrdK.tf ?_ | refine GrdK.ft ?_ | refine PickK.t ?_ | refine PickK.f ?_); (conv => whnf))
  refine StK.blkNE 0 (cdC x) rfl rfl rfl rfl rfl rfl ?_
  (conv => whnf); repeat ((first | refine RngK.mk (by omega) (by omega) ?_ | refine NzK.mk (by omega) ?_ | refine NnK.mk (by omega) ?_ | refine BdK.mk (by omega) (by omega) (by omega) ?_ | refine InsK.lit (by omega) (by omega) ?_ | refine SpK.lit ?_ | refine GrdK.same ?_ | refine GrdK.tf ?_ | refine GrdK.ft ?_ | refine PickK.t ?_ | refine PickK.f ?_); (conv => whnf))
  refine LdK.blk 0 rfl rfl rfl rfl ?_
  (conv => whnf); repeat ((first | refine RngK.mk (by omega) (by omega) ?_ | refine NzK.mk (by omega) ?_ | refine NnK.mk (by omega) ?_ | refine BdK.mk (by omega) (by omega) (by omega) ?_ | refine InsK.lit (by omega) (by omega) ?_ | refine SpK.lit ?_ | refine GrdK.same ?_ | refine GrdK.tf ?_ | refine GrdK.ft ?_ | refine PickK.t ?_ | refine PickK.f ?_); (conv => whnf))
  refine Wp.cond rfl (fun h => ?_) (fun h => ?_)
  · have h := dT h
    rw [if_pos (by omega)] at hR
    subst hR
    (conv => whnf); repeat ((first | refine RngK.mk (by omega) (by omega) ?_ | refine NzK.mk (by omega) ?_ | refine NnK.mk (by omega) ?_ | refine BdK.mk (by omega) (by omega) (by omega) ?_ | refine InsK.lit (by omega) (by omega) ?_ | refine SpK.lit ?_ | refine GrdK.same ?_ | refine GrdK.tf ?_ | refine GrdK.ft ?_ | refine PickK.t ?_ | refine PickK.f ?_); (conv => whnf))
    exact ⟨[], HSub.nil _, rfl, rfl⟩
  have h := dF h
  rw [if_neg (by omega)] at hR
  have e8 : IntKind.u8.wrap (x.1 : Int) = (x.1 : Int) := wrap_u_lt (k := .u8) rfl (by show _ < 256; omega)
  (conv => whnf); repeat ((first | refine RngK.mk (by omega) (by omega) ?_ | refine NzK.mk (by omega) ?_ | refine NnK.mk (by omega) ?_ | refine BdK.mk (by omega) (by omega) (by omega) ?_ | refine InsK.lit (by omega) (by omega) ?_ | refine SpK.lit ?_ | refine GrdK.same ?_ | refine GrdK.tf ?_ | refine GrdK.ft ?_ | refine PickK.t ?_ | refine PickK.f ?_); (conv => whnf))
  refine LdK.blk 0 rfl rfl rfl rfl ?_
  (conv => whnf); repeat ((first | refine RngK.mk (by omega) (by omega) ?_ | refine NzK.mk (by omega) ?_ | refine NnK.mk (by omega) ?_ | refine BdK.mk (by omega) (by omega) (by omega) ?_ | refine InsK.lit (by omega) (by omega) ?_ | refine SpK.lit ?_ | refine GrdK.same ?_ | refine GrdK.tf ?_ | refine GrdK.ft ?_ | refine PickK.t ?_ | refine PickK.f ?_); (conv => whnf))
  refine LdK.blk 0 rfl rfl rfl rfl ?_
  (conv => whnf); repeat ((first | refine RngK.mk (by omega) (by omega) ?_ | refine NzK.mk (by omega) ?_ | refine NnK.mk (by omega) ?_ | refine BdK.mk (by omega) (by omega) (by omega) ?_ | refine InsK.lit (by omega) (by omega) ?_ | refine SpK.lit ?_ | refine GrdK.same ?_ | refine GrdK.tf ?_ | refine GrdK.ft ?_ | refine PickK.t ?_ | refine PickK.f ?_); (conv => whnf))
  rw [e8]
  refine EffK.litV rfl rfl rfl rfl rfl rfl rfl rfl rfl ?_
  (conv => whnf); repeat ((first | refine RngK.mk (by omega) (by omega) ?_ | refine NzK.mk (by omega) ?_ | refine NnK.mk (by omega) ?_ | refine BdK.mk (by omega) (by omega) (by omega) ?_ | refine InsK.lit (by omega) (by omega) ?_ | refine SpK.lit ?_ | refine GrdK.same ?_ | refine GrdK.tf ?_ | refine GrdK.ft ?_ | refine PickK.t ?_ | refine PickK.f ?_); (conv => whnf))
  intro b3
  (conv => whnf); repeat ((first | refine RngK.mk (by omega) (by omega) ?_ | refine NzK.mk (by omega) ?_ | refine NnK.mk (by omega) ?_ | refine BdK.mk (by omega) (by omega) (by omega) ?_ | refine InsK.lit (by omega) (by omega) ?_ | refine SpK.lit ?_ | refine GrdK.same ?_ | refine GrdK.tf ?_ | refine GrdK.ft ?_ | refine PickK.t ?_ | refine PickK.f ?_); (conv => whnf))
  refine EffK.append 2 (news := [.int .u8 (x.1 : Int)]) rfl rfl rfl rfl rfl rfl rfl rfl (Src.ownW (k := 0) rfl rfl) (by intro u hu; obtain rfl := List.mem_singleton.1 hu; rfl) (by simp [maxLen]; omega) (by show (_ + _) * 1 ≤ _; omega) fun A' cap' => ?_
  (conv => whnf); repeat ((first | refine RngK.mk (by omega) (by omega) ?_ | refine NzK.mk (by omega) ?_ | refine NnK.mk (by omega) ?_ | refine BdK.mk (by omega) (by omega) (by omega) ?_ | refine InsK.lit (by omega) (by omega) ?_ | refine SpK.lit ?_ | refine GrdK.same ?_ | refine GrdK.tf ?_ | refine GrdK.ft ?_ | refine PickK.t ?_ | refine PickK.f ?_); (conv => whnf))
  refine ⟨(i + 1, l ++ [UInt8.ofNat x.1], A', cap', p - x.2), ⟨rfl, rfl, rfl, rfl, ?_, ?_, rfl, rfl, trivial⟩, ?_, ⟨by simp only; omega, by simp only [List.length_append, List.length_singleton]; omega, by simp only; omega, by simp only; omega, ?_⟩, by simp only; omega⟩
  · show some (vI ((p : Int) - (x.2 : Int))) = some (vI ((p - x.2 : Nat) : Int))
    rw [show (p : Int) - (x.2 : Int) = ((p - x.2 : Nat) : Int) by omega]
  · show some (Value.slice A' _ cap') = some (Value.slice A' _ cap')
    rw [List.length_append]; rfl
  · dsimp only
    rw [u8_snoc l x1, List.length_append]
    exact HSub.of [2] rfl
  · dsimp only
    rw [show many - (i + 1) = d by omega]
    exact hR
end Go.Proofs.YtgdhdkjbilifiaaDoor
namespace Go.Proofs.YtgdhdkjbilifiaaDoor
open Go Go.Sx
set_option maxRecDepth 100000
theorem strS_oneI {b : Nat} {T : List Cd} (h : Tb b T) {bs : List UInt8} {off size many : Nat} {l : List UInt8} {q : Nat} (hs : 2 ≤ off) (hr : strS bs off size b T many = some (l, q)) : oneI bs off size b T many = some l := by
  unfold strS at hr
  unfold oneI
  split at hr
  · cases hr
  · rename_i g
    rw [if_neg (fun g2 => g (.inr g2))]
    refine litS_litI h hs _ _ _ _ q ?_ hr
    have := wd_pos (n := (bs.getD (off + size - 1) 0).toNat) (by omega)
    omega
theorem strS_len {bs : List UInt8} {off size b many : Nat} {T : List Cd} {l : List UInt8} {q : Nat} (hr : strS bs off size b T many = some (l, q)) : l.length = many := by
  unfold strS at hr
  split at hr
  · cases hr
  · have := litS_len _ _ _ _ _ hr
    simpa using this
set_option maxHeartbeats 4000000 in
theorem lawStreamReference (A : Option Addr) (n c : Nat) (bs : List UInt8) (off bytes many : Int) (B : Option Addr) (m c' : Nat) (zs : List Int) (e u : Addr) :
    FnS Tryd.prog 8 [.slice A n c, vI off, vI bytes, vI many, .slice B m c'] []
      (fun w => Bytes w (blocks []) A n c bs ∧ (Lit.int .i64 off).wf = true ∧ (Lit.int .i64 bytes).wf = true ∧ (Lit.int .i64 many).wf = true ∧ (Rd w (blocks []) B m 1 (zs.map (.int .i64)) ∧ m ≤ c' ∧ c' ≤ maxLen ∧ ∀ z ∈ zs, (Lit.int .i64 z).wf = true) ∧ Laid w (blocks []) e u) (Is (vB true)) := by
  refine FnS.introD Tryd.func8 rfl (by kernel_rfl) rfl fun w hH ⟨hp, wf1, wf2, wf3, ⟨hz, hz1, hz2, hz3⟩, hL⟩ => ?_
  have hle := hp.le
  have hmx := hp.max
  have wf1 := wf_i64 wf1
  have wf2 := wf_i64 wf2
  have wf3 := wf_i64 wf3
  have hz2' := hz2
  simp only [maxLen] at hmx hz2'
  obtain rfl : bs.length = n := hp.len
  obtain rfl : zs.length = m := by simpa using hz.len
  (conv => whnf); repeat ((first | refine RngK.mk (by omega) (by omega) ?_ | refine NzK.mk (by omega) ?_ | refine NnK.mk (by omega) ?_ | refine BdK.mk (by omega) (by omega) (by omega) ?_ | refine InsK.lit (by omega) (by omega) ?_ | refine SpK.lit ?_ | refine GrdK.same ?_ | refine GrdK.tf ?_ | refine GrdK.ft ?_ | refine PickK.t ?_ | refine PickK.f ?_); (conv => whnf))
  by_cases c1 : ((bs.length : Nat) : Int) > 2147483647
  · rw [decide_eq_true c1]
    (conv => whnf); repeat ((first | refine RngK.mk (by omega) (by omega) ?_ | refine NzK.mk (by omega) ?_ | refine NnK.mk (by omega) ?_ | refine BdK.mk (by omega) (by omega) (by omega) ?_ | refine InsK.lit (by omega) (by omega) ?_ | refine SpK.lit ?_ | refine GrdK.same ?_ | refine GrdK.tf ?_ | refine GrdK.ft ?_ | refine PickK.t ?_ | refine PickK.f ?_); (conv => whnf))
    refine Wp.cond rfl (fun _ => ?_) (fun h => by cases h)
    (conv => whnf); repeat ((first | refine RngK.mk (by omega) (by omega) ?_ | refine NzK.mk (by omega) ?_ | refine NnK.mk (by omega) ?_ | refine BdK.mk (by omega) (by omega) (by omega) ?_ | refine InsK.lit (by omega) (by omega) ?_ | refine SpK.lit ?_ | refine GrdK.same ?_ | refine GrdK.tf ?_ | refine GrdK.ft ?_ | refine PickK.t ?_ | refine PickK.f ?_); (conv => whnf))
    exact ⟨[], HSub.nil _, rfl, rfl⟩
  rw [decide_eq_false c1]
  (conv => whnf); repeat ((first | refine RngK.mk (by omega) (by omega) ?_ | refine NzK.mk (by omega) ?_ | refine NnK.mk (by omega) ?_ | refine BdK.mk (by omega) (by omega) (by omega) ?_ | refine InsK.lit (by omega) (by omega) ?_ | refine SpK.lit ?_ | refine GrdK.same ?_ | refine GrdK.tf ?_ | refine GrdK.ft ?_ | refine PickK.t ?_ | refine PickK.f ?_); (conv => whnf))
  by_cases c2 : ((zs.length : Nat) : Int) > 2147483647
  · rw [decide_eq_true c2]
    refine Wp.cond rfl (fun _ => ?_) (fun h => by cases h)
    (conv => whnf); repeat ((first | refine RngK.mk (by omega) (by omega) ?_ | refine NzK.mk (by omega) ?_ | refine NnK.mk (by omega) ?_ | refine BdK.mk (by omega) (by omega) (by omega) ?_ | refine InsK.lit (by omega) (by omega) ?_ | refine SpK.lit ?_ | refine GrdK.same ?_ | refine GrdK.tf ?_ | refine GrdK.ft ?_ | refine PickK.t ?_ | refine PickK.f ?_); (conv => whnf))
    exact ⟨[], HSub.nil _, rfl, rfl⟩
  rw [decide_eq_false c2]
  refine Wp.cond rfl (fun h => by cases h) (fun _ => ?_)
  (conv => whnf); repeat ((first | refine RngK.mk (by omega) (by omega) ?_ | refine NzK.mk (by omega) ?_ | refine NnK.mk (by omega) ?_ | refine BdK.mk (by omega) (by omega) (by omega) ?_ | refine InsK.lit (by omega) (by omega) ?_ | refine SpK.lit ?_ | refine GrdK.same ?_ | refine GrdK.tf ?_ | refine GrdK.ft ?_ | refine PickK.t ?_ | refine PickK.f ?_); (conv => whnf))
  refine EffK.litV rfl rfl rfl rfl rfl rfl rfl rfl rfl ?_
  (conv => whnf); repeat ((first | refine RngK.mk (by omega) (by omega) ?_ | refine NzK.mk (by omega) ?_ | refine NnK.mk (by omega) ?_ | refine BdK.mk (by omega) (by omega) (by omega) ?_ | refine InsK.lit (by omega) (by omega) ?_ | refine SpK.lit ?_ | refine GrdK.same ?_ | refine GrdK.tf ?_ | refine GrdK.ft ?_ | refine PickK.t ?_ | refine PickK.f ?_); (conv => whnf))
  intro b1
  (conv => whnf); repeat ((first | refine RngK.mk (by omega) (by omega) ?_ | refine NzK.mk (by omega) ?_ | refine NnK.mk (by omega) ?_ | refine BdK.mk (by omega) (by omega) (by omega) ?_ | refine InsK.lit (by omega) (by omega) ?_ | refine SpK.lit ?_ | refine GrdK.same ?_ | refine GrdK.tf ?_ | refine GrdK.ft ?_ | refine PickK.t ?_ | refine PickK.f ?_); (conv => whnf))
  refine CallK.of [] (tooLong_spec (some ⟨b1, 0, none⟩) 2 2 [(bs.length : Int), (zs.length : Int)] (by intro x hx; simp only [List.mem_cons, List.not_mem_nil, or_false] at hx; omega)) rfl (fun w hw => ⟨Rd.ofOwn hw 0 rfl, by decide⟩) ?_
  rintro _ _ ⟨rfl, rfl⟩
  rw [tooLong_2]
  (conv => whnf); repeat ((first | refine RngK.mk (by omega) (by omega) ?_ | refine NzK.mk (by omega) ?_ | refine NnK.mk (by omega) ?_ | refine BdK.mk (by omega) (by omega) (by omega) ?_ | refine InsK.lit (by omega) (by omega) ?_ | refine SpK.lit ?_ | refine GrdK.same ?_ | refine GrdK.tf ?_ | refine GrdK.ft ?_ | refine PickK.t ?_ | refine PickK.f ?_); (conv => whnf))
  refine Wp.cond rfl (fun g2 => ?_) (fun g2 => ?_)
  · (conv => whnf); repeat ((first | refine RngK.mk (by omega) (by omega) ?_ | refine NzK.mk (by omega) ?_ | refine NnK.mk (by omega) ?_ | refine BdK.mk (by omega) (by omega) (by omega) ?_ | refine InsK.lit (by omega) (by omega) ?_ | refine SpK.lit ?_ | refine GrdK.same ?_ | refine GrdK.tf ?_ | refine GrdK.ft ?_ | refine PickK.t ?_ | refine PickK.f ?_); (conv => whnf))
    exact ⟨[], HSub.nil _, rfl, rfl⟩
  have g2 := dF g2
  have hn1 : bs.length ≤ 1000000 := by omega
  have hn2 : zs.length ≤ 1000000 := by omega
  clear g2 c1 c2
  (conv => whnf); repeat ((first | refine RngK.mk (by omega) (by omega) ?_ | refine NzK.mk (by omega) ?_ | refine NnK.mk (by omega) ?_ | refine BdK.mk (by omega) (by omega) (by omega) ?_ | refine InsK.lit (by omega) (by omega) ?_ | refine SpK.lit ?_ | refine GrdK.same ?_ | refine GrdK.tf ?_ | refine GrdK.ft ?_ | refine PickK.t ?_ | refine PickK.f ?_); (conv => whnf))
  refine CallK.of [] (whole_spec B zs.length c' zs hn2 rfl) rfl (fun w hw => hz.pass hw) ?_
  cases hwz : wholeZ zs with
  | none =>
    rintro _ _ ⟨rfl, rfl⟩
    (conv => whnf); repeat ((first | refine RngK.mk (by omega) (by omega) ?_ | refine NzK.mk (by omega) ?_ | refine NnK.mk (by omega) ?_ | refine BdK.mk (by omega) (by omega) (by omega) ?_ | refine InsK.lit (by omega) (by omega) ?_ | refine SpK.lit ?_ | refine GrdK.same ?_ | refine GrdK.tf ?_ | refine GrdK.ft ?_ | refine PickK.t ?_ | refine PickK.f ?_); (conv => whnf))
    refine Wp.cond rfl (fun _ => ?_) (fun h => by cases h)
    (conv => whnf); repeat ((first | refine RngK.mk (by omega) (by omega) ?_ | refine NzK.mk (by omega) ?_ | refine NnK.mk (by omega) ?_ | refine BdK.mk (by omega) (by omega) (by omega) ?_ | refine InsK.lit (by omega) (by omega) ?_ | refine SpK.lit ?_ | refine GrdK.same ?_ | refine GrdK.tf ?_ | refine GrdK.ft ?_ | refine PickK.t ?_ | refine PickK.f ?_); (conv => whnf))
    refine CallK.of [] (coded_spec e u) rfl (fun w hw => hL.pass hw) ?_
    rintro _ _ ⟨rfl, rfl⟩
    (conv => whnf); repeat ((first | refine RngK.mk (by omega) (by omega) ?_ | refine NzK.mk (by omega) ?_ | refine NnK.mk (by omega) ?_ | refine BdK.mk (by omega) (by omega) (by omega) ?_ | refine InsK.lit (by omega) (by omega) ?_ | refine SpK.lit ?_ | refine GrdK.same ?_ | refine GrdK.tf ?_ | refine GrdK.ft ?_ | refine PickK.t ?_ | refine PickK.f ?_); (conv => whnf))
    exact ⟨[], HSub.nil _, rfl, rfl⟩
  | some r =>
  obtain ⟨all, b⟩ := r
  rintro _ _ ⟨A1, c1, rfl, rfl⟩
  obtain ⟨hall, hwn⟩ := wholeZ_some hwz
  have hW := wholeN_facts hwn
  have hal : all.length = zs.length + 1 := by rw [hW.al, List.length_append, toN_len]; rfl
  (conv => whnf); repeat ((first | refine RngK.mk (by omega) (by omega) ?_ | refine NzK.mk (by omega) ?_ | refine NnK.mk (by omega) ?_ | refine BdK.mk (by omega) (by omega) (by omega) ?_ | refine InsK.lit (by omega) (by omega) ?_ | refine SpK.lit ?_ | refine GrdK.same ?_ | refine GrdK.tf ?_ | refine GrdK.ft ?_ | refine PickK.t ?_ | refine PickK.f ?_); (conv => whnf))
  by_cases c3 : ((all.length : Nat) : Int) > 256
  · rw [decide_eq_true c3]
    (conv => whnf); repeat ((first | refine RngK.mk (by omega) (by omega) ?_ | refine NzK.mk (by omega) ?_ | refine NnK.mk (by omega) ?_ | refine BdK.mk (by omega) (by omega) (by omega) ?_ | refine InsK.lit (by omega) (by omega) ?_ | refine SpK.lit ?_ | refine GrdK.same ?_ | refine GrdK.tf ?_ | refine GrdK.ft ?_ | refine PickK.t ?_ | refine PickK.f ?_); (conv => whnf))
    refine Wp.cond rfl (fun _ => ?_) (fun h => by cases h)
    (conv => whnf); repeat ((first | refine RngK.mk (by omega) (by omega) ?_ | refine NzK.mk (by omega) ?_ | refine NnK.mk (by omega) ?_ | refine BdK.mk (by omega) (by omega) (by omega) ?_ | refine InsK.lit (by omega) (by omega) ?_ | refine SpK.lit ?_ | refine GrdK.same ?_ | refine GrdK.tf ?_ | refine GrdK.ft ?_ | refine PickK.t ?_ | refine PickK.f ?_); (conv => whnf))
    refine CallK.of [] (coded_spec e u) rfl (fun w hw => hL.pass hw) ?_
    rintro _ _ ⟨rfl, rfl⟩
    (conv => whnf); repeat ((first | refine RngK.mk (by omega) (by omega) ?_ | refine NzK.mk (by omega) ?_ | refine NnK.mk (by omega) ?_ | refine BdK.mk (by omega) (by omega) (by omega) ?_ | refine InsK.lit (by omega) (by omega) ?_ | refine SpK.lit ?_ | refine GrdK.same ?_ | refine GrdK.tf ?_ | refine GrdK.ft ?_ | refine PickK.t ?_ | refine PickK.f ?_); (conv => whnf))
    exact ⟨[], HSub.nil _, rfl, rfl⟩
  rw [decide_eq_false c3]
  (conv => whnf); repeat ((first | refine RngK.mk (by omega) (by omega) ?_ | refine NzK.mk (by omega) ?_ | refine NnK.mk (by omega) ?_ | refine BdK.mk (by omega) (by omega) (by omega) ?_ | refine InsK.lit (by omega) (by omega) ?_ | refine SpK.lit ?_ | refine GrdK.same ?_ | refine GrdK.tf ?_ | refine GrdK.ft ?_ | refine PickK.t ?_ | refine PickK.f ?_); (conv => whnf))
  by_cases c4 : off < 2
  · rw [decide_eq_true c4]
    (conv => whnf); repeat ((first | refine RngK.mk (by omega) (by omega) ?_ | refine NzK.mk (by omega) ?_ | refine NnK.mk (by omega) ?_ | refine BdK.mk (by omega) (by omega) (by omega) ?_ | refine InsK.lit (by omega) (by omega) ?_ | refine SpK.lit ?_ | refine GrdK.same ?_ | refine GrdK.tf ?_ | refine GrdK.ft ?_ | refine PickK.t ?_ | refine PickK.f ?_); (conv => whnf))
    refine Wp.cond rfl (fun _ => ?_) (fun h => by cases h)
    (conv => whnf); repeat ((first | refine RngK.mk (by omega) (by omega) ?_ | refine NzK.mk (by omega) ?_ | refine NnK.mk (by omega) ?_ | refine BdK.mk (by omega) (by omega) (by omega) ?_ | refine InsK.lit (by omega) (by omega) ?_ | refine SpK.lit ?_ | refine GrdK.same ?_ | refine GrdK.tf ?_ | refine GrdK.ft ?_ | refine PickK.t ?_ | refine PickK.f ?_); (conv => whnf))
    refine CallK.of [] (coded_spec e u) rfl (fun w hw => hL.pass hw) ?_
    rintro _ _ ⟨rfl, rfl⟩
    (conv => whnf); repeat ((first | refine RngK.mk (by omega) (by omega) ?_ | refine NzK.mk (by omega) ?_ | refine NnK.mk (by omega) ?_ | refine BdK.mk (by omega) (by omega) (by omega) ?_ | refine InsK.lit (by omega) (by omega) ?_ | refine SpK.lit ?_ | refine GrdK.same ?_ | refine GrdK.tf ?_ | refine GrdK.ft ?_ | refine PickK.t ?_ | refine PickK.f ?_); (conv => whnf))
    exact ⟨[], HSub.nil _, rfl, rfl⟩
  rw [decide_eq_false c4]
  (conv => whnf); repeat ((first | refine RngK.mk (by omega) (by omega) ?_ | refine NzK.mk (by omega) ?_ | refine NnK.mk (by omega) ?_ | refine BdK.mk (by omega) (by omega) (by omega) ?_ | refine InsK.lit (by omega) (by omega) ?_ | refine SpK.lit ?_ | refine GrdK.same ?_ | refine GrdK.tf ?_ | refine GrdK.ft ?_ | refine PickK.t ?_ | refine PickK.f ?_); (conv => whnf))
  by_cases c5 : bytes < 1
  · rw [decide_eq_true c5]
    (conv => whnf); repeat ((first | refine RngK.mk (by omega) (by omega) ?_ | refine NzK.mk (by omega) ?_ | refine NnK.mk (by omega) ?_ | refine BdK.mk (by omega) (by omega) (by omega) ?_ | refine InsK.lit (by omega) (by omega) ?_ | refine SpK.lit ?_ | refine GrdK.same ?_ | refine GrdK.tf ?_ | refine GrdK.ft ?_ | refine PickK.t ?_ | refine PickK.f ?_); (conv => whnf))
    refine Wp.cond rfl (fun _ => ?_) (fun h => by cases h)
    (conv => whnf); repeat ((first | refine RngK.mk (by omega) (by omega) ?_ | refine NzK.mk (by omega) ?_ | refine NnK.mk (by omega) ?_ | refine BdK.mk (by omega) (by omega) (by omega) ?_ | refine InsK.lit (by omega) (by omega) ?_ | refine SpK.lit ?_ | refine GrdK.same ?_ | refine GrdK.tf ?_ | refine GrdK.ft ?_ | refine PickK.t ?_ | refine PickK.f ?_); (conv => whnf))
    refine CallK.of [] (coded_spec e u) rfl (fun w hw => hL.pass hw) ?_
    rintro _ _ ⟨rfl, rfl⟩
    (conv => whnf); repeat ((first | refine RngK.mk (by omega) (by omega) ?_ | refine NzK.mk (by omega) ?_ | refine NnK.mk (by omega) ?_ | refine BdK.mk (by omega) (by omega) (by omega) ?_ | refine InsK.lit (by omega) (by omega) ?_ | refine SpK.lit ?_ | refine GrdK.same ?_ | refine GrdK.tf ?_ | refine GrdK.ft ?_ | refine PickK.t ?_ | refine PickK.f ?_); (conv => whnf))
    exact ⟨[], HSub.nil _, rfl, rfl⟩
  rw [decide_eq_false c5]
  (conv => whnf); repeat ((first | refine RngK.mk (by omega) (by omega) ?_ | refine NzK.mk (by omega) ?_ | refine NnK.mk (by omega) ?_ | refine BdK.mk (by omega) (by omega) (by omega) ?_ | refine InsK.lit (by omega) (by omega) ?_ | refine SpK.lit ?_ | refine GrdK.same ?_ | refine GrdK.tf ?_ | refine GrdK.ft ?_ | refine PickK.t ?_ | refine PickK.f ?_); (conv => whnf))
  by_cases c6 : bytes > ((bs.length : Nat) : Int)
  · rw [decide_eq_true c6]
    (conv => whnf); repeat ((first | refine RngK.mk (by omega) (by omega) ?_ | refine NzK.mk (by omega) ?_ | refine NnK.mk (by omega) ?_ | refine BdK.mk (by omega) (by omega) (by omega) ?_ | refine InsK.lit (by omega) (by omega) ?_ | refine SpK.lit ?_ | refine GrdK.same ?_ | refine GrdK.tf ?_ | refine GrdK.ft ?_ | refine PickK.t ?_ | refine PickK.f ?_); (conv => whnf))
    refine Wp.cond rfl (fun _ => ?_) (fun h => by cases h)
    (conv => whnf); repeat ((first | refine RngK.mk (by omega) (by omega) ?_ | refine NzK.mk (by omega) ?_ | refine NnK.mk (by omega) ?_ | refine BdK.mk (by omega) (by omega) (by omega) ?_ | refine InsK.lit (by omega) (by omega) ?_ | refine SpK.lit ?_ | refine GrdK.same ?_ | refine GrdK.tf ?_ | refine GrdK.ft ?_ | refine PickK.t ?_ | refine PickK.f ?_); (conv => whnf))
    refine CallK.of [] (coded_spec e u) rfl (fun w hw => hL.pass hw) ?_
    rintro _ _ ⟨rfl, rfl⟩
    (conv => whnf); repeat ((first | refine RngK.mk (by omega) (by omega) ?_ | refine NzK.mk (by omega) ?_ | refine NnK.mk (by omega) ?_ | refine BdK.mk (by omega) (by omega) (by omega) ?_ | refine InsK.lit (by omega) (by omega) ?_ | refine SpK.lit ?_ | refine GrdK.same ?_ | refine GrdK.tf ?_ | refine GrdK.ft ?_ | refine PickK.t ?_ | refine PickK.f ?_); (conv => whnf))
    exact ⟨[], HSub.nil _, rfl, rfl⟩
  rw [decide_eq_false c6]
  (conv => whnf); repeat ((first | refine RngK.mk (by omega) (by omega) ?_ | refine NzK.mk (by omega) ?_ | refine NnK.mk (by omega) ?_ | refine BdK.mk (by omega) (by omega) (by omega) ?_ | refine InsK.lit (by omega) (by omega) ?_ | refine SpK.lit ?_ | refine GrdK.same ?_ | refine GrdK.tf ?_ | refine GrdK.ft ?_ | refine PickK.t ?_ | refine PickK.f ?_); (conv => whnf))
  by_cases c7 : off > ((bs.length : Nat) : Int) - bytes
  · rw [decide_eq_true c7]
    (conv => whnf); repeat ((first | refine RngK.mk (by omega) (by omega) ?_ | refine NzK.mk (by omega) ?_ | refine NnK.mk (by omega) ?_ | refine BdK.mk (by omega) (by omega) (by omega) ?_ | refine InsK.lit (by omega) (by omega) ?_ | refine SpK.lit ?_ | refine GrdK.same ?_ | refine GrdK.tf ?_ | refine GrdK.ft ?_ | refine PickK.t ?_ | refine PickK.f ?_); (conv => whnf))
    refine Wp.cond rfl (fun _ => ?_) (fun h => by cases h)
    (conv => whnf); repeat ((first | refine RngK.mk (by omega) (by omega) ?_ | refine NzK.mk (by omega) ?_ | refine NnK.mk (by omega) ?_ | refine BdK.mk (by omega) (by omega) (by omega) ?_ | refine InsK.lit (by omega) (by omega) ?_ | refine SpK.lit ?_ | refine GrdK.same ?_ | refine GrdK.tf ?_ | refine GrdK.ft ?_ | refine PickK.t ?_ | refine PickK.f ?_); (conv => whnf))
    refine CallK.of [] (coded_spec e u) rfl (fun w hw => hL.pass hw) ?_
    rintro _ _ ⟨rfl, rfl⟩
    (conv => whnf); repeat ((first | refine RngK.mk (by omega) (by omega) ?_ | refine NzK.mk (by omega) ?_ | refine NnK.mk (by omega) ?_ | refine BdK.mk (by omega) (by omega) (by omega) ?_ | refine InsK.lit (by omega) (by omega) ?_ | refine SpK.lit ?_ | refine GrdK.same ?_ | refine GrdK.tf ?_ | refine GrdK.ft ?_ | refine PickK.t ?_ | refine PickK.f ?_); (conv => whnf))
    exact ⟨[], HSub.nil _, rfl, rfl⟩
  rw [decide_eq_false c7]
  (conv => whnf); repeat ((first | refine RngK.mk (by omega) (by omega) ?_ | refine NzK.mk (by omega) ?_ | refine NnK.mk (by omega) ?_ | refine BdK.mk (by omega) (by omega) (by omega) ?_ | refine InsK.lit (by omega) (by omega) ?_ | refine SpK.lit ?_ | refine GrdK.same ?_ | refine GrdK.tf ?_ | refine GrdK.ft ?_ | refine PickK.t ?_ | refine PickK.f ?_); (conv => whnf))
  by_cases c8 : many < 1
  · rw [decide_eq_true c8]
    (conv => whnf); repeat ((first | refine RngK.mk (by omega) (by omega) ?_ | refine NzK.mk (by omega) ?_ | refine NnK.mk (by omega) ?_ | refine BdK.mk (by omega) (by omega) (by omega) ?_ | refine InsK.lit (by omega) (by omega) ?_ | refine SpK.lit ?_ | refine GrdK.same ?_ | refine GrdK.tf ?_ | refine GrdK.ft ?_ | refine PickK.t ?_ | refine PickK.f ?_); (conv => whnf))
    refine Wp.cond rfl (fun _ => ?_) (fun h => by cases h)
    (conv => whnf); repeat ((first | refine RngK.mk (by omega) (by omega) ?_ | refine NzK.mk (by omega) ?_ | refine NnK.mk (by omega) ?_ | refine BdK.mk (by omega) (by omega) (by omega) ?_ | refine InsK.lit (by omega) (by omega) ?_ | refine SpK.lit ?_ | refine GrdK.same ?_ | refine GrdK.tf ?_ | refine GrdK.ft ?_ | refine PickK.t ?_ | refine PickK.f ?_); (conv => whnf))
    refine CallK.of [] (coded_spec e u) rfl (fun w hw => hL.pass hw) ?_
    rintro _ _ ⟨rfl, rfl⟩
    (conv => whnf); repeat ((first | refine RngK.mk (by omega) (by omega) ?_ | refine NzK.mk (by omega) ?_ | refine NnK.mk (by omega) ?_ | refine BdK.mk (by omega) (by omega) (by omega) ?_ | refine InsK.lit (by omega) (by omega) ?_ | refine SpK.lit ?_ | refine GrdK.same ?_ | refine GrdK.tf ?_ | refine GrdK.ft ?_ | refine PickK.t ?_ | refine PickK.f ?_); (conv => whnf))
    exact ⟨[], HSub.nil _, rfl, rfl⟩
  rw [decide_eq_false c8]
  (conv => whnf); repeat ((first | refine RngK.mk (by omega) (by omega) ?_ | refine NzK.mk (by omega) ?_ | refine NnK.mk (by omega) ?_ | refine BdK.mk (by omega) (by omega) (by omega) ?_ | refine InsK.lit (by omega) (by omega) ?_ | refine SpK.lit ?_ | refine GrdK.same ?_ | refine GrdK.tf ?_ | refine GrdK.ft ?_ | refine PickK.t ?_ | refine PickK.f ?_); (conv => whnf))
  by_cases c9 : many > 10000
  · rw [decide_eq_true c9]
    refine Wp.cond rfl (fun _ => ?_) (fun h => by cases h)
    (conv => whnf); repeat ((first | refine RngK.mk (by omega) (by omega) ?_ | refine NzK.mk (by omega) ?_ | refine NnK.mk (by omega) ?_ | refine BdK.mk (by omega) (by omega) (by omega) ?_ | refine InsK.lit (by omega) (by omega) ?_ | refine SpK.lit ?_ | refine GrdK.same ?_ | refine GrdK.tf ?_ | refine GrdK.ft ?_ | refine PickK.t ?_ | refine PickK.f ?_); (conv => whnf))
    refine CallK.of [] (coded_spec e u) rfl (fun w hw => hL.pass hw) ?_
    rintro _ _ ⟨rfl, rfl⟩
    (conv => whnf); repeat ((first | refine RngK.mk (by omega) (by omega) ?_ | refine NzK.mk (by omega) ?_ | refine NnK.mk (by omega) ?_ | refine BdK.mk (by omega) (by omega) (by omega) ?_ | refine InsK.lit (by omega) (by omega) ?_ | refine SpK.lit ?_ | refine GrdK.same ?_ | refine GrdK.tf ?_ | refine GrdK.ft ?_ | refine PickK.t ?_ | refine PickK.f ?_); (conv => whnf))
    exact ⟨[], HSub.nil _, rfl, rfl⟩
  rw [decide_eq_false c9]
  refine Wp.cond rfl (fun h => by cases h) (fun _ => ?_)
  have hT := hW.tb (by omega)
  have htl := hT.len
  have hb1 := hT.b1
  have h2b : 2 ^ b ≤ 2 ^ 11 := Nat.pow_le_pow_right (by omega) hb1
  obtain ⟨o, rfl⟩ := Int.eq_ofNat_of_zero_le (show 0 ≤ off by omega)
  obtain ⟨sz, rfl⟩ := Int.eq_ofNat_of_zero_le (show 0 ≤ bytes by omega)
  obtain ⟨mn, rfl⟩ := Int.eq_ofNat_of_zero_le (show 0 ≤ many by omega)
  (conv => whnf); repeat ((first | refine RngK.mk (by omega) (by omega) ?_ | refine NzK.mk (by omega) ?_ | refine NnK.mk (by omega) ?_ | refine BdK.mk (by omega) (by omega) (by omega) ?_ | refine InsK.lit (by omega) (by omega) ?_ | refine SpK.lit ?_ | refine GrdK.same ?_ | refine GrdK.tf ?_ | refine GrdK.ft ?_ | refine PickK.t ?_ | refine PickK.f ?_); (conv => whnf))
  refine CallK.of [] (codeTable_spec A1 c1 _ all b hW (by omega)) rfl (fun w hw => Rd.ofOwn hw 0 rfl) ?_
  rintro _ _ ⟨A3, c3, rfl, rfl⟩
  (conv => whnf); repeat ((first | refine RngK.mk (by omega) (by omega) ?_ | refine NzK.mk (by omega) ?_ | refine NnK.mk (by omega) ?_ | refine BdK.mk (by omega) (by omega) (by omega) ?_ | refine InsK.lit (by omega) (by omega) ?_ | refine SpK.lit ?_ | refine GrdK.same ?_ | refine GrdK.tf ?_ | refine GrdK.ft ?_ | refine PickK.t ?_ | refine PickK.f ?_); (conv => whnf))
  obtain ⟨Tab, hTab⟩ : ∃ Tab, tabC all b b = Tab := ⟨_, rfl⟩
  rw [hTab] at hT htl ⊢
  refine CallK.of [] (readStream_spec A bs.length c bs o sz mn A3 Tab.length c3 b Tab (by omega) (by omega) hT (by omega) rfl) rfl (fun w hw => ⟨hp.pass hw, Rd.ofOwn hw 0 rfl⟩) ?_
  have hone := fun l q (h : strS bs o sz b Tab mn = some (l, q)) => strS_oneI hT (by omega) h
  have hslen := fun l q (h : strS bs o sz b Tab mn = some (l, q)) => strS_len h
  have hlast : o + sz - 1 < bs.length := by omega
  have hgd : bs.getD (o + sz - 1) 0 = bs[o + sz - 1] := by simp [hlast]
  have hz1 : bs[o + sz - 1].toNat = 0 → oneI bs o sz b Tab mn = none := by
    intro h0
    unfold oneI
    rw [hgd, if_pos h0]
  have e1 : (o : Int) + (sz : Int) - 1 = ((o + sz - 1 : Nat) : Int) := by omega
  have hi1 := implOne_spec A bs.length c bs e u o sz mn A3 Tab.length c3 b Tab (by omega) (by omega) (by omega) (by omega) hT (by omega) rfl
  obtain ⟨R, hR⟩ : ∃ R, oneI bs o sz b Tab mn = R := ⟨_, rfl⟩
  rw [hR] at hone hi1 hz1
  cases hS : strS bs o sz b Tab mn with
  | none =>
    rintro _ _ ⟨rfl, rfl⟩
    (conv => whnf); repeat ((first | refine RngK.mk (by omega) (by omega) ?_ | refine NzK.mk (by omega) ?_ | refine NnK.mk (by omega) ?_ | refine BdK.mk (by omega) (by omega) (by omega) ?_ | refine InsK.lit (by omega) (by omega) ?_ | refine SpK.lit ?_ | refine GrdK.same ?_ | refine GrdK.tf ?_ | refine GrdK.ft ?_ | refine PickK.t ?_ | refine PickK.f ?_); (conv => whnf))
    refine CallK.of [] hi1 rfl (fun w hw => ⟨⟨hp.pass hw, hL.pass hw⟩, Rd.ofOwn hw 0 rfl⟩) ?_
    rintro _ _ ⟨A5, c5, rfl, rfl⟩
    (conv => whnf); repeat ((first | refine RngK.mk (by omega) (by omega) ?_ | refine NzK.mk (by omega) ?_ | refine NnK.mk (by omega) ?_ | refine BdK.mk (by omega) (by omega) (by omega) ?_ | refine InsK.lit (by omega) (by omega) ?_ | refine SpK.lit ?_ | refine GrdK.same ?_ | refine GrdK.tf ?_ | refine GrdK.ft ?_ | refine PickK.t ?_ | refine PickK.f ?_); (conv => whnf))
    rw [e1]
    refine InsK.rd hp.rd (by omega) (by omega) ?_
    (conv => whnf); repeat ((first | refine RngK.mk (by omega) (by omega) ?_ | refine NzK.mk (by omega) ?_ | refine NnK.mk (by omega) ?_ | refine BdK.mk (by omega) (by omega) (by omega) ?_ | refine InsK.lit (by omega) (by omega) ?_ | refine SpK.lit ?_ | refine GrdK.same ?_ | refine GrdK.tf ?_ | refine GrdK.ft ?_ | refine PickK.t ?_ | refine PickK.f ?_); (conv => whnf))
    refine LdK.rd (v := vU8 bs[o + sz - 1]) hp.rd (o + sz - 1) rfl rfl rfl (by simp [hlast]) ?_
    (conv => whnf); repeat ((first | refine RngK.mk (by omega) (by omega) ?_ | refine NzK.mk (by omega) ?_ | refine NnK.mk (by omega) ?_ | refine BdK.mk (by omega) (by omega) (by omega) ?_ | refine InsK.lit (by omega) (by omega) ?_ | refine SpK.lit ?_ | refine GrdK.same ?_ | refine GrdK.tf ?_ | refine GrdK.ft ?_ | refine PickK.t ?_ | refine PickK.f ?_); (conv => whnf))
    refine Wp.cond rfl (fun h => ?_) (fun h => ?_)
    · have h := eqT h
      have hRn := hz1 (by omega)
      subst hRn
      (conv => whnf); repeat ((first | refine RngK.mk (by omega) (by omega) ?_ | refine NzK.mk (by omega) ?_ | refine NnK.mk (by omega) ?_ | refine BdK.mk (by omega) (by omega) (by omega) ?_ | refine InsK.lit (by omega) (by omega) ?_ | refine SpK.lit ?_ | refine GrdK.same ?_ | refine GrdK.tf ?_ | refine GrdK.ft ?_ | refine PickK.t ?_ | refine PickK.f ?_); (conv => whnf))
      refine CallK.of [] (coded_spec e u) rfl (fun w hw => hL.pass hw) ?_
      rintro _ _ ⟨rfl, rfl⟩
      (conv => whnf); repeat ((first | refine RngK.mk (by omega) (by omega) ?_ | refine NzK.mk (by omega) ?_ | refine NnK.mk (by omega) ?_ | refine BdK.mk (by omega) (by omega) (by omega) ?_ | refine InsK.lit (by omega) (by omega) ?_ | refine SpK.lit ?_ | refine GrdK.same ?_ | refine GrdK.tf ?_ | refine GrdK.ft ?_ | refine PickK.t ?_ | refine PickK.f ?_); (conv => whnf))
      exact ⟨[], HSub.nil _, rfl, rfl⟩
    · (conv => whnf); repeat ((first | refine RngK.mk (by omega) (by omega) ?_ | refine NzK.mk (by omega) ?_ | refine NnK.mk (by omega) ?_ | refine BdK.mk (by omega) (by omega) (by omega) ?_ | refine InsK.lit (by omega) (by omega) ?_ | refine SpK.lit ?_ | refine GrdK.same ?_ | refine GrdK.tf ?_ | refine GrdK.ft ?_ | refine PickK.t ?_ | refine PickK.f ?_); (conv => whnf))
      refine CallK.of [] (coded_spec e u) rfl (fun w hw => hL.pass hw) ?_
      rintro _ _ ⟨rfl, rfl⟩
      (conv => whnf); repeat ((first | refine RngK.mk (by omega) (by omega) ?_ | refine NzK.mk (by omega) ?_ | refine NnK.mk (by omega) ?_ | refine BdK.mk (by omega) (by omega) (by omega) ?_ | refine InsK.lit (by omega) (by omega) ?_ | refine SpK.lit ?_ | refine GrdK.same ?_ | refine GrdK.tf ?_ | refine GrdK.ft ?_ | refine PickK.t ?_ | refine PickK.f ?_); (conv => whnf))
      exact ⟨[], HSub.nil _, rfl, rfl⟩
  | some r =>
    obtain ⟨l, q⟩ := r
    have hRl := hone l q hS
    have hll := hslen l q hS
    subst hRl
    rintro _ _ ⟨A4, c4, rfl, rfl⟩
    (conv => whnf); repeat ((first | refine RngK.mk (by omega) (by omega) ?_ | refine NzK.mk (by omega) ?_ | refine NnK.mk (by omega) ?_ | refine BdK.mk (by omega) (by omega) (by omega) ?_ | refine InsK.lit (by omega) (by omega) ?_ | refine SpK.lit ?_ | refine GrdK.same ?_ | refine GrdK.tf ?_ | refine GrdK.ft ?_ | refine PickK.t ?_ | refine PickK.f ?_); (conv => whnf))
    refine CallK.of [] hi1 rfl (fun w hw => ⟨⟨hp.pass hw, hL.pass hw⟩, Rd.ofOwn hw 1 rfl⟩) ?_
    rintro _ _ ⟨A5, c5, rfl, rfl⟩
    (conv => whnf); repeat ((first | refine RngK.mk (by omega) (by omega) ?_ | refine NzK.mk (by omega) ?_ | refine NnK.mk (by omega) ?_ | refine BdK.mk (by omega) (by omega) (by omega) ?_ | refine InsK.lit (by omega) (by omega) ?_ | refine SpK.lit ?_ | refine GrdK.same ?_ | refine GrdK.tf ?_ | refine GrdK.ft ?_ | refine PickK.t ?_ | refine PickK.f ?_); (conv => whnf))
    rw [e1]
    refine InsK.rd hp.rd (by omega) (by omega) ?_
    (conv => whnf); repeat ((first | refine RngK.mk (by omega) (by omega) ?_ | refine NzK.mk (by omega) ?_ | refine NnK.mk (by omega) ?_ | refine BdK.mk (by omega) (by omega) (by omega) ?_ | refine InsK.lit (by omega) (by omega) ?_ | refine SpK.lit ?_ | refine GrdK.same ?_ | refine GrdK.tf ?_ | refine GrdK.ft ?_ | refine PickK.t ?_ | refine PickK.f ?_); (conv => whnf))
    refine LdK.rd (v := vU8 bs[o + sz - 1]) hp.rd (o + sz - 1) rfl rfl rfl (by simp [hlast]) ?_
    (conv => whnf); repeat ((first | refine RngK.mk (by omega) (by omega) ?_ | refine NzK.mk (by omega) ?_ | refine NnK.mk (by omega) ?_ | refine BdK.mk (by omega) (by omega) (by omega) ?_ | refine InsK.lit (by omega) (by omega) ?_ | refine SpK.lit ?_ | refine GrdK.same ?_ | refine GrdK.tf ?_ | refine GrdK.ft ?_ | refine PickK.t ?_ | refine PickK.f ?_); (conv => whnf))
    refine Wp.cond rfl (fun h => ?_) (fun h => ?_)
    · have h := eqT h
      cases hz1 (by omega)
    · (conv => whnf); repeat ((first | refine RngK.mk (by omega) (by omega) ?_ | refine NzK.mk (by omega) ?_ | refine NnK.mk (by omega) ?_ | refine BdK.mk (by omega) (by omega) (by omega) ?_ | refine InsK.lit (by omega) (by omega) ?_ | refine SpK.lit ?_ | refine GrdK.same ?_ | refine GrdK.tf ?_ | refine GrdK.ft ?_ | refine PickK.t ?_ | refine PickK.f ?_); (conv => whnf))
      refine CallK.of [] (coded_spec e u) rfl (fun w hw => hL.pass hw) ?_
      rintro _ _ ⟨rfl, rfl⟩
      (conv => whnf); repeat ((first | refine RngK.mk (by omega) (by omega) ?_ | refine NzK.mk (by omega) ?_ | refine NnK.mk (by omega) ?_ | refine BdK.mk (by omega) (by omega) (by omega) ?_ | refine InsK.lit (by omega) (by omega) ?_ | refine SpK.lit ?_ | refine GrdK.same ?_ | refine GrdK.tf ?_ | refine GrdK.ft ?_ | refine PickK.t ?_ | refine PickK.f ?_); (conv => whnf))
      by_cases hq : q = 8 * o
      · rw [decide_eq_true hq]
        (conv => whnf); repeat ((first | refine RngK.mk (by omega) (by omega) ?_ | refine NzK.mk (by omega) ?_ | refine NnK.mk (by omega) ?_ | refine BdK.mk (by omega) (by omega) (by omega) ?_ | refine InsK.lit (by omega) (by omega) ?_ | refine SpK.lit ?_ | refine GrdK.same ?_ | refine GrdK.tf ?_ | refine GrdK.ft ?_ | refine PickK.t ?_ | refine PickK.f ?_); (conv => whnf))
        refine CallK.of [] (sameBytes_spec A5 A4 l.length l.length c5 c4 l l) rfl (fun w hw => ⟨Rd.ofOwn hw 0 rfl, Rd.ofOwn hw 1 rfl, by simp [maxLen]; omega⟩) ?_
        rintro _ _ ⟨rfl, rfl⟩
        rw [decide_eq_true (rfl : l = l)]
        (conv => whnf); repeat ((first | refine RngK.mk (by omega) (by omega) ?_ | refine NzK.mk (by omega) ?_ | refine NnK.mk (by omega) ?_ | refine BdK.mk (by omega) (by omega) (by omega) ?_ | refine InsK.lit (by omega) (by omega) ?_ | refine SpK.lit ?_ | refine GrdK.same ?_ | refine GrdK.tf ?_ | refine GrdK.ft ?_ | refine PickK.t ?_ | refine PickK.f ?_); (conv => whnf))
        exact ⟨[], HSub.nil _, rfl, rfl⟩
      · rw [decide_eq_false hq]
        (conv => whnf); repeat ((first | refine RngK.mk (by omega) (by omega) ?_ | refine NzK.mk (by omega) ?_ | refine NnK.mk (by omega) ?_ | refine BdK.mk (by omega) (by omega) (by omega) ?_ | refine InsK.lit (by omega) (by omega) ?_ | refine SpK.lit ?_ | refine GrdK.same ?_ | refine GrdK.tf ?_ | refine GrdK.ft ?_ | refine PickK.t ?_ | refine PickK.f ?_); (conv => whnf))
        exact ⟨[], HSub.nil _, rfl, rfl⟩
end Go.Proofs.YtgdhdkjbilifiaaDoor
