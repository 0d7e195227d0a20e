/- Literals of one stream: the package. -/
import Derived.Test.YtgdhdkjbilifiaaDoorCdP
import Derived.Test.YtgdhdkjbilifiaaDoorCdI
import Derived.Test.YtgdhdkjbilifiaaDoorRvB
namespace Go.Proofs.YtgdhdkjbilifiaaDoor
open Go Go.Sx
set_option maxRecDepth 100000
/-- a Reader that has a table -/
structure HrPre (w : World) (W : Nat → Prop) (r : Nat) (A : Option Addr) (n c : Nat) (bs : List UInt8) (e u : Addr) (T : Option Addr) (m mc b : Nat) (ts : List Nat) : Prop where
  br : BrPre w W r A n c bs e u
  fl : Rd w W (some ⟨r, 12, none⟩) 2 1 [.slice T m mc, vN b]
  tb : Rd w W T m 1 (ts.map vU16)
theorem HrPre.pass {w0 w : World} {W : Nat → Prop} {Hin Hr : Hp} (hw : HInv w0 W (Hin ++ Hr) w) {r n c m mc b : Nat} {A T : Option Addr} {bs : List UInt8} {e u : Addr} {ts : List Nat} (h : HrPre w0 W r A n c bs e u T m mc b ts) : HrPre w (blocks Hin) r A n c bs e u T m mc b ts :=
  ⟨h.br.pass hw, h.fl.pass hw, h.tb.pass hw⟩
/-- what the package reads from one stream -/
def oneI (bs : List UInt8) (off size b : Nat) (T : List Cd) (many : Nat) : Option (List UInt8) :=
  if (bs.getD (off + size - 1) 0).toNat = 0 then none else litI (num bs) (off - 2) b T many (8 * (off + size - 1) + wd (bs.getD (off + size - 1) 0).toNat - 1) []
theorem pick_bits {N p bits cnt b : Nat} (hb : b ≤ 11) (hc : b ≤ cnt) (hc2 : cnt < 32) (h32 : bits < 2 ^ 32) (hl : bits % 2 ^ cnt = bitsN N p cnt) :
    iand .u32 (ishr .u32 (bits : Int) ((cnt - b : Nat) : Int)) ((2 ^ b - 1 : Nat) : Int) = ((bitsN N (p + cnt - b) b : Nat) : Int) := by
  have h2q : 2 ^ b ≤ 2 ^ 11 := Nat.pow_le_pow_right (by omega) hb
  have e2 : ishr .u32 (bits : Int) ((cnt - b : Nat) : Int) = ((bits / 2 ^ (cnt - b) : Nat) : Int) := ishr_nat .u32 bits (by show _ ≤ 32; omega)
  have hd : bits / 2 ^ (cnt - b) < 2 ^ 32 := Nat.lt_of_le_of_lt (Nat.div_le_self _ _) h32
  rw [e2, iand_u (k := .u32) rfl hd (by show _ < 2 ^ 32; omega), Nat.and_two_pow_sub_one_eq_mod]
  have e4 : bitsN N (p + cnt - b) b = bitsN N (p + (cnt - b)) (cnt - (cnt - b)) := by
    rw [show p + cnt - b = p + (cnt - b) by omega, show cnt - (cnt - b) = b by omega]
  rw [e4, ← bitsN_shr _ _ (by omega), ← hl]
  have e5 : 2 ^ cnt = 2 ^ (cnt - b) * 2 ^ b := by rw [← Nat.pow_add]; congr 1; omega
  rw [e5, Nat.mod_mul_right_div_self]
theorem RbI.less {N n st off bits cnt k : Nat} (h : RbI N n st off bits cnt) (hk : k ≤ cnt) : RbI N n st off bits (cnt - k) := by
  obtain ⟨i1, i2, i3, i4, i5⟩ := h
  refine ⟨i1, i2, by omega, i4, ?_⟩
  have e6 : bits % 2 ^ cnt % 2 ^ (cnt - k) = bits % 2 ^ (cnt - k) := Nat.mod_mod_of_dvd _ (Nat.pow_dvd_pow 2 (by omega))
  rw [← e6, i5, bitsN_low _ _ (by omega)]
theorem pk_hi {x : Cd} (h2 : x.2 < 256) : pk x / 256 = x.1 := by unfold pk; omega
theorem pk_lo {x : Cd} (h2 : x.2 < 256) : pk x % 256 = x.2 := by unfold pk; omega
theorem u8_snoc (l : List UInt8) {x : Nat} (h : x < 256) : l.map vU8 ++ [Value.int .u8 (x : Int)] = (l ++ [UInt8.ofNat x]).map vU8 := by
  have e : (UInt8.ofNat x).toNat = x := UInt8.toNat_ofNat_of_lt' h
  rw [List.map_append]
  show _ = _ ++ [Value.int .u8 _]
  rw [e]
set_option maxHeartbeats 4000000 in
theorem readOne_spec (r : Nat) (A : Option Addr) (n c : Nat) (bs : List UInt8) (e u : Addr) (off size many : Nat) (T : Option Addr) (m mc b : Nat) (ts : List Nat) (Tab : List Cd) (hn : n ≤ 16777216) (ho : 2 ≤ off) (h0 : 1 ≤ size) (hs : off + size ≤ n) (hT : Tb b Tab)
    (htm : 2 ^ b ≤ m) (hts : ts.take (2 ^ b) = Tab.map pk) (hmany : many ≤ 1000000) :
    FnS Tryd.prog 55 [.pointer (some ⟨r, 0, none⟩), .slice A n c, vN off, vN size, vN many, .slice none 0 0] [] (fun w => HrPre w (blocks []) r A n c bs e u T m mc b ts)
      (fun v H => match oneI bs off size b Tab many with
        | none => ∃ T' x, v = .tuple #[.slice none 0 0, .iface T' x] ∧ H = []
        | some l => ∃ A1 c1, v = .tuple #[.slice A1 l.length c1, .nilIface] ∧ H = [.own A1 l.length c1 5 1 (l.map vU8)]) := by
  refine FnS.introD Tryd.func55 rfl (by kernel_rfl) rfl fun w hH hp => ?_
  obtain rfl : bs.length = n := hp.br.by_.len
  have hb0 := hT.b0
  have hb1 := hT.b1
  have h2b : 2 ^ b ≤ 2 ^ 11 := Nat.pow_le_pow_right (by omega) hb1
  have h2p := Nat.two_pow_pos b
  obtain ⟨R, hR⟩ : ∃ R, oneI bs off size b Tab many = R := ⟨_, rfl⟩
  rw [hR]
  have hlast : off + size - 1 < bs.length := by omega
  have hgd : bs.getD (off + size - 1) 0 = bs[off + size - 1] := by simp [hlast]
  unfold oneI at hR
  rw [hgd] at hR
  have e1 : (off : Int) + (size : Int) - 1 = ((off + size - 1 : Nat) : Int) := by omega
  have e2 : (off : Int) - 2 = ((off - 2 : Nat) : Int) := by omega
  (conv => whnf); repeat ((first | refine RngK.mk (by omega) (by omega) ?_ | refine NzK.mk (by omega) ?_ | refine NnK.mk (by omega) ?_ | refine BdK.mk (by omega) (by omega) (by omega) ?_ | refine InsK.lit (by omega) (by omega) ?_ | refine SpK.lit ?_ | refine GrdK.same ?_ | refine GrdK.tf ?_ | refine GrdK.ft ?_ | refine PickK.t ?_ | refine PickK.f ?_); (conv => whnf))
  rw [e1, e2]
  obtain ⟨o, hoe⟩ : ∃ o, off + size - 1 = o := ⟨_, rfl⟩
  obtain ⟨st, hst⟩ : ∃ st, off - 2 = st := ⟨_, rfl⟩
  have hom : o < bs.length := by omega
  have hR : (if bs[o].toNat = 0 then none else litI (num bs) st b Tab many (8 * o + wd bs[o].toNat - 1) []) = R := by
    subst hoe hst; exact hR
  rw [hoe, hst]
  refine CallK.of [] (makeReverse_spec r A bs.length c o st bs e u hn hom (by omega)) rfl (fun w hw => hp.br.pass hw) ?_
  rintro v _ ⟨rfl, ⟨g, cs, T', x, h6, h1, rfl⟩ | ⟨g, rfl⟩⟩
  · rw [if_pos g] at hR
    subst hR
    (conv => whnf); repeat ((first | refine RngK.mk (by omega) (by omega) ?_ | refine NzK.mk (by omega) ?_ | refine NnK.mk (by omega) ?_ | refine BdK.mk (by omega) (by omega) (by omega) ?_ | refine InsK.lit (by omega) (by omega) ?_ | refine SpK.lit ?_ | refine GrdK.same ?_ | refine GrdK.tf ?_ | refine GrdK.ft ?_ | refine PickK.t ?_ | refine PickK.f ?_); (conv => whnf))
    refine ⟨_, _, rfl, rfl, ?_⟩
    intro b14
    (conv => whnf); repeat ((first | refine RngK.mk (by omega) (by omega) ?_ | refine NzK.mk (by omega) ?_ | refine NnK.mk (by omega) ?_ | refine BdK.mk (by omega) (by omega) (by omega) ?_ | refine InsK.lit (by omega) (by omega) ?_ | refine SpK.lit ?_ | refine GrdK.same ?_ | refine GrdK.tf ?_ | refine GrdK.ft ?_ | refine PickK.t ?_ | refine PickK.f ?_); (conv => whnf))
    refine StK.blkN 0 rfl rfl h6 (List.all_eq_true.1 h1) (by decide) ?_
    (conv => whnf); repeat ((first | refine RngK.mk (by omega) (by omega) ?_ | refine NzK.mk (by omega) ?_ | refine NnK.mk (by omega) ?_ | refine BdK.mk (by omega) (by omega) (by omega) ?_ | refine InsK.lit (by omega) (by omega) ?_ | refine SpK.lit ?_ | refine GrdK.same ?_ | refine GrdK.tf ?_ | refine GrdK.ft ?_ | refine PickK.t ?_ | refine PickK.f ?_); (conv => whnf))
    refine ValK.neIface rfl ?_
    (conv => whnf); repeat ((first | refine RngK.mk (by omega) (by omega) ?_ | refine NzK.mk (by omega) ?_ | refine NnK.mk (by omega) ?_ | refine BdK.mk (by omega) (by omega) (by omega) ?_ | refine InsK.lit (by omega) (by omega) ?_ | refine SpK.lit ?_ | refine GrdK.same ?_ | refine GrdK.tf ?_ | refine GrdK.ft ?_ | refine PickK.t ?_ | refine PickK.f ?_); (conv => whnf))
    refine Wp.cond rfl (fun _ => ?_) (fun h => by cases h)
    (conv => whnf); repeat ((first | refine RngK.mk (by omega) (by omega) ?_ | refine NzK.mk (by omega) ?_ | refine NnK.mk (by omega) ?_ | refine BdK.mk (by omega) (by omega) (by omega) ?_ | refine InsK.lit (by omega) (by omega) ?_ | refine SpK.lit ?_ | refine GrdK.same ?_ | refine GrdK.tf ?_ | refine GrdK.ft ?_ | refine PickK.t ?_ | refine PickK.f ?_); (conv => whnf))
    exact ⟨[], HSub.nil _, T', x, rfl, rfl⟩
  rw [if_neg (by omega)] at hR
  have hI := RbI.start hom (show st ≤ o by omega)
  have hw8 : wd bs[o].toNat ≤ 8 := wd_lt (by have := bs[o].toNat_lt; omega)
  have hwp := wd_pos g
  (conv => whnf); repeat ((first | refine RngK.mk (by omega) (by omega) ?_ | refine NzK.mk (by omega) ?_ | refine NnK.mk (by omega) ?_ | refine BdK.mk (by omega) (by omega) (by omega) ?_ | refine InsK.lit (by omega) (by omega) ?_ | refine SpK.lit ?_ | refine GrdK.same ?_ | refine GrdK.tf ?_ | refine GrdK.ft ?_ | refine PickK.t ?_ | refine PickK.f ?_); (conv => whnf))
  refine ⟨_, _, rfl, rfl, ?_⟩
  intro b14
  (conv => whnf); repeat ((first | refine RngK.mk (by omega) (by omega) ?_ | refine NzK.mk (by omega) ?_ | refine NnK.mk (by omega) ?_ | refine BdK.mk (by omega) (by omega) (by omega) ?_ | refine InsK.lit (by omega) (by omega) ?_ | refine SpK.lit ?_ | refine GrdK.same ?_ | refine GrdK.tf ?_ | refine GrdK.ft ?_ | refine PickK.t ?_ | refine PickK.f ?_); (conv => whnf))
  refine StK.blkNE 0 (rbc r A bs.length c o st bs[o].toNat (wd bs[o].toNat - 1)) rfl rfl rfl rfl rfl rfl ?_
  (conv => whnf); repeat ((first | refine RngK.mk (by omega) (by omega) ?_ | refine NzK.mk (by omega) ?_ | refine NnK.mk (by omega) ?_ | refine BdK.mk (by omega) (by omega) (by omega) ?_ | refine InsK.lit (by omega) (by omega) ?_ | refine SpK.lit ?_ | refine GrdK.same ?_ | refine GrdK.tf ?_ | refine GrdK.ft ?_ | refine PickK.t ?_ | refine PickK.f ?_); (conv => whnf))
  refine ValK.neNil rfl ?_
  (conv => whnf); repeat ((first | refine RngK.mk (by omega) (by omega) ?_ | refine NzK.mk (by omega) ?_ | refine NnK.mk (by omega) ?_ | refine BdK.mk (by omega) (by omega) (by omega) ?_ | refine InsK.lit (by omega) (by omega) ?_ | refine SpK.lit ?_ | refine GrdK.same ?_ | refine GrdK.tf ?_ | refine GrdK.ft ?_ | refine PickK.t ?_ | refine PickK.f ?_); (conv => whnf))
  refine Wp.cond rfl (fun h => by cases h) (fun _ => ?_)
  (conv => whnf); repeat ((first | refine RngK.mk (by omega) (by omega) ?_ | refine NzK.mk (by omega) ?_ | refine NnK.mk (by omega) ?_ | refine BdK.mk (by omega) (by omega) (by omega) ?_ | refine InsK.lit (by omega) (by omega) ?_ | refine SpK.lit ?_ | refine GrdK.same ?_ | refine GrdK.tf ?_ | refine GrdK.ft ?_ | refine PickK.t ?_ | refine PickK.f ?_); (conv => whnf))
  refine LdK.rd (v := .slice T m mc) hp.fl 0 rfl rfl rfl rfl ?_
  (conv => whnf); repeat ((first | refine RngK.mk (by omega) (by omega) ?_ | refine NzK.mk (by omega) ?_ | refine NnK.mk (by omega) ?_ | refine BdK.mk (by omega) (by omega) (by omega) ?_ | refine InsK.lit (by omega) (by omega) ?_ | refine SpK.lit ?_ | refine GrdK.same ?_ | refine GrdK.tf ?_ | refine GrdK.ft ?_ | refine PickK.t ?_ | refine PickK.f ?_); (conv => whnf))
  refine LdK.rd (v := vN b) hp.fl 1 rfl rfl rfl rfl ?_
  have e3 : IntKind.u32.wrap (b : Int) = (b : Int) := IntWalk.u32_in _ (by omega)
  have e4 : ishl .u32 1 (b : Int) = ((2 ^ b : Nat) : Int) := by
    have := ishl_u (k := .u32) rfl 1 (n := b) (by show _ ≤ 32; omega)
    rw [Nat.one_mul, Nat.mod_eq_of_lt (by show _ < 2 ^ 32; omega)] at this
    exact this
  have e5 : IntKind.u32.wrap (((2 ^ b : Nat) : Int) - 1) = ((2 ^ b - 1 : Nat) : Int) := by
    rw [IntWalk.u32_in _ (by omega)]; omega
  have e6 : IntKind.u8.wrap (b : Int) = (b : Int) := wrap_u_lt (k := .u8) rfl (by show _ < 256; omega)
  (conv => whnf); repeat ((first | refine RngK.mk (by omega) (by omega) ?_ | refine NzK.mk (by omega) ?_ | refine NnK.mk (by omega) ?_ | refine BdK.mk (by omega) (by omega) (by omega) ?_ | refine InsK.lit (by omega) (by omega) ?_ | refine SpK.lit ?_ | refine GrdK.same ?_ | refine GrdK.tf ?_ | refine GrdK.ft ?_ | refine PickK.t ?_ | refine PickK.f ?_); (conv => whnf))
  rw [e3, e4, e5]
  refine Wp.nilC 5 1 ?_
  have hp0 : 8 * o + wd bs[o].toNat - 1 = 8 * o + (wd bs[o].toNat - 1) := by omega
  rw [hp0] at hR
  obtain ⟨bt, hbt⟩ : ∃ bt, bs[o].toNat = bt := ⟨_, rfl⟩
  rw [hbt] at hI hR hw8 hwp ⊢
  obtain ⟨cn, hcn⟩ : ∃ cn, wd bt - 1 = cn := ⟨_, rfl⟩
  rw [hcn] at hI hR ⊢
  refine Wp.cutEx 0 (fun t : List UInt8 × Option Addr × Nat => [(5, .slice t.2.1 t.1.length t.2.2)]) (fun t => [.own t.2.1 t.1.length t.2.2 5 1 (t.1.map vU8)]) (fun t => R = some t.1) ?_ fun ⟨l, A1, c1⟩ hl => ?_
  rotate_left
  · dsimp only at hl ⊢
    subst hl
    (conv => whnf); repeat ((first | refine RngK.mk (by omega) (by omega) ?_ | refine NzK.mk (by omega) ?_ | refine NnK.mk (by omega) ?_ | refine BdK.mk (by omega) (by omega) (by omega) ?_ | refine InsK.lit (by omega) (by omega) ?_ | refine SpK.lit ?_ | refine GrdK.same ?_ | refine GrdK.tf ?_ | refine GrdK.ft ?_ | refine PickK.t ?_ | refine PickK.f ?_); (conv => whnf))
    exact ⟨_, HSub.refl _, A1, c1, rfl, rfl⟩
  refine Wp.loop (fun t : Nat × List UInt8 × Option Addr × Nat × Nat × Nat × Nat => [(4, vN many), (5, .slice t.2.2.1 t.2.1.length t.2.2.2.1), (14, .pointer (some ⟨b14, 0, none⟩)), (16, .slice T m mc), (17, .int .u32 (b : Int)), (18, .int .u32 ((2 ^ b - 1 : Nat) : Int)), (19, vN t.1)])
    (fun t => [.own t.2.2.1 t.2.1.length t.2.2.2.1 5 1 (t.2.1.map vU8), .blk b14 125 (rbc r A bs.length c t.2.2.2.2.1 st t.2.2.2.2.2.1 t.2.2.2.2.2.2)])
    (fun t => t.1 ≤ many ∧ t.2.1.length = t.1 ∧ RbI (num bs) bs.length st t.2.2.2.2.1 t.2.2.2.2.2.1 t.2.2.2.2.2.2 ∧ litI (num bs) st b Tab (many - t.1) (8 * t.2.2.2.2.1 + t.2.2.2.2.2.2) t.2.1 = R) (fun t => many - t.1) (0, [], none, 0, o, bt, cn)
    ⟨rfl, rfl, rfl, rfl, rfl, rfl, rfl, trivial⟩ (HSub.of [0, 0] rfl) ⟨Nat.zero_le _, rfl, hI, hR⟩ fun ⟨i, l, A1, c1, of1, bi1, cn1⟩ ⟨hi, hli, hI, hR⟩ => ?_
  dsimp only at hi hli hI hR ⊢
  (conv => whnf); repeat ((first | refine RngK.mk (by omega) (by omega) ?_ | refine NzK.mk (by omega) ?_ | refine NnK.mk (by omega) ?_ | refine BdK.mk (by omega) (by omega) (by omega) ?_ | refine InsK.lit (by omega) (by omega) ?_ | refine SpK.lit ?_ | refine GrdK.same ?_ | refine GrdK.tf ?_ | refine GrdK.ft ?_ | refine PickK.t ?_ | refine PickK.f ?_); (conv => whnf))
  refine Wp.cond rfl (fun h => ?_) (fun h => ?_)
  rotate_left
  · have h := dF h
    have : i = many := by omega
    subst this
    rw [Nat.sub_self, litI] at hR
    (conv => whnf); repeat ((first | refine RngK.mk (by omega) (by omega) ?_ | refine NzK.mk (by omega) ?_ | refine NnK.mk (by omega) ?_ | refine BdK.mk (by omega) (by omega) (by omega) ?_ | refine InsK.lit (by omega) (by omega) ?_ | refine SpK.lit ?_ | refine GrdK.same ?_ | refine GrdK.tf ?_ | refine GrdK.ft ?_ | refine PickK.t ?_ | refine PickK.f ?_); (conv => whnf))
    exact ⟨(l, A1, c1), ⟨rfl, trivial⟩, HSub.of [0] rfl, hR.symm⟩
  have h := dT h
  obtain ⟨d, hd⟩ : ∃ d, many - i = d + 1 := ⟨many - i - 1, by omega⟩
  rw [hd, litI] at hR
  (conv => whnf); repeat ((first | refine RngK.mk (by omega) (by omega) ?_ | refine NzK.mk (by omega) ?_ | refine NnK.mk (by omega) ?_ | refine BdK.mk (by omega) (by omega) (by omega) ?_ | refine InsK.lit (by omega) (by omega) ?_ | refine SpK.lit ?_ | refine GrdK.same ?_ | refine GrdK.tf ?_ | refine GrdK.ft ?_ | refine PickK.t ?_ | refine PickK.f ?_); (conv => whnf))
  rw [e6]
  refine CallK.of [1] (fetch_spec b14 r A bs.length c bs of1 st bi1 cn1 b hn hI (by omega)) rfl (fun w hw => hp.br.by_.pass hw) ?_
  rintro v _ ⟨of2, bi2, cn2, g1, hI2, rfl, hv⟩
  rcases hv with ⟨rfl, g3, g4⟩ | ⟨rfl, g3⟩
  rotate_left
  · rw [if_pos (by omega)] at hR
    subst hR
    have := hI2.on
    (conv => whnf); repeat ((first | refine RngK.mk (by omega) (by omega) ?_ | refine NzK.mk (by omega) ?_ | refine NnK.mk (by omega) ?_ | refine BdK.mk (by omega) (by omega) (by omega) ?_ | refine InsK.lit (by omega) (by omega) ?_ | refine SpK.lit ?_ | refine GrdK.same ?_ | refine GrdK.tf ?_ | refine GrdK.ft ?_ | refine PickK.t ?_ | refine PickK.f ?_); (conv => whnf))
    refine Wp.cond rfl (fun _ => ?_) (fun h => by cases h)
    (conv => whnf); repeat ((first | refine RngK.mk (by omega) (by omega) ?_ | refine NzK.mk (by omega) ?_ | refine NnK.mk (by omega) ?_ | refine BdK.mk (by omega) (by omega) (by omega) ?_ | refine InsK.lit (by omega) (by omega) ?_ | refine SpK.lit ?_ | refine GrdK.same ?_ | refine GrdK.tf ?_ | refine GrdK.ft ?_ | refine PickK.t ?_ | refine PickK.f ?_); (conv => whnf))
    refine CallK.of [0] (rbErr_spec b14 r A bs.length c of2 st bi2 cn2 _ e u (by omega)) rfl (fun w hw => ⟨hp.br.la.pass hw, hp.br.rr.pass hw⟩) ?_
    rintro _ _ ⟨⟨T', x, rfl⟩, rfl⟩
    (conv => whnf); repeat ((first | refine RngK.mk (by omega) (by omega) ?_ | refine NzK.mk (by omega) ?_ | refine NnK.mk (by omega) ?_ | refine BdK.mk (by omega) (by omega) (by omega) ?_ | refine InsK.lit (by omega) (by omega) ?_ | refine SpK.lit ?_ | refine GrdK.same ?_ | refine GrdK.tf ?_ | refine GrdK.ft ?_ | refine PickK.t ?_ | refine PickK.f ?_); (conv => whnf))
    exact ⟨[], HSub.nil _, T', x, rfl, rfl⟩
  rw [if_neg (by omega)] at hR
  have hix := bitsN_lt (num bs) (8 * of1 + cn1 - b) b
  have hent := hT.ent hix
  have hpb := pick_bits hb1 g3 hI2.lt hI2.b32 hI2.low
  rw [g1] at hpb
  have hcb : IntKind.u32.wrap ((cn2 : Int) - (b : Int)) = ((cn2 - b : Nat) : Int) := by
    have := hI2.lt
    rw [IntWalk.u32_in _ (by omega)]; omega
  have htsx : (ts.map vU16)[bitsN (num bs) (8 * of1 + cn1 - b) b]? = some (vU16 (pk (ent Tab (bitsN (num bs) (8 * of1 + cn1 - b) b)))) := by
    have h1 : (ts.take (2 ^ b))[bitsN (num bs) (8 * of1 + cn1 - b) b]? = some (pk (ent Tab (bitsN (num bs) (8 * of1 + cn1 - b) b))) := by
      rw [hts, List.getElem?_map, ent_at (by rw [hT.len]; exact hix)]; rfl
    rw [List.getElem?_take, if_pos hix] at h1
    rw [List.getElem?_map, h1]; rfl
  obtain ⟨ix, hixe⟩ : ∃ ix, bitsN (num bs) (8 * of1 + cn1 - b) b = ix := ⟨_, rfl⟩
  rw [hixe] at hix hent hpb htsx hR
  obtain ⟨x, hx⟩ : ∃ x, ent Tab ix = x := ⟨_, rfl⟩
  rw [hx] at hent htsx hR
  obtain ⟨x1, x2, x3⟩ := hent
  have hpk1 := pk_hi (x := x) (by omega)
  have hpk2 := pk_lo (x := x) (by omega)
  have hpk3 : pk x < 65536 := by unfold pk; omega
  obtain ⟨px, hpx⟩ : ∃ px, pk x = px := ⟨_, rfl⟩
  rw [hpx] at hpk1 hpk2 hpk3 htsx
  have f1 : ishr .u16 (px : Int) 8 = ((x.1 : Nat) : Int) := by rw [← hpk1]; exact ishr_nat .u16 px (n := 8) (by decide)
  have f2 : iand .u16 (px : Int) 255 = ((x.2 : Nat) : Int) := by
    have := iand_u (k := .u16) rfl (x := px) (y := 255) hpk3 (by decide)
    rw [show (255 : Nat) = 2 ^ 8 - 1 by rfl, Nat.and_two_pow_sub_one_eq_mod] at this
    rw [← hpk2]
    exact this
  have f3 : IntKind.u8.wrap (x.1 : Int) = (x.1 : Int) := wrap_u_lt (k := .u8) rfl (by show _ < 256; omega)
  have f4 : IntKind.u32.wrap (x.2 : Int) = (x.2 : Int) := IntWalk.u32_in _ (by omega)
  have f5 : IntKind.u32.wrap ((cn2 : Int) - (x.2 : Int)) = ((cn2 - x.2 : Nat) : Int) := by
    have := hI2.lt
    rw [IntWalk.u32_in _ (by omega)]; omega
  (conv => whnf); repeat ((first | refine RngK.mk (by omega) (by omega) ?_ | refine NzK.mk (by omega) ?_ | refine NnK.mk (by omega) ?_ | refine BdK.mk (by omega) (by omega) (by omega) ?_ | refine InsK.lit (by omega) (by omega) ?_ | refine SpK.lit ?_ | refine GrdK.same ?_ | refine GrdK.tf ?_ | refine GrdK.ft ?_ | refine PickK.t ?_ | refine PickK.f ?_); (conv => whnf))
  refine Wp.cond rfl (fun h => by cases h) (fun _ => ?_)
  (conv => whnf); repeat ((first | refine RngK.mk (by omega) (by omega) ?_ | refine NzK.mk (by omega) ?_ | refine NnK.mk (by omega) ?_ | refine BdK.mk (by omega) (by omega) (by omega) ?_ | refine InsK.lit (by omega) (by omega) ?_ | refine SpK.lit ?_ | refine GrdK.same ?_ | refine GrdK.tf ?_ | refine GrdK.ft ?_ | refine PickK.t ?_ | refine PickK.f ?_); (conv => whnf))
  refine LdK.blk 0 rfl rfl rfl rfl ?_
  (conv => whnf); repeat ((first | refine RngK.mk (by omega) (by omega) ?_ | refine NzK.mk (by omega) ?_ | refine NnK.mk (by omega) ?_ | refine BdK.mk (by omega) (by omega) (by omega) ?_ | refine InsK.lit (by omega) (by omega) ?_ | refine SpK.lit ?_ | refine GrdK.same ?_ | refine GrdK.tf ?_ | refine GrdK.ft ?_ | refine PickK.t ?_ | refine PickK.f ?_); (conv => whnf))
  refine LdK.blk 0 rfl rfl rfl rfl ?_
  (conv => whnf); repeat ((first | refine RngK.mk (by omega) (by omega) ?_ | refine NzK.mk (by omega) ?_ | refine NnK.mk (by omega) ?_ | refine BdK.mk (by omega) (by omega) (by omega) ?_ | refine InsK.lit (by omega) (by omega) ?_ | refine SpK.lit ?_ | refine GrdK.same ?_ | refine GrdK.tf ?_ | refine GrdK.ft ?_ | refine PickK.t ?_ | refine PickK.f ?_); (conv => whnf))
  rw [hcb]
  (conv => whnf); repeat ((first | refine RngK.mk (by omega) (by omega) ?_ | refine NzK.mk (by omega) ?_ | refine NnK.mk (by omega) ?_ | refine BdK.mk (by omega) (by omega) (by omega) ?_ | refine InsK.lit (by omega) (by omega) ?_ | refine SpK.lit ?_ | refine GrdK.same ?_ | refine GrdK.tf ?_ | refine GrdK.ft ?_ | refine PickK.t ?_ | refine PickK.f ?_); (conv => whnf))
  rw [hpb]
  refine InsK.rd hp.tb (by omega) (by omega) ?_
  (conv => whnf); repeat ((first | refine RngK.mk (by omega) (by omega) ?_ | refine NzK.mk (by omega) ?_ | refine NnK.mk (by omega) ?_ | refine BdK.mk (by omega) (by omega) (by omega) ?_ | refine InsK.lit (by omega) (by omega) ?_ | refine SpK.lit ?_ | refine GrdK.same ?_ | refine GrdK.tf ?_ | refine GrdK.ft ?_ | refine PickK.t ?_ | refine PickK.f ?_); (conv => whnf))
  refine LdK.rd (v := vU16 px) hp.tb ix rfl rfl rfl htsx ?_
  (conv => whnf); repeat ((first | refine RngK.mk (by omega) (by omega) ?_ | refine NzK.mk (by omega) ?_ | refine NnK.mk (by omega) ?_ | refine BdK.mk (by omega) (by omega) (by omega) ?_ | refine InsK.lit (by omega) (by omega) ?_ | refine SpK.lit ?_ | refine GrdK.same ?_ | refine GrdK.tf ?_ | refine GrdK.ft ?_ | refine PickK.t ?_ | refine PickK.f ?_); (conv => whnf))
  rw [f1, f3]
  refine EffK.litV rfl rfl rfl rfl rfl rfl rfl rfl rfl ?_
  (conv => whnf); repeat ((first | refine RngK.mk (by omega) (by omega) ?_ | refine NzK.mk (by omega) ?_ | refine NnK.mk (by omega) ?_ | refine BdK.mk (by omega) (by omega) (by omega) ?_ | refine InsK.lit (by omega) (by omega) ?_ | refine SpK.lit ?_ | refine GrdK.same ?_ | refine GrdK.tf ?_ | refine GrdK.ft ?_ | refine PickK.t ?_ | refine PickK.f ?_); (conv => whnf))
  intro b3
  (conv => whnf); repeat ((first | refine RngK.mk (by omega) (by omega) ?_ | refine NzK.mk (by omega) ?_ | refine NnK.mk (by omega) ?_ | refine BdK.mk (by omega) (by omega) (by omega) ?_ | refine InsK.lit (by omega) (by omega) ?_ | refine SpK.lit ?_ | refine GrdK.same ?_ | refine GrdK.tf ?_ | refine GrdK.ft ?_ | refine PickK.t ?_ | refine PickK.f ?_); (conv => whnf))
  refine EffK.append 2 (news := [.int .u8 (x.1 : Int)]) rfl rfl rfl rfl rfl rfl rfl rfl (Src.ownW (k := 0) rfl rfl) (by intro u hu; obtain rfl := List.mem_singleton.1 hu; rfl) (by simp [maxLen]; omega) (by show (_ + _) * 1 ≤ _; omega) fun A' cap' => ?_
  (conv => whnf); repeat ((first | refine RngK.mk (by omega) (by omega) ?_ | refine NzK.mk (by omega) ?_ | refine NnK.mk (by omega) ?_ | refine BdK.mk (by omega) (by omega) (by omega) ?_ | refine InsK.lit (by omega) (by omega) ?_ | refine SpK.lit ?_ | refine GrdK.same ?_ | refine GrdK.tf ?_ | refine GrdK.ft ?_ | refine PickK.t ?_ | refine PickK.f ?_); (conv => whnf))
  refine LdK.blk 1 rfl rfl rfl rfl ?_
  (conv => whnf); repeat ((first | refine RngK.mk (by omega) (by omega) ?_ | refine NzK.mk (by omega) ?_ | refine NnK.mk (by omega) ?_ | refine BdK.mk (by omega) (by omega) (by omega) ?_ | refine InsK.lit (by omega) (by omega) ?_ | refine SpK.lit ?_ | refine GrdK.same ?_ | refine GrdK.tf ?_ | refine GrdK.ft ?_ | refine PickK.t ?_ | refine PickK.f ?_); (conv => whnf))
  rw [f2]
  refine StK.blkE 1 (rbc r A bs.length c of2 st bi2 (cn2 - x.2)) rfl rfl rfl rfl (Nat.le_of_ble_eq_true rfl) ?_ ?_
  · show [_, _, _, _, _, Value.int .u32 _] = [_, _, _, _, _, Value.int .u32 _]
    rw [f4, f5]
  (conv => whnf); repeat ((first | refine RngK.mk (by omega) (by omega) ?_ | refine NzK.mk (by omega) ?_ | refine NnK.mk (by omega) ?_ | refine BdK.mk (by omega) (by omega) (by omega) ?_ | refine InsK.lit (by omega) (by omega) ?_ | refine SpK.lit ?_ | refine GrdK.same ?_ | refine GrdK.tf ?_ | refine GrdK.ft ?_ | refine PickK.t ?_ | refine PickK.f ?_); (conv => whnf))
  refine ⟨(i + 1, l ++ [UInt8.ofNat x.1], A', cap', of2, bi2, cn2 - x.2), ⟨rfl, ?_, rfl, rfl, rfl, rfl, rfl, trivial⟩, ?_, ⟨by simp only; omega, by simp only [List.length_append, List.length_singleton]; omega, hI2.less (by omega), ?_⟩, by simp only; omega⟩
  · show some (Value.slice A' _ cap') = some (Value.slice A' _ cap')
    rw [List.length_append]; rfl
  · dsimp only
    rw [u8_snoc l x1, List.length_append]
    exact HSub.of [2, 1] rfl
  · dsimp only
    rw [show many - (i + 1) = d by omega, show 8 * of2 + (cn2 - x.2) = 8 * of1 + cn1 - x.2 by omega]
    exact hR
theorem two_cells {cs : List Value} {k : Nat} {x y : Value} (h1 : cs[k]? = some x) (h2 : cs[k + 1]? = some y) : (cs.drop k).take (2 * 1) = [x, y] := by
  obtain ⟨l1, e1⟩ := List.getElem?_eq_some_iff.1 h1
  obtain ⟨l2, e2⟩ := List.getElem?_eq_some_iff.1 h2
  rw [List.drop_eq_getElem_cons l1, List.drop_eq_getElem_cons l2, e1, e2]
  rfl
theorem HrPre.made {w0 w : World} {W : Nat → Prop} {Hin Hr : Hp} (hw : HInv w0 W (Hin ++ Hr) w) {rb tb : Nat} {cs : List Value} {ts : List Nat} {b : Nat} {A : Option Addr} {n c : Nat} {bs : List UInt8} {e u : Addr} (k j : Nat)
    (hk : Hr[k]? = some (.blk rb 107 cs)) (hj : Hr[j]? = some (.own (some ⟨tb, 0, none⟩) 2048 2048 109 1 (ts.map vU16)))
    (h6 : cs[6]? = some (vI 0)) (h12 : cs[12]? = some (.slice (some ⟨tb, 0, none⟩) 2048 2048)) (h13 : cs[13]? = some (vN b)) (hB : Bytes w0 W A n c bs) (hL : Laid w0 W e u) :
    HrPre w (blocks Hin) rb A n c bs e u (some ⟨tb, 0, none⟩) 2048 2048 b ts := by
  obtain ⟨hl13, _⟩ := List.getElem?_eq_some_iff.1 h13
  refine ⟨⟨hB.pass hw, hL.pass hw, ?_⟩, ?_, Rd.ofOwn hw j hj⟩
  · obtain ⟨hl6, he6⟩ := List.getElem?_eq_some_iff.1 h6
    have h := Rd.ofBlk (o := 6) (m := 1) (sz := 1) hw k hk (by omega)
    rw [List.drop_eq_getElem_cons hl6, he6] at h
    exact h
  · have h := Rd.ofBlk (o := 12) (m := 2) (sz := 1) hw k hk (by omega)
    rw [two_cells h12 h13] at h
    exact h
theorem pad_take (Tab : List Cd) {q k : Nat} (h : Tab.length = q) : (Tab.map pk ++ List.replicate k 0).take q = Tab.map pk := by
  rw [List.take_append_of_le_length (by rw [List.length_map]; omega), List.take_of_length_le (by rw [List.length_map]; omega)]
set_option maxHeartbeats 1000000 in
theorem zzOne_spec (A : Option Addr) (n c : Nat) (bs : List UInt8) (e u : Addr) (off size many : Nat) (B : Option Addr) (m mc b : Nat) (Tab : List Cd) (hn : n ≤ 16777216) (ho : 2 ≤ off) (h0 : 1 ≤ size) (hs : off + size ≤ n) (hT : Tb b Tab) (hmany : many ≤ 1000000) (hm : Tab.length = m) :
    FnS Tryd.prog 41 [.slice A n c, vN off, vN size, vN many, .slice B m mc, vN b] [] (fun w => (Bytes w (blocks []) A n c bs ∧ Laid w (blocks []) e u) ∧ Rd w (blocks []) B m 1 ((Tab.map pk).map vU16))
      (fun v H => match oneI bs off size b Tab many with
        | none => ∃ T' x, v = .tuple #[.slice none 0 0, .iface T' x] ∧ H = []
        | some l => ∃ A1 c1, v = .tuple #[.slice A1 l.length c1, .nilIface] ∧ H = [.own A1 l.length c1 5 1 (l.map vU8)]) := by
  refine FnS.introD Tryd.func41 rfl (by kernel_rfl) rfl fun w hH ⟨⟨hp, hL⟩, hB⟩ => ?_
  have h2b : 2 ^ b ≤ 2 ^ 11 := Nat.pow_le_pow_right (by omega) hT.b1
  have htl := hT.len
  have hrf := fun r T => readOne_spec r A n c bs e u off size many T 2048 2048 b (Tab.map pk ++ List.replicate (2048 - (Tab.map pk).length) 0) Tab hn ho h0 hs hT (by omega) (pad_take Tab htl) hmany
  obtain ⟨R, hR⟩ : ∃ R, oneI bs off size b Tab many = R := ⟨_, rfl⟩
  rw [hR] at hrf ⊢
  (conv => whnf); repeat ((first | refine RngK.mk (by omega) (by omega) ?_ | refine NzK.mk (by omega) ?_ | refine NnK.mk (by omega) ?_ | refine BdK.mk (by omega) (by omega) (by omega) ?_ | refine InsK.lit (by omega) (by omega) ?_ | refine SpK.lit ?_ | refine GrdK.same ?_ | refine GrdK.tf ?_ | refine GrdK.ft ?_ | refine PickK.t ?_ | refine PickK.f ?_); (conv => whnf))
  refine CallK.of [] (zzReader_spec B m mc (Tab.map pk) b (by rw [List.length_map]; exact hm) (by omega)) rfl (fun w hw => hB.pass hw) ?_
  rintro _ _ ⟨rb, tb, cs, rfl, rfl, h6, h12, h13⟩
  (conv => whnf); repeat ((first | refine RngK.mk (by omega) (by omega) ?_ | refine NzK.mk (by omega) ?_ | refine NnK.mk (by omega) ?_ | refine BdK.mk (by omega) (by omega) (by omega) ?_ | refine InsK.lit (by omega) (by omega) ?_ | refine SpK.lit ?_ | refine GrdK.same ?_ | refine GrdK.tf ?_ | refine GrdK.ft ?_ | refine PickK.t ?_ | refine PickK.f ?_); (conv => whnf))
  refine CallK.of [] (hrf rb (some ⟨tb, 0, none⟩)) rfl (fun w hw => HrPre.made hw 0 1 rfl rfl h6 h12 h13 hp hL) ?_
  cases hRR : R with
  | some l =>
    rintro _ _ ⟨A1, c1, rfl, rfl⟩
    (conv => whnf); repeat ((first | refine RngK.mk (by omega) (by omega) ?_ | refine NzK.mk (by omega) ?_ | refine NnK.mk (by omega) ?_ | refine BdK.mk (by omega) (by omega) (by omega) ?_ | refine InsK.lit (by omega) (by omega) ?_ | refine SpK.lit ?_ | refine GrdK.same ?_ | refine GrdK.tf ?_ | refine GrdK.ft ?_ | refine PickK.t ?_ | refine PickK.f ?_); (conv => whnf))
    exact ⟨_, HSub.of [0] rfl, A1, c1, rfl, rfl⟩
  | none =>
    rintro _ _ ⟨T', x, rfl, rfl⟩
    (conv => whnf); repeat ((first | refine RngK.mk (by omega) (by omega) ?_ | refine NzK.mk (by omega) ?_ | refine NnK.mk (by omega) ?_ | refine BdK.mk (by omega) (by omega) (by omega) ?_ | refine InsK.lit (by omega) (by omega) ?_ | refine SpK.lit ?_ | refine GrdK.same ?_ | refine GrdK.tf ?_ | refine GrdK.ft ?_ | refine PickK.t ?_ | refine PickK.f ?_); (conv => whnf))
    exact ⟨_, HSub.nil _, T', x, rfl, rfl⟩
theorem litI_len {N st b : Nat} {T : List Cd} : ∀ (m p : Nat) (acc l : List UInt8), litI N st b T m p acc = some l → l.length = acc.length + m
  | 0, p, acc, l, hr => by
    simp only [litI, Option.some.injEq] at hr
    rw [← hr]; rfl
  | m + 1, p, acc, l, hr => by
    rw [litI] at hr
    split at hr
    · cases hr
    · have := litI_len m _ _ l hr
      rw [this, List.length_append, List.length_singleton]; omega
theorem oneI_len {bs : List UInt8} {off size b many : Nat} {T : List Cd} {l : List UInt8} (h : oneI bs off size b T many = some l) : l.length = many := by
  unfold oneI at h
  split at h
  · cases h
  · have := litI_len _ _ _ _ h
    simpa using this
def outL (R : Option (List UInt8)) : List UInt8 := R.getD []
set_option maxHeartbeats 1000000 in
theorem implOne_spec (A : Option Addr) (n c : Nat) (bs : List UInt8) (e u : Addr) (off size many : Nat) (B : Option Addr) (m mc b : Nat) (Tab : List Cd) (hn : n ≤ 16777216) (ho : 2 ≤ off) (h0 : 1 ≤ size) (hs : off + size ≤ n) (hT : Tb b Tab) (hmany : many ≤ 1000000) (hm : Tab.length = m) :
    FnS Tryd.prog 24 [.slice A n c, vN off, vN size, vN many, .slice B m mc, vN b] [] (fun w => (Bytes w (blocks []) A n c bs ∧ Laid w (blocks []) e u) ∧ Rd w (blocks []) B m 2 (cdE Tab))
      (fun v H => ∃ A1 c1, v = .tuple #[.slice A1 (outL (oneI bs off size b Tab many)).length c1, vB (oneI bs off size b Tab many).isSome] ∧ H = [.own A1 (outL (oneI bs off size b Tab many)).length c1 5 1 ((outL (oneI bs off size b Tab many)).map vU8)]) := by
  refine FnS.introD Tryd.func24 rfl (by kernel_rfl) rfl fun w hH ⟨⟨hp, hL⟩, hB⟩ => ?_
  have h2b : 2 ^ b ≤ 2 ^ 11 := Nat.pow_le_pow_right (by omega) hT.b1
  have htl := hT.len
  have hrf := fun T mc' => zzOne_spec A n c bs e u off size many T m mc' b Tab hn ho h0 hs hT hmany hm
  obtain ⟨R, hR⟩ : ∃ R, oneI bs off size b Tab many = R := ⟨_, rfl⟩
  rw [hR] at hrf ⊢
  (conv => whnf); repeat ((first | refine RngK.mk (by omega) (by omega) ?_ | refine NzK.mk (by omega) ?_ | refine NnK.mk (by omega) ?_ | refine BdK.mk (by omega) (by omega) (by omega) ?_ | refine InsK.lit (by omega) (by omega) ?_ | refine SpK.lit ?_ | refine GrdK.same ?_ | refine GrdK.tf ?_ | refine GrdK.ft ?_ | refine PickK.t ?_ | refine PickK.f ?_); (conv => whnf))
  refine CallK.of [] (pairsOf_spec B m mc Tab (by omega) hm (fun x hx => by have := hT.mem x hx; have := hT.b1; omega)) rfl (fun w hw => hB.pass hw) ?_
  rintro _ _ ⟨B1, kc, rfl, rfl⟩
  rw [hm]
  (conv => whnf); repeat ((first | refine RngK.mk (by omega) (by omega) ?_ | refine NzK.mk (by omega) ?_ | refine NnK.mk (by omega) ?_ | refine BdK.mk (by omega) (by omega) (by omega) ?_ | refine InsK.lit (by omega) (by omega) ?_ | refine SpK.lit ?_ | refine GrdK.same ?_ | refine GrdK.tf ?_ | refine GrdK.ft ?_ | refine PickK.t ?_ | refine PickK.f ?_); (conv => whnf))
  refine CallK.of [] (hrf B1 kc) rfl (fun w hw => ⟨⟨hp.pass hw, hL.pass hw⟩, Rd.ofOwn hw 0 rfl⟩) ?_
  cases hRR : R with
  | some l =>
    rintro _ _ ⟨A1, c1, rfl, rfl⟩
    have hll := oneI_len (hR.trans hRR)
    (conv => whnf); repeat ((first | refine RngK.mk (by omega) (by omega) ?_ | refine NzK.mk (by omega) ?_ | refine NnK.mk (by omega) ?_ | refine BdK.mk (by omega) (by omega) (by omega) ?_ | refine InsK.lit (by omega) (by omega) ?_ | refine SpK.lit ?_ | refine GrdK.same ?_ | refine GrdK.tf ?_ | refine GrdK.ft ?_ | refine PickK.t ?_ | refine PickK.f ?_); (conv => whnf))
    refine DrwK.ord (by kernel_rfl) [1, 3, 4, 0, 2, 5, 6] (by kernel_rfl) ?_; conv => whnf
    (conv => whnf); repeat ((first | refine RngK.mk (by omega) (by omega) ?_ | refine NzK.mk (by omega) ?_ | refine NnK.mk (by omega) ?_ | refine BdK.mk (by omega) (by omega) (by omega) ?_ | refine InsK.lit (by omega) (by omega) ?_ | refine SpK.lit ?_ | refine GrdK.same ?_ | refine GrdK.tf ?_ | refine GrdK.ft ?_ | refine PickK.t ?_ | refine PickK.f ?_); (conv => whnf))
    refine ValK.eqNil rfl ?_
    (conv => whnf); repeat ((first | refine RngK.mk (by omega) (by omega) ?_ | refine NzK.mk (by omega) ?_ | refine NnK.mk (by omega) ?_ | refine BdK.mk (by omega) (by omega) (by omega) ?_ | refine InsK.lit (by omega) (by omega) ?_ | refine SpK.lit ?_ | refine GrdK.same ?_ | refine GrdK.tf ?_ | refine GrdK.ft ?_ | refine PickK.t ?_ | refine PickK.f ?_); (conv => whnf))
    refine EffK.lit0 rfl rfl fun b => ?_
    (conv => whnf); repeat ((first | refine RngK.mk (by omega) (by omega) ?_ | refine NzK.mk (by omega) ?_ | refine NnK.mk (by omega) ?_ | refine BdK.mk (by omega) (by omega) (by omega) ?_ | refine InsK.lit (by omega) (by omega) ?_ | refine SpK.lit ?_ | refine GrdK.same ?_ | refine GrdK.tf ?_ | refine GrdK.ft ?_ | refine PickK.t ?_ | refine PickK.f ?_); (conv => whnf))
    refine EffK.append 0 (news := l.map vU8) rfl rfl rfl rfl rfl rfl rfl rfl (Src.ownW (sz := 1) (k := 1) rfl (by simp)) vU8_one (by simp [maxLen]; omega) (by show (_ + _) * 1 ≤ _; omega) fun A5 c5 => ?_
    (conv => whnf); repeat ((first | refine RngK.mk (by omega) (by omega) ?_ | refine NzK.mk (by omega) ?_ | refine NnK.mk (by omega) ?_ | refine BdK.mk (by omega) (by omega) (by omega) ?_ | refine InsK.lit (by omega) (by omega) ?_ | refine SpK.lit ?_ | refine GrdK.same ?_ | refine GrdK.tf ?_ | refine GrdK.ft ?_ | refine PickK.t ?_ | refine PickK.f ?_); (conv => whnf))
    refine ⟨_, HSub.of [0] rfl, A5, c5, ?_, ?_⟩
    · rw [Nat.zero_add]; rfl
    · rw [Nat.zero_add]; rfl
  | none =>
    rintro _ _ ⟨T', x, rfl, rfl⟩
    (conv => whnf); repeat ((first | refine RngK.mk (by omega) (by omega) ?_ | refine NzK.mk (by omega) ?_ | refine NnK.mk (by omega) ?_ | refine BdK.mk (by omega) (by omega) (by omega) ?_ | refine InsK.lit (by omega) (by omega) ?_ | refine SpK.lit ?_ | refine GrdK.same ?_ | refine GrdK.tf ?_ | refine GrdK.ft ?_ | refine PickK.t ?_ | refine PickK.f ?_); (conv => whnf))
    refine DrwK.ord (by kernel_rfl) [1, 3, 4, 0, 2, 5, 6] (by kernel_rfl) ?_; conv => whnf
    (conv => whnf); repeat ((first | refine RngK.mk (by omega) (by omega) ?_ | refine NzK.mk (by omega) ?_ | refine NnK.mk (by omega) ?_ | refine BdK.mk (by omega) (by omega) (by omega) ?_ | refine InsK.lit (by omega) (by omega) ?_ | refine SpK.lit ?_ | refine GrdK.same ?_ | refine GrdK.tf ?_ | refine GrdK.ft ?_ | refine PickK.t ?_ | refine PickK.f ?_); (conv => whnf))
    refine ValK.eqIface rfl ?_
    (conv => whnf); repeat ((first | refine RngK.mk (by omega) (by omega) ?_ | refine NzK.mk (by omega) ?_ | refine NnK.mk (by omega) ?_ | refine BdK.mk (by omega) (by omega) (by omega) ?_ | refine InsK.lit (by omega) (by omega) ?_ | refine SpK.lit ?_ | refine GrdK.same ?_ | refine GrdK.tf ?_ | refine GrdK.ft ?_ | refine PickK.t ?_ | refine PickK.f ?_); (conv => whnf))
    refine EffK.lit0 rfl rfl fun b => ?_
    (conv => whnf); repeat ((first | refine RngK.mk (by omega) (by omega) ?_ | refine NzK.mk (by omega) ?_ | refine NnK.mk (by omega) ?_ | refine BdK.mk (by omega) (by omega) (by omega) ?_ | refine InsK.lit (by omega) (by omega) ?_ | refine SpK.lit ?_ | refine GrdK.same ?_ | refine GrdK.tf ?_ | refine GrdK.ft ?_ | refine PickK.t ?_ | refine PickK.f ?_); (conv => whnf))
    refine EffK.append 0 (news := []) rfl rfl rfl rfl rfl rfl rfl rfl (Src.rd (Rd.nil 1)) (fun u hu => by cases hu) (by simp [maxLen]) (by show (_ + _) * 1 ≤ _; omega) fun A5 c5 => ?_
    (conv => whnf); repeat ((first | refine RngK.mk (by omega) (by omega) ?_ | refine NzK.mk (by omega) ?_ | refine NnK.mk (by omega) ?_ | refine BdK.mk (by omega) (by omega) (by omega) ?_ | refine InsK.lit (by omega) (by omega) ?_ | refine SpK.lit ?_ | refine GrdK.same ?_ | refine GrdK.tf ?_ | refine GrdK.ft ?_ | refine PickK.t ?_ | refine PickK.f ?_); (conv => whnf))
    exact ⟨_, HSub.of [0] rfl, A5, c5, rfl, rfl⟩
end Go.Proofs.YtgdhdkjbilifiaaDoor
