/- Literals of four streams: the reader of the package. -/
import Derived.Test.YtgdhdkjbilifiaaDoorCdW
namespace Go.Proofs.YtgdhdkjbilifiaaDoor
open Go Go.Sx
set_option maxRecDepth 100000
def padz (k : Nat) (l : List UInt8) : List UInt8 := l ++ List.replicate (k - l.length) 0
theorem padz_len {k : Nat} {l : List UInt8} (h : l.length ≤ k) : (padz k l).length = k := by simp [padz]; omega
theorem padz_set {k : Nat} {l : List UInt8} (h : l.length < k) (x : UInt8) : (padz k l).set l.length x = padz k (l ++ [x]) := by
  unfold padz
  obtain ⟨d, hd⟩ : ∃ d, k - l.length = d + 1 := ⟨k - l.length - 1, by omega⟩
  rw [hd, List.set_append_right _ _ (Nat.le_refl _), Nat.sub_self, List.replicate_succ, List.set_cons_zero, List.append_assoc, List.length_append, List.length_singleton, show k - (l.length + 1) = d by omega]
  rfl
theorem padz_full {k : Nat} {l : List UInt8} (h : l.length = k) : padz k l = l := by simp [padz, h]
/-- four parts of a buffer, as far as they are filled -/
def lay (q q4 : Nat) (l1 l2 l3 l4 : List UInt8) : List UInt8 := padz q l1 ++ (padz q l2 ++ (padz q l3 ++ padz q4 l4))
theorem lay_len {q q4 : Nat} {l1 l2 l3 l4 : List UInt8} (h1 : l1.length ≤ q) (h2 : l2.length ≤ q) (h3 : l3.length ≤ q) (h4 : l4.length ≤ q4) : (lay q q4 l1 l2 l3 l4).length = 3 * q + q4 := by
  simp only [lay, List.length_append, padz_len h1, padz_len h2, padz_len h3, padz_len h4]; omega
theorem lay_1 {q q4 j : Nat} {l1 l2 l3 l4 : List UInt8} (x : UInt8) (h1 : l1.length < q) (hj : j = l1.length) : (lay q q4 l1 l2 l3 l4).set j x = lay q q4 (l1 ++ [x]) l2 l3 l4 := by
  subst hj
  unfold lay
  rw [List.set_append_left _ _ (by rw [padz_len (by omega)]; exact h1), padz_set h1]
theorem lay_2 {q q4 j : Nat} {l1 l2 l3 l4 : List UInt8} (x : UInt8) (h1 : l1.length ≤ q) (h2 : l2.length < q) (hj : j = q + l2.length) : (lay q q4 l1 l2 l3 l4).set j x = lay q q4 l1 (l2 ++ [x]) l3 l4 := by
  subst hj
  unfold lay
  rw [List.set_append_right _ _ (by rw [padz_len h1]; omega), padz_len h1, Nat.add_sub_cancel_left, List.set_append_left _ _ (by rw [padz_len (by omega)]; exact h2), padz_set h2]
theorem lay_3 {q q4 j : Nat} {l1 l2 l3 l4 : List UInt8} (x : UInt8) (h1 : l1.length ≤ q) (h2 : l2.length ≤ q) (h3 : l3.length < q) (hj : j = q + q + l3.length) : (lay q q4 l1 l2 l3 l4).set j x = lay q q4 l1 l2 (l3 ++ [x]) l4 := by
  subst hj
  unfold lay
  rw [List.set_append_right _ _ (by rw [padz_len h1]; omega), padz_len h1, show q + q + l3.length - q = q + l3.length by omega, List.set_append_right _ _ (by rw [padz_len h2]; omega), padz_len h2, Nat.add_sub_cancel_left,
    List.set_append_left _ _ (by rw [padz_len (by omega)]; exact h3), padz_set h3]
theorem lay_4 {q q4 j : Nat} {l1 l2 l3 l4 : List UInt8} (x : UInt8) (h1 : l1.length ≤ q) (h2 : l2.length ≤ q) (h3 : l3.length ≤ q) (h4 : l4.length < q4) (hj : j = q + q + q + l4.length) : (lay q q4 l1 l2 l3 l4).set j x = lay q q4 l1 l2 l3 (l4 ++ [x]) := by
  subst hj
  unfold lay
  rw [List.set_append_right _ _ (by rw [padz_len h1]; omega), padz_len h1, show q + q + q + l4.length - q = q + q + l4.length by omega, List.set_append_right _ _ (by rw [padz_len h2]; omega), padz_len h2,
    show q + q + l4.length - q = q + l4.length by omega, List.set_append_right _ _ (by rw [padz_len h3]; omega), padz_len h3, Nat.add_sub_cancel_left, padz_set h4]
theorem lay_0 (q q4 : Nat) : lay q q4 [] [] [] [] = List.replicate (3 * q + q4) 0 := by
  simp only [lay, padz, List.length_nil, Nat.sub_zero, List.nil_append, List.replicate_append_replicate]
  congr 1; omega
def comb (R1 R2 R3 R4 : Option (List UInt8)) : Option (List UInt8) :=
  match R1 with
  | none => none
  | some a => match R2 with
    | none => none
    | some b => match R3 with
      | none => none
      | some c => match R4 with
        | none => none
        | some d => some (a ++ (b ++ (c ++ d)))
theorem comb_1 (R2 R3 R4 : Option (List UInt8)) : comb none R2 R3 R4 = none := rfl
theorem comb_2 (R1 R3 R4 : Option (List UInt8)) : comb R1 none R3 R4 = none := by cases R1 <;> rfl
theorem comb_3 (R1 R2 R4 : Option (List UInt8)) : comb R1 R2 none R4 = none := by cases R1 <;> cases R2 <;> rfl
theorem comb_4 (R1 R2 R3 : Option (List UInt8)) : comb R1 R2 R3 none = none := by cases R1 <;> cases R2 <;> cases R3 <;> rfl
/-- what the package reads from four streams, behind the sizes -/
def fourR (bs : List UInt8) (at_ s1 s2 s3 s4 b : Nat) (T : List Cd) (q q4 : Nat) : Option (List UInt8) :=
  comb (oneI bs at_ s1 b T q) (oneI bs (at_ + s1) s2 b T q) (oneI bs (at_ + s1 + s2) s3 b T q) (oneI bs (at_ + s1 + s2 + s3) s4 b T q4)
def fourI (bs : List UInt8) (off total b : Nat) (T : List Cd) (many : Nat) : Option (List UInt8) :=
  if total < 6 + le2 bs off + le2 bs (off + 2) + le2 bs (off + 4) then none
  else fourR bs (off + 6) (le2 bs off) (le2 bs (off + 2)) (le2 bs (off + 4)) (total - 6 - (le2 bs off + le2 bs (off + 2) + le2 bs (off + 4))) b T ((many + 3) / 4) (many - 3 * ((many + 3) / 4))
theorem le2_lt (bs : List UInt8) (j : Nat) : le2 bs j < 65536 := by
  have h := num_lt ((bs.drop j).take 2)
  have : 2 ^ (8 * ((bs.drop j).take 2).length) ≤ 2 ^ 16 := Nat.pow_le_pow_right (by omega) (by rw [List.length_take]; omega)
  unfold le2
  omega
/-- one stream, by the place of its last byte -/
def oneE (bs : List UInt8) (o st b : Nat) (T : List Cd) (many : Nat) : Option (List UInt8) :=
  if (bs.getD o 0).toNat = 0 then none else litI (num bs) st b T many (8 * o + wd (bs.getD o 0).toNat - 1) []
theorem oneI_E (bs : List UInt8) (off size b : Nat) (T : List Cd) (many : Nat) : oneI bs off size b T many = oneE bs (off + size - 1) (off - 2) b T many := rfl
theorem lay_full {q q4 : Nat} {l1 l2 l3 l4 : List UInt8} (h1 : l1.length = q) (h2 : l2.length = q) (h3 : l3.length = q) (h4 : l4.length = q4) : lay q q4 l1 l2 l3 l4 = l1 ++ (l2 ++ (l3 ++ l4)) := by
  unfold lay
  rw [padz_full h1, padz_full h2, padz_full h3, padz_full h4]
theorem set_u8 {L L' : List UInt8} {j x : Nat} (h : L.set j (UInt8.ofNat x) = L') (hx : x < 256) : (L.map vU8).set j (.int .u8 (x : Int)) = L'.map vU8 := by
  have e : (UInt8.ofNat x).toNat = x := UInt8.toNat_ofNat_of_lt' hx
  have e2 : (Value.int .u8 (x : Int)) = vU8 (UInt8.ofNat x) := by
    show _ = Value.int .u8 _
    rw [e]
  rw [e2, ← List.map_set, h]
theorem pk_shr {x : Cd} {px : Nat} (h : pk x = px) (h2 : x.2 < 256) : ishr .u16 (px : Int) 8 = ((x.1 : Nat) : Int) := by
  subst h
  rw [← pk_hi h2]
  exact ishr_nat .u16 (pk x) (n := 8) (by decide)
theorem pk_and {x : Cd} {px : Nat} (h : pk x = px) (h1 : x.1 < 256) (h2 : x.2 < 256) : iand .u16 (px : Int) 255 = ((x.2 : Nat) : Int) := by
  subst h
  have h3 : pk x < 65536 := by unfold pk; omega
  have := iand_u (k := .u16) rfl (x := pk x) (y := 255) h3 (by decide)
  rw [show (255 : Nat) = 2 ^ 8 - 1 by rfl, Nat.and_two_pow_sub_one_eq_mod] at this
  rw [← pk_lo h2]
  exact this
theorem u8_in {x : Nat} (h : x < 256) : IntKind.u8.wrap (x : Int) = (x : Int) := wrap_u_lt (k := .u8) rfl (by show _ < 256; omega)
theorem u32_less {x y : Nat} (h : x ≤ y) (hy : y < 4294967296) : IntKind.u32.wrap ((y : Int) - (IntKind.u32.wrap (x : Int))) = ((y - x : Nat) : Int) := by
  rw [IntWalk.u32_in (x : Int) (by omega), IntWalk.u32_in _ (by omega)]
  omega
def FourOut (R : Option (List UInt8)) (v : Value) (H : Hp) : Prop :=
  match R with
  | none => ∃ T' x, v = .tuple #[.slice none 0 0, .iface T' x] ∧ H = []
  | some l => ∃ A1 c1, v = .tuple #[.slice A1 l.length c1, .nilIface] ∧ H = [.own A1 l.length c1 5 1 (l.map vU8)]
structure FS where
  i : Nat
  l1 : List UInt8
  l2 : List UInt8
  l3 : List UInt8
  l4 : List UInt8
  o1 : Nat
  b1 : Nat
  c1 : Nat
  o2 : Nat
  b2 : Nat
  c2 : Nat
  o3 : Nat
  b3 : Nat
  c3 : Nat
  o4 : Nat
  b4 : Nat
  c4 : Nat
structure FI (bs : List UInt8) (b : Nat) (Tab : List Cd) (q q4 st1 st2 st3 st4 : Nat) (R1 R2 R3 R4 : Option (List UInt8)) (s : FS) : Prop where
  i_ : s.i ≤ q
  n1 : s.l1.length = s.i
  n2 : s.l2.length = s.i
  n3 : s.l3.length = s.i
  n4 : s.l4.length = min s.i q4
  I1 : RbI (num bs) bs.length st1 s.o1 s.b1 s.c1
  I2 : RbI (num bs) bs.length st2 s.o2 s.b2 s.c2
  I3 : RbI (num bs) bs.length st3 s.o3 s.b3 s.c3
  I4 : RbI (num bs) bs.length st4 s.o4 s.b4 s.c4
  r1 : litI (num bs) st1 b Tab (q - s.i) (8 * s.o1 + s.c1) s.l1 = R1
  r2 : litI (num bs) st2 b Tab (q - s.i) (8 * s.o2 + s.c2) s.l2 = R2
  r3 : litI (num bs) st3 b Tab (q - s.i) (8 * s.o3 + s.c3) s.l3 = R3
  r4 : litI (num bs) st4 b Tab (q4 - s.i) (8 * s.o4 + s.c4) s.l4 = R4
set_option maxHeartbeats 8000000 in
theorem readFour_spec (r : Nat) (A : Option Addr) (n c : Nat) (bs : List UInt8) (e u : Addr) (off total many : Nat) (T : Option Addr) (m mc b : Nat) (ts : List Nat) (Tab : List Cd) (hn : n ≤ 16777216) (h6 : 6 ≤ total) (hs : off + total ≤ n) (hT : Tb b Tab)
    (htm : 2 ^ b ≤ m) (hts : ts.take (2 ^ b) = Tab.map pk) (hm9 : 9 ≤ many) (hmany : many ≤ 1000000) :
    FnS Tryd.prog 57 [.pointer (some ⟨r, 0, none⟩), .slice A n c, vN off, vN total, vN many, .slice none 0 0] [] (fun w => HrPre w (blocks []) r A n c bs e u T m mc b ts)
      (FourOut (fourI bs off total b Tab many)) := by
  refine FnS.introD Tryd.func57 rfl (by kernel_rfl) rfl fun w hH hp => ?_
  obtain rfl : bs.length = n := hp.br.by_.len
  have hle := hp.br.by_.le
  have hb0 := hT.b0
  have hb1 := hT.b1
  have h2b : 2 ^ b ≤ 2 ^ 11 := Nat.pow_le_pow_right (by omega) hb1
  have h2p := Nat.two_pow_pos b
  obtain ⟨R, hR⟩ : ∃ R, fourI bs off total b Tab many = R := ⟨_, rfl⟩
  rw [hR]
  unfold fourI at hR
  have hgd : ∀ o (ho : o < bs.length), bs.getD o 0 = bs[o] := fun o ho => by simp [ho]
  obtain ⟨q, hq⟩ : ∃ q, (many + 3) / 4 = q := ⟨_, rfl⟩
  have eq4 : ((many : Int) + 3).tdiv 4 = ((q : Nat) : Int) := by
    rw [Int.tdiv_eq_ediv_of_nonneg (by omega)]; omega
  rw [hq] at hR
  have l1 := le2_lt bs off
  have l2 := le2_lt bs (off + 2)
  have l3 := le2_lt bs (off + 4)
  (conv => whnf); repeat ((first | refine RngK.mk (by omega) (by omega) ?_ | refine NzK.mk (by omega) ?_ | refine NnK.mk (by omega) ?_ | refine BdK.mk (by omega) (by omega) (by omega) ?_ | refine InsK.lit (by omega) (by omega) ?_ | refine SpK.lit ?_ | refine GrdK.same ?_ | refine GrdK.tf ?_ | refine GrdK.ft ?_ | refine PickK.t ?_ | refine PickK.f ?_); (conv => whnf))
  refine Wp.cond rfl (fun h => ?_) (fun h => ?_)
  · have h := dT h
    omega
  clear h
  (conv => whnf); repeat ((first | refine RngK.mk (by omega) (by omega) ?_ | refine NzK.mk (by omega) ?_ | refine NnK.mk (by omega) ?_ | refine BdK.mk (by omega) (by omega) (by omega) ?_ | refine InsK.lit (by omega) (by omega) ?_ | refine SpK.lit ?_ | refine GrdK.same ?_ | refine GrdK.tf ?_ | refine GrdK.ft ?_ | refine PickK.t ?_ | refine PickK.f ?_); (conv => whnf))
  refine Wp.cond rfl (fun h => ?_) (fun h => ?_)
  · have h := dT h
    omega
  clear h
  (conv => whnf); repeat ((first | refine RngK.mk (by omega) (by omega) ?_ | refine NzK.mk (by omega) ?_ | refine NnK.mk (by omega) ?_ | refine BdK.mk (by omega) (by omega) (by omega) ?_ | refine InsK.lit (by omega) (by omega) ?_ | refine SpK.lit ?_ | refine GrdK.same ?_ | refine GrdK.tf ?_ | refine GrdK.ft ?_ | refine PickK.t ?_ | refine PickK.f ?_); (conv => whnf))
  rw [eq4]
  (conv => whnf); repeat ((first | refine RngK.mk (by omega) (by omega) ?_ | refine NzK.mk (by omega) ?_ | refine NnK.mk (by omega) ?_ | refine BdK.mk (by omega) (by omega) (by omega) ?_ | refine InsK.lit (by omega) (by omega) ?_ | refine SpK.lit ?_ | refine GrdK.same ?_ | refine GrdK.tf ?_ | refine GrdK.ft ?_ | refine PickK.t ?_ | refine PickK.f ?_); (conv => whnf))
  refine Wp.cond rfl (fun h => ?_) (fun h => ?_)
  · have h := dT h
    omega
  clear h
  (conv => whnf); repeat ((first | refine RngK.mk (by omega) (by omega) ?_ | refine NzK.mk (by omega) ?_ | refine NnK.mk (by omega) ?_ | refine BdK.mk (by omega) (by omega) (by omega) ?_ | refine InsK.lit (by omega) (by omega) ?_ | refine SpK.lit ?_ | refine GrdK.same ?_ | refine GrdK.tf ?_ | refine GrdK.ft ?_ | refine PickK.t ?_ | refine PickK.f ?_); (conv => whnf))
  refine Bytes.sp hp.br.by_ (by omega) ?_
  (conv => whnf); repeat ((first | refine RngK.mk (by omega) (by omega) ?_ | refine NzK.mk (by omega) ?_ | refine NnK.mk (by omega) ?_ | refine BdK.mk (by omega) (by omega) (by omega) ?_ | refine InsK.lit (by omega) (by omega) ?_ | refine SpK.lit ?_ | refine GrdK.same ?_ | refine GrdK.tf ?_ | refine GrdK.ft ?_ | refine PickK.t ?_ | refine PickK.f ?_); (conv => whnf))
  refine CallK.of [] (le16_spec (cutA A off c 1) (bs.length - off) (c - off) (bs.drop off) (by omega)) rfl (fun w hw => (hp.br.by_.from_ (l := off) (by omega)).pass hw) ?_
  rintro _ _ ⟨rfl, rfl⟩
  (conv => whnf); repeat ((first | refine RngK.mk (by omega) (by omega) ?_ | refine NzK.mk (by omega) ?_ | refine NnK.mk (by omega) ?_ | refine BdK.mk (by omega) (by omega) (by omega) ?_ | refine InsK.lit (by omega) (by omega) ?_ | refine SpK.lit ?_ | refine GrdK.same ?_ | refine GrdK.tf ?_ | refine GrdK.ft ?_ | refine PickK.t ?_ | refine PickK.f ?_); (conv => whnf))
  refine Bytes.sp hp.br.by_ (by omega) ?_
  (conv => whnf); repeat ((first | refine RngK.mk (by omega) (by omega) ?_ | refine NzK.mk (by omega) ?_ | refine NnK.mk (by omega) ?_ | refine BdK.mk (by omega) (by omega) (by omega) ?_ | refine InsK.lit (by omega) (by omega) ?_ | refine SpK.lit ?_ | refine GrdK.same ?_ | refine GrdK.tf ?_ | refine GrdK.ft ?_ | refine PickK.t ?_ | refine PickK.f ?_); (conv => whnf))
  refine CallK.of [] (le16_spec (cutA A (off + 2) c 1) (bs.length - (off + 2)) (c - (off + 2)) (bs.drop (off + 2)) (by omega)) rfl (fun w hw => (hp.br.by_.from_ (l := off + 2) (by omega)).pass hw) ?_
  rintro _ _ ⟨rfl, rfl⟩
  (conv => whnf); repeat ((first | refine RngK.mk (by omega) (by omega) ?_ | refine NzK.mk (by omega) ?_ | refine NnK.mk (by omega) ?_ | refine BdK.mk (by omega) (by omega) (by omega) ?_ | refine InsK.lit (by omega) (by omega) ?_ | refine SpK.lit ?_ | refine GrdK.same ?_ | refine GrdK.tf ?_ | refine GrdK.ft ?_ | refine PickK.t ?_ | refine PickK.f ?_); (conv => whnf))
  refine Bytes.sp hp.br.by_ (by omega) ?_
  (conv => whnf); repeat ((first | refine RngK.mk (by omega) (by omega) ?_ | refine NzK.mk (by omega) ?_ | refine NnK.mk (by omega) ?_ | refine BdK.mk (by omega) (by omega) (by omega) ?_ | refine InsK.lit (by omega) (by omega) ?_ | refine SpK.lit ?_ | refine GrdK.same ?_ | refine GrdK.tf ?_ | refine GrdK.ft ?_ | refine PickK.t ?_ | refine PickK.f ?_); (conv => whnf))
  refine CallK.of [] (le16_spec (cutA A (off + 4) c 1) (bs.length - (off + 4)) (c - (off + 4)) (bs.drop (off + 4)) (by omega)) rfl (fun w hw => (hp.br.by_.from_ (l := off + 4) (by omega)).pass hw) ?_
  rintro _ _ ⟨rfl, rfl⟩
  change (if total < 6 + num ((bs.drop off).take 2) + num ((bs.drop (off + 2)).take 2) + num ((bs.drop (off + 4)).take 2) then none else fourR bs (off + 6) (num ((bs.drop off).take 2)) (num ((bs.drop (off + 2)).take 2)) (num ((bs.drop (off + 4)).take 2)) (total - 6 - (num ((bs.drop off).take 2) + num ((bs.drop (off + 2)).take 2) + num ((bs.drop (off + 4)).take 2))) b Tab q (many - 3 * q)) = R at hR
  change num ((bs.drop off).take 2) < 65536 at l1
  change num ((bs.drop (off + 2)).take 2) < 65536 at l2
  change num ((bs.drop (off + 4)).take 2) < 65536 at l3
  obtain ⟨s1, hs1⟩ : ∃ s1, num ((bs.drop off).take 2) = s1 := ⟨_, rfl⟩
  obtain ⟨s2, hs2⟩ : ∃ s2, num ((bs.drop (off + 2)).take 2) = s2 := ⟨_, rfl⟩
  obtain ⟨s3, hs3⟩ : ∃ s3, num ((bs.drop (off + 4)).take 2) = s3 := ⟨_, rfl⟩
  rw [hs1] at hR l1
  rw [hs2] at hR l2
  rw [hs3] at hR l3
  rw [hs1, hs2, hs3]
  clear hs1 hs2 hs3
  have u1 : IntKind.u64.wrap (s1 : Int) = (s1 : Int) := wrap_u_lt (k := .u64) rfl (by show _ < 2 ^ 64; omega)
  have u2 : IntKind.u64.wrap (s2 : Int) = (s2 : Int) := wrap_u_lt (k := .u64) rfl (by show _ < 2 ^ 64; omega)
  have u3 : IntKind.u64.wrap (s3 : Int) = (s3 : Int) := wrap_u_lt (k := .u64) rfl (by show _ < 2 ^ 64; omega)
  have u4 : IntKind.u64.wrap ((s1 : Int) + (s2 : Int)) = ((s1 + s2 : Nat) : Int) := wrap_u_lt (k := .u64) (n := s1 + s2) rfl (by show _ < 2 ^ 64; omega)
  have u5 : IntKind.u64.wrap (((s1 + s2 : Nat) : Int) + (s3 : Int)) = ((s1 + s2 + s3 : Nat) : Int) := wrap_u_lt (k := .u64) (n := s1 + s2 + s3) rfl (by show _ < 2 ^ 64; omega)
  have u6 : IntKind.u64.wrap (total : Int) = (total : Int) := wrap_u_lt (k := .u64) rfl (by show _ < 2 ^ 64; omega)
  have u7 : IntKind.u64.wrap ((total : Int) - 6) = ((total - 6 : Nat) : Int) := by
    rw [show (total : Int) - 6 = ((total - 6 : Nat) : Int) by omega]
    exact wrap_u_lt (k := .u64) rfl (by show _ < 2 ^ 64; omega)
  (conv => whnf); repeat ((first | refine RngK.mk (by omega) (by omega) ?_ | refine NzK.mk (by omega) ?_ | refine NnK.mk (by omega) ?_ | refine BdK.mk (by omega) (by omega) (by omega) ?_ | refine InsK.lit (by omega) (by omega) ?_ | refine SpK.lit ?_ | refine GrdK.same ?_ | refine GrdK.tf ?_ | refine GrdK.ft ?_ | refine PickK.t ?_ | refine PickK.f ?_); (conv => whnf))
  rw [u1, u2, u3, u4, u5, u6, u7]
  refine Wp.cond rfl (fun h => ?_) (fun h => ?_)
  · have h := dT h
    rw [if_pos (by omega)] at hR
    subst hR
    (conv => whnf); repeat ((first | refine RngK.mk (by omega) (by omega) ?_ | refine NzK.mk (by omega) ?_ | refine NnK.mk (by omega) ?_ | refine BdK.mk (by omega) (by omega) (by omega) ?_ | refine InsK.lit (by omega) (by omega) ?_ | refine SpK.lit ?_ | refine GrdK.same ?_ | refine GrdK.tf ?_ | refine GrdK.ft ?_ | refine PickK.t ?_ | refine PickK.f ?_); (conv => whnf))
    refine CallK.of [] (eof_spec r (off + 6 : Nat) e u (by omega) (by omega)) rfl (fun w hw => ⟨hp.br.la.pass hw, hp.br.rr.pass hw⟩) ?_
    rintro _ _ ⟨⟨T', x, rfl⟩, rfl⟩
    (conv => whnf); repeat ((first | refine RngK.mk (by omega) (by omega) ?_ | refine NzK.mk (by omega) ?_ | refine NnK.mk (by omega) ?_ | refine BdK.mk (by omega) (by omega) (by omega) ?_ | refine InsK.lit (by omega) (by omega) ?_ | refine SpK.lit ?_ | refine GrdK.same ?_ | refine GrdK.tf ?_ | refine GrdK.ft ?_ | refine PickK.t ?_ | refine PickK.f ?_); (conv => whnf))
    exact ⟨[], HSub.nil _, T', x, rfl, rfl⟩
  have h := dF h
  rw [if_neg (by omega)] at hR
  obtain ⟨s4, hs4⟩ : ∃ s4, total - 6 - (s1 + s2 + s3) = s4 := ⟨_, rfl⟩
  rw [hs4] at hR
  have v1 : IntKind.u32.wrap (total : Int) = (total : Int) := IntWalk.u32_in _ (by omega)
  have v2 : IntKind.u32.wrap ((total : Int) - 6) = ((total - 6 : Nat) : Int) := by rw [IntWalk.u32_in _ (by omega)]; omega
  have v3 : IntKind.u32.wrap ((s1 + s2 + s3 : Nat) : Int) = ((s1 + s2 + s3 : Nat) : Int) := IntWalk.u32_in _ (by omega)
  have v4 : IntKind.u32.wrap (((total - 6 : Nat) : Int) - ((s1 + s2 + s3 : Nat) : Int)) = ((s4 : Nat) : Int) := by rw [IntWalk.u32_in _ (by omega)]; omega
  (conv => whnf); repeat ((first | refine RngK.mk (by omega) (by omega) ?_ | refine NzK.mk (by omega) ?_ | refine NnK.mk (by omega) ?_ | refine BdK.mk (by omega) (by omega) (by omega) ?_ | refine InsK.lit (by omega) (by omega) ?_ | refine SpK.lit ?_ | refine GrdK.same ?_ | refine GrdK.tf ?_ | refine GrdK.ft ?_ | refine PickK.t ?_ | refine PickK.f ?_); (conv => whnf))
  rw [v1, v2, v3, v4]
  unfold fourR at hR
  rw [oneI_E, oneI_E, oneI_E, oneI_E] at hR
  obtain ⟨o1, ho1⟩ : ∃ o, off + 6 + s1 - 1 = o := ⟨_, rfl⟩
  obtain ⟨o2, ho2⟩ : ∃ o, off + 6 + s1 + s2 - 1 = o := ⟨_, rfl⟩
  obtain ⟨o3, ho3⟩ : ∃ o, off + 6 + s1 + s2 + s3 - 1 = o := ⟨_, rfl⟩
  obtain ⟨o4, ho4⟩ : ∃ o, off + 6 + s1 + s2 + s3 + s4 - 1 = o := ⟨_, rfl⟩
  obtain ⟨st1, hst1⟩ : ∃ o, off + 6 - 2 = o := ⟨_, rfl⟩
  obtain ⟨st2, hst2⟩ : ∃ o, off + 6 + s1 - 2 = o := ⟨_, rfl⟩
  obtain ⟨st3, hst3⟩ : ∃ o, off + 6 + s1 + s2 - 2 = o := ⟨_, rfl⟩
  obtain ⟨st4, hst4⟩ : ∃ o, off + 6 + s1 + s2 + s3 - 2 = o := ⟨_, rfl⟩
  rw [ho1, ho2, ho3, ho4, hst1, hst2, hst3, hst4] at hR
  obtain ⟨R1, hR1⟩ : ∃ R1, oneE bs o1 st1 b Tab q = R1 := ⟨_, rfl⟩
  obtain ⟨R2, hR2⟩ : ∃ R1, oneE bs o2 st2 b Tab q = R1 := ⟨_, rfl⟩
  obtain ⟨R3, hR3⟩ : ∃ R1, oneE bs o3 st3 b Tab q = R1 := ⟨_, rfl⟩
  obtain ⟨R4, hR4⟩ : ∃ R1, oneE bs o4 st4 b Tab (many - 3 * q) = R1 := ⟨_, rfl⟩
  rw [hR1, hR2, hR3, hR4] at hR
  (conv => whnf); repeat ((first | refine RngK.mk (by omega) (by omega) ?_ | refine NzK.mk (by omega) ?_ | refine NnK.mk (by omega) ?_ | refine BdK.mk (by omega) (by omega) (by omega) ?_ | refine InsK.lit (by omega) (by omega) ?_ | refine SpK.lit ?_ | refine GrdK.same ?_ | refine GrdK.tf ?_ | refine GrdK.ft ?_ | refine PickK.t ?_ | refine PickK.f ?_); (conv => whnf))
  have hlo1 : o1 < bs.length := by omega
  have hso1 : st1 ≤ o1 := by omega
  refine CallK.cast [.pointer (some ⟨r, 0, none⟩), .slice A bs.length c, vN o1, vN st1] (by simp only [List.cons.injEq, Value.int.injEq, true_and, and_true]; omega) ?_
  refine CallK.of [] (makeReverse_spec r A bs.length c o1 st1 bs e u hn hlo1 hso1) rfl (fun w hw => hp.br.pass hw) ?_
  rintro v _ ⟨rfl, ⟨g1, cs, T', x, h6, h1, rfl⟩ | ⟨g1, rfl⟩⟩
  · rw [oneE, hgd _ hlo1, if_pos g1] at hR1
    rw [← hR1, comb_1] at hR
    subst hR
    (conv => whnf); repeat ((first | refine RngK.mk (by omega) (by omega) ?_ | refine NzK.mk (by omega) ?_ | refine NnK.mk (by omega) ?_ | refine BdK.mk (by omega) (by omega) (by omega) ?_ | refine InsK.lit (by omega) (by omega) ?_ | refine SpK.lit ?_ | refine GrdK.same ?_ | refine GrdK.tf ?_ | refine GrdK.ft ?_ | refine PickK.t ?_ | refine PickK.f ?_); (conv => whnf))
    refine ⟨_, _, rfl, rfl, ?_⟩
    intro b0
    (conv => whnf); repeat ((first | refine RngK.mk (by omega) (by omega) ?_ | refine NzK.mk (by omega) ?_ | refine NnK.mk (by omega) ?_ | refine BdK.mk (by omega) (by omega) (by omega) ?_ | refine InsK.lit (by omega) (by omega) ?_ | refine SpK.lit ?_ | refine GrdK.same ?_ | refine GrdK.tf ?_ | refine GrdK.ft ?_ | refine PickK.t ?_ | refine PickK.f ?_); (conv => whnf))
    refine StK.blkN 0 rfl rfl h6 (List.all_eq_true.1 h1) (by decide) ?_
    (conv => whnf); repeat ((first | refine RngK.mk (by omega) (by omega) ?_ | refine NzK.mk (by omega) ?_ | refine NnK.mk (by omega) ?_ | refine BdK.mk (by omega) (by omega) (by omega) ?_ | refine InsK.lit (by omega) (by omega) ?_ | refine SpK.lit ?_ | refine GrdK.same ?_ | refine GrdK.tf ?_ | refine GrdK.ft ?_ | refine PickK.t ?_ | refine PickK.f ?_); (conv => whnf))
    refine ValK.neIface rfl ?_
    (conv => whnf); repeat ((first | refine RngK.mk (by omega) (by omega) ?_ | refine NzK.mk (by omega) ?_ | refine NnK.mk (by omega) ?_ | refine BdK.mk (by omega) (by omega) (by omega) ?_ | refine InsK.lit (by omega) (by omega) ?_ | refine SpK.lit ?_ | refine GrdK.same ?_ | refine GrdK.tf ?_ | refine GrdK.ft ?_ | refine PickK.t ?_ | refine PickK.f ?_); (conv => whnf))
    refine Wp.cond rfl (fun _ => ?_) (fun h => by cases h)
    (conv => whnf); repeat ((first | refine RngK.mk (by omega) (by omega) ?_ | refine NzK.mk (by omega) ?_ | refine NnK.mk (by omega) ?_ | refine BdK.mk (by omega) (by omega) (by omega) ?_ | refine InsK.lit (by omega) (by omega) ?_ | refine SpK.lit ?_ | refine GrdK.same ?_ | refine GrdK.tf ?_ | refine GrdK.ft ?_ | refine PickK.t ?_ | refine PickK.f ?_); (conv => whnf))
    exact ⟨[], HSub.nil _, T', x, rfl, rfl⟩
  rw [oneE, hgd _ hlo1, if_neg (Nat.pos_iff_ne_zero.1 g1)] at hR1
  have hI1 := RbI.start hlo1 hso1
  have hp1 : 8 * o1 + wd (bs[o1]'hlo1).toNat - 1 = 8 * o1 + (wd (bs[o1]'hlo1).toNat - 1) := Nat.add_sub_assoc (wd_pos g1) _
  rw [hp1] at hR1
  (conv => whnf); repeat ((first | refine RngK.mk (by omega) (by omega) ?_ | refine NzK.mk (by omega) ?_ | refine NnK.mk (by omega) ?_ | refine BdK.mk (by omega) (by omega) (by omega) ?_ | refine InsK.lit (by omega) (by omega) ?_ | refine SpK.lit ?_ | refine GrdK.same ?_ | refine GrdK.tf ?_ | refine GrdK.ft ?_ | refine PickK.t ?_ | refine PickK.f ?_); (conv => whnf))
  refine ⟨_, _, rfl, rfl, ?_⟩
  intro rb1
  (conv => whnf); repeat ((first | refine RngK.mk (by omega) (by omega) ?_ | refine NzK.mk (by omega) ?_ | refine NnK.mk (by omega) ?_ | refine BdK.mk (by omega) (by omega) (by omega) ?_ | refine InsK.lit (by omega) (by omega) ?_ | refine SpK.lit ?_ | refine GrdK.same ?_ | refine GrdK.tf ?_ | refine GrdK.ft ?_ | refine PickK.t ?_ | refine PickK.f ?_); (conv => whnf))
  refine StK.blkNE 0 (rbc r A bs.length c o1 st1 (bs[o1]'hlo1).toNat (wd (bs[o1]'hlo1).toNat - 1)) rfl rfl rfl rfl rfl rfl ?_
  (conv => whnf); repeat ((first | refine RngK.mk (by omega) (by omega) ?_ | refine NzK.mk (by omega) ?_ | refine NnK.mk (by omega) ?_ | refine BdK.mk (by omega) (by omega) (by omega) ?_ | refine InsK.lit (by omega) (by omega) ?_ | refine SpK.lit ?_ | refine GrdK.same ?_ | refine GrdK.tf ?_ | refine GrdK.ft ?_ | refine PickK.t ?_ | refine PickK.f ?_); (conv => whnf))
  refine ValK.neNil rfl ?_
  (conv => whnf); repeat ((first | refine RngK.mk (by omega) (by omega) ?_ | refine NzK.mk (by omega) ?_ | refine NnK.mk (by omega) ?_ | refine BdK.mk (by omega) (by omega) (by omega) ?_ | refine InsK.lit (by omega) (by omega) ?_ | refine SpK.lit ?_ | refine GrdK.same ?_ | refine GrdK.tf ?_ | refine GrdK.ft ?_ | refine PickK.t ?_ | refine PickK.f ?_); (conv => whnf))
  refine Wp.cond rfl (fun h => by cases h) (fun _ => ?_)
  (conv => whnf); repeat ((first | refine RngK.mk (by omega) (by omega) ?_ | refine NzK.mk (by omega) ?_ | refine NnK.mk (by omega) ?_ | refine BdK.mk (by omega) (by omega) (by omega) ?_ | refine InsK.lit (by omega) (by omega) ?_ | refine SpK.lit ?_ | refine GrdK.same ?_ | refine GrdK.tf ?_ | refine GrdK.ft ?_ | refine PickK.t ?_ | refine PickK.f ?_); (conv => whnf))
  obtain ⟨t1, ht1⟩ : ∃ t, (bs[o1]'hlo1).toNat = t := ⟨_, rfl⟩
  obtain ⟨d1, hd1⟩ : ∃ d, wd (bs[o1]'hlo1).toNat - 1 = d := ⟨_, rfl⟩
  rw [hd1, ht1] at hI1
  rw [hd1] at hR1
  rw [hd1, ht1]
  have hlo2 : o2 < bs.length := by omega
  have hso2 : st2 ≤ o2 := by omega
  refine CallK.cast [.pointer (some ⟨r, 0, none⟩), .slice A bs.length c, vN o2, vN st2] (by simp only [List.cons.injEq, Value.int.injEq, true_and, and_true]; omega) ?_
  refine CallK.of [] (makeReverse_spec r A bs.length c o2 st2 bs e u hn hlo2 hso2) rfl (fun w hw => hp.br.pass hw) ?_
  rintro v _ ⟨rfl, ⟨g2, cs, T', x, h6, h1, rfl⟩ | ⟨g2, rfl⟩⟩
  · rw [oneE, hgd _ hlo2, if_pos g2] at hR2
    rw [← hR2, comb_2] at hR
    subst hR
    (conv => whnf); repeat ((first | refine RngK.mk (by omega) (by omega) ?_ | refine NzK.mk (by omega) ?_ | refine NnK.mk (by omega) ?_ | refine BdK.mk (by omega) (by omega) (by omega) ?_ | refine InsK.lit (by omega) (by omega) ?_ | refine SpK.lit ?_ | refine GrdK.same ?_ | refine GrdK.tf ?_ | refine GrdK.ft ?_ | refine PickK.t ?_ | refine PickK.f ?_); (conv => whnf))
    refine ⟨_, _, rfl, rfl, ?_⟩
    intro b0
    (conv => whnf); repeat ((first | refine RngK.mk (by omega) (by omega) ?_ | refine NzK.mk (by omega) ?_ | refine NnK.mk (by omega) ?_ | refine BdK.mk (by omega) (by omega) (by omega) ?_ | refine InsK.lit (by omega) (by omega) ?_ | refine SpK.lit ?_ | refine GrdK.same ?_ | refine GrdK.tf ?_ | refine GrdK.ft ?_ | refine PickK.t ?_ | refine PickK.f ?_); (conv => whnf))
    refine StK.blkN 0 rfl rfl h6 (List.all_eq_true.1 h1) (by decide) ?_
    (conv => whnf); repeat ((first | refine RngK.mk (by omega) (by omega) ?_ | refine NzK.mk (by omega) ?_ | refine NnK.mk (by omega) ?_ | refine BdK.mk (by omega) (by omega) (by omega) ?_ | refine InsK.lit (by omega) (by omega) ?_ | refine SpK.lit ?_ | refine GrdK.same ?_ | refine GrdK.tf ?_ | refine GrdK.ft ?_ | refine PickK.t ?_ | refine PickK.f ?_); (conv => whnf))
    refine ValK.neIface rfl ?_
    (conv => whnf); repeat ((first | refine RngK.mk (by omega) (by omega) ?_ | refine NzK.mk (by omega) ?_ | refine NnK.mk (by omega) ?_ | refine BdK.mk (by omega) (by omega) (by omega) ?_ | refine InsK.lit (by omega) (by omega) ?_ | refine SpK.lit ?_ | refine GrdK.same ?_ | refine GrdK.tf ?_ | refine GrdK.ft ?_ | refine PickK.t ?_ | refine PickK.f ?_); (conv => whnf))
    refine Wp.cond rfl (fun _ => ?_) (fun h => by cases h)
    (conv => whnf); repeat ((first | refine RngK.mk (by omega) (by omega) ?_ | refine NzK.mk (by omega) ?_ | refine NnK.mk (by omega) ?_ | refine BdK.mk (by omega) (by omega) (by omega) ?_ | refine InsK.lit (by omega) (by omega) ?_ | refine SpK.lit ?_ | refine GrdK.same ?_ | refine GrdK.tf ?_ | refine GrdK.ft ?_ | refine PickK.t ?_ | refine PickK.f ?_); (conv => whnf))
    exact ⟨[], HSub.nil _, T', x, rfl, rfl⟩
  rw [oneE, hgd _ hlo2, if_neg (Nat.pos_iff_ne_zero.1 g2)] at hR2
  have hI2 := RbI.start hlo2 hso2
  have hp2 : 8 * o2 + wd (bs[o2]'hlo2).toNat - 1 = 8 * o2 + (wd (bs[o2]'hlo2).toNat - 1) := Nat.add_sub_assoc (wd_pos g2) _
  rw [hp2] at hR2
  (conv => whnf); repeat ((first | refine RngK.mk (by omega) (by omega) ?_ | refine NzK.mk (by omega) ?_ | refine NnK.mk (by omega) ?_ | refine BdK.mk (by omega) (by omega) (by omega) ?_ | refine InsK.lit (by omega) (by omega) ?_ | refine SpK.lit ?_ | refine GrdK.same ?_ | refine GrdK.tf ?_ | refine GrdK.ft ?_ | refine PickK.t ?_ | refine PickK.f ?_); (conv => whnf))
  refine ⟨_, _, rfl, rfl, ?_⟩
  intro rb2
  (conv => whnf); repeat ((first | refine RngK.mk (by omega) (by omega) ?_ | refine NzK.mk (by omega) ?_ | refine NnK.mk (by omega) ?_ | refine BdK.mk (by omega) (by omega) (by omega) ?_ | refine InsK.lit (by omega) (by omega) ?_ | refine SpK.lit ?_ | refine GrdK.same ?_ | refine GrdK.tf ?_ | refine GrdK.ft ?_ | refine PickK.t ?_ | refine PickK.f ?_); (conv => whnf))
  refine StK.blkNE 0 (rbc r A bs.length c o2 st2 (bs[o2]'hlo2).toNat (wd (bs[o2]'hlo2).toNat - 1)) rfl rfl rfl rfl rfl rfl ?_
  (conv => whnf); repeat ((first | refine RngK.mk (by omega) (by omega) ?_ | refine NzK.mk (by omega) ?_ | refine NnK.mk (by omega) ?_ | refine BdK.mk (by omega) (by omega) (by omega) ?_ | refine InsK.lit (by omega) (by omega) ?_ | refine SpK.lit ?_ | refine GrdK.same ?_ | refine GrdK.tf ?_ | refine GrdK.ft ?_ | refine PickK.t ?_ | refine PickK.f ?_); (conv => whnf))
  refine ValK.neNil rfl ?_
  (conv => whnf); repeat ((first | refine RngK.mk (by omega) (by omega) ?_ | refine NzK.mk (by omega) ?_ | refine NnK.mk (by omega) ?_ | refine BdK.mk (by omega) (by omega) (by omega) ?_ | refine InsK.lit (by omega) (by omega) ?_ | refine SpK.lit ?_ | refine GrdK.same ?_ | refine GrdK.tf ?_ | refine GrdK.ft ?_ | refine PickK.t ?_ | refine PickK.f ?_); (conv => whnf))
  refine Wp.cond rfl (fun h => by cases h) (fun _ => ?_)
  (conv => whnf); repeat ((first | refine RngK.mk (by omega) (by omega) ?_ | refine NzK.mk (by omega) ?_ | refine NnK.mk (by omega) ?_ | refine BdK.mk (by omega) (by omega) (by omega) ?_ | refine InsK.lit (by omega) (by omega) ?_ | refine SpK.lit ?_ | refine GrdK.same ?_ | refine GrdK.tf ?_ | refine GrdK.ft ?_ | refine PickK.t ?_ | refine PickK.f ?_); (conv => whnf))
  obtain ⟨t2, ht2⟩ : ∃ t, (bs[o2]'hlo2).toNat = t := ⟨_, rfl⟩
  obtain ⟨d2, hd2⟩ : ∃ d, wd (bs[o2]'hlo2).toNat - 1 = d := ⟨_, rfl⟩
  rw [hd2, ht2] at hI2
  rw [hd2] at hR2
  rw [hd2, ht2]
  have hlo3 : o3 < bs.length := by omega
  have hso3 : st3 ≤ o3 := by omega
  refine CallK.cast [.pointer (some ⟨r, 0, none⟩), .slice A bs.length c, vN o3, vN st3] (by simp only [List.cons.injEq, Value.int.injEq, true_and, and_true]; omega) ?_
  refine CallK.of [] (makeReverse_spec r A bs.length c o3 st3 bs e u hn hlo3 hso3) rfl (fun w hw => hp.br.pass hw) ?_
  rintro v _ ⟨rfl, ⟨g3, cs, T', x, h6, h1, rfl⟩ | ⟨g3, rfl⟩⟩
  · rw [oneE, hgd _ hlo3, if_pos g3] at hR3
    rw [← hR3, comb_3] at hR
    subst hR
    (conv => whnf); repeat ((first | refine RngK.mk (by omega) (by omega) ?_ | refine NzK.mk (by omega) ?_ | refine NnK.mk (by omega) ?_ | refine BdK.mk (by omega) (by omega) (by omega) ?_ | refine InsK.lit (by omega) (by omega) ?_ | refine SpK.lit ?_ | refine GrdK.same ?_ | refine GrdK.tf ?_ | refine GrdK.ft ?_ | refine PickK.t ?_ | refine PickK.f ?_); (conv => whnf))
    refine ⟨_, _, rfl, rfl, ?_⟩
    intro b0
    (conv => whnf); repeat ((first | refine RngK.mk (by omega) (by omega) ?_ | refine NzK.mk (by omega) ?_ | refine NnK.mk (by omega) ?_ | refine BdK.mk (by omega) (by omega) (by omega) ?_ | refine InsK.lit (by omega) (by omega) ?_ | refine SpK.lit ?_ | refine GrdK.same ?_ | refine GrdK.tf ?_ | refine GrdK.ft ?_ | refine PickK.t ?_ | refine PickK.f ?_); (conv => whnf))
    refine StK.blkN 0 rfl rfl h6 (List.all_eq_true.1 h1) (by decide) ?_
    (conv => whnf); repeat ((first | refine RngK.mk (by omega) (by omega) ?_ | refine NzK.mk (by omega) ?_ | refine NnK.mk (by omega) ?_ | refine BdK.mk (by omega) (by omega) (by omega) ?_ | refine InsK.lit (by omega) (by omega) ?_ | refine SpK.lit ?_ | refine GrdK.same ?_ | refine GrdK.tf ?_ | refine GrdK.ft ?_ | refine PickK.t ?_ | refine PickK.f ?_); (conv => whnf))
    refine ValK.neIface rfl ?_
    (conv => whnf); repeat ((first | refine RngK.mk (by omega) (by omega) ?_ | refine NzK.mk (by omega) ?_ | refine NnK.mk (by omega) ?_ | refine BdK.mk (by omega) (by omega) (by omega) ?_ | refine InsK.lit (by omega) (by omega) ?_ | refine SpK.lit ?_ | refine GrdK.same ?_ | refine GrdK.tf ?_ | refine GrdK.ft ?_ | refine PickK.t ?_ | refine PickK.f ?_); (conv => whnf))
    refine Wp.cond rfl (fun _ => ?_) (fun h => by cases h)
    (conv => whnf); repeat ((first | refine RngK.mk (by omega) (by omega) ?_ | refine NzK.mk (by omega) ?_ | refine NnK.mk (by omega) ?_ | refine BdK.mk (by omega) (by omega) (by omega) ?_ | refine InsK.lit (by omega) (by omega) ?_ | refine SpK.lit ?_ | refine GrdK.same ?_ | refine GrdK.tf ?_ | refine GrdK.ft ?_ | refine PickK.t ?_ | refine PickK.f ?_); (conv => whnf))
    exact ⟨[], HSub.nil _, T', x, rfl, rfl⟩
  rw [oneE, hgd _ hlo3, if_neg (Nat.pos_iff_ne_zero.1 g3)] at hR3
  have hI3 := RbI.start hlo3 hso3
  have hp3 : 8 * o3 + wd (bs[o3]'hlo3).toNat - 1 = 8 * o3 + (wd (bs[o3]'hlo3).toNat - 1) := Nat.add_sub_assoc (wd_pos g3) _
  rw [hp3] at hR3
  (conv => whnf); repeat ((first | refine RngK.mk (by omega) (by omega) ?_ | refine NzK.mk (by omega) ?_ | refine NnK.mk (by omega) ?_ | refine BdK.mk (by omega) (by omega) (by omega) ?_ | refine InsK.lit (by omega) (by omega) ?_ | refine SpK.lit ?_ | refine GrdK.same ?_ | refine GrdK.tf ?_ | refine GrdK.ft ?_ | refine PickK.t ?_ | refine PickK.f ?_); (conv => whnf))
  refine ⟨_, _, rfl, rfl, ?_⟩
  intro rb3
  (conv => whnf); repeat ((first | refine RngK.mk (by omega) (by omega) ?_ | refine NzK.mk (by omega) ?_ | refine NnK.mk (by omega) ?_ | refine BdK.mk (by omega) (by omega) (by omega) ?_ | refine InsK.lit (by omega) (by omega) ?_ | refine SpK.lit ?_ | refine GrdK.same ?_ | refine GrdK.tf ?_ | refine GrdK.ft ?_ | refine PickK.t ?_ | refine PickK.f ?_); (conv => whnf))
  refine StK.blkNE 0 (rbc r A bs.length c o3 st3 (bs[o3]'hlo3).toNat (wd (bs[o3]'hlo3).toNat - 1)) rfl rfl rfl rfl rfl rfl ?_
  (conv => whnf); repeat ((first | refine RngK.mk (by omega) (by omega) ?_ | refine NzK.mk (by omega) ?_ | refine NnK.mk (by omega) ?_ | refine BdK.mk (by omega) (by omega) (by omega) ?_ | refine InsK.lit (by omega) (by omega) ?_ | refine SpK.lit ?_ | refine GrdK.same ?_ | refine GrdK.tf ?_ | refine GrdK.ft ?_ | refine PickK.t ?_ | refine PickK.f ?_); (conv => whnf))
  refine ValK.neNil rfl ?_
  (conv => whnf); repeat ((first | refine RngK.mk (by omega) (by omega) ?_ | refine NzK.mk (by omega) ?_ | refine NnK.mk (by omega) ?_ | refine BdK.mk (by omega) (by omega) (by omega) ?_ | refine InsK.lit (by omega) (by omega) ?_ | refine SpK.lit ?_ | refine GrdK.same ?_ | refine GrdK.tf ?_ | refine GrdK.ft ?_ | refine PickK.t ?_ | refine PickK.f ?_); (conv => whnf))
  refine Wp.cond rfl (fun h => by cases h) (fun _ => ?_)
  (conv => whnf); repeat ((first | refine RngK.mk (by omega) (by omega) ?_ | refine NzK.mk (by omega) ?_ | refine NnK.mk (by omega) ?_ | refine BdK.mk (by omega) (by omega) (by omega) ?_ | refine InsK.lit (by omega) (by omega) ?_ | refine SpK.lit ?_ | refine GrdK.same ?_ | refine GrdK.tf ?_ | refine GrdK.ft ?_ | refine PickK.t ?_ | refine PickK.f ?_); (conv => whnf))
  obtain ⟨t3, ht3⟩ : ∃ t, (bs[o3]'hlo3).toNat = t := ⟨_, rfl⟩
  obtain ⟨d3, hd3⟩ : ∃ d, wd (bs[o3]'hlo3).toNat - 1 = d := ⟨_, rfl⟩
  rw [hd3, ht3] at hI3
  rw [hd3] at hR3
  rw [hd3, ht3]
  have hlo4 : o4 < bs.length := by omega
  have hso4 : st4 ≤ o4 := by omega
  refine CallK.cast [.pointer (some ⟨r, 0, none⟩), .slice A bs.length c, vN o4, vN st4] (by simp only [List.cons.injEq, Value.int.injEq, true_and, and_true]; omega) ?_
  refine CallK.of [] (makeReverse_spec r A bs.length c o4 st4 bs e u hn hlo4 hso4) rfl (fun w hw => hp.br.pass hw) ?_
  rintro v _ ⟨rfl, ⟨g4, cs, T', x, h6, h1, rfl⟩ | ⟨g4, rfl⟩⟩
  · rw [oneE, hgd _ hlo4, if_pos g4] at hR4
    rw [← hR4, comb_4] at hR
    subst hR
    (conv => whnf); repeat ((first | refine RngK.mk (by omega) (by omega) ?_ | refine NzK.mk (by omega) ?_ | refine NnK.mk (by omega) ?_ | refine BdK.mk (by omega) (by omega) (by omega) ?_ | refine InsK.lit (by omega) (by omega) ?_ | refine SpK.lit ?_ | refine GrdK.same ?_ | refine GrdK.tf ?_ | refine GrdK.ft ?_ | refine PickK.t ?_ | refine PickK.f ?_); (conv => whnf))
    refine ⟨_, _, rfl, rfl, ?_⟩
    intro b0
    (conv => whnf); repeat ((first | refine RngK.mk (by omega) (by omega) ?_ | refine NzK.mk (by omega) ?_ | refine NnK.mk (by omega) ?_ | refine BdK.mk (by omega) (by omega) (by omega) ?_ | refine InsK.lit (by omega) (by omega) ?_ | refine SpK.lit ?_ | refine GrdK.same ?_ | refine GrdK.tf ?_ | refine GrdK.ft ?_ | refine PickK.t ?_ | refine PickK.f ?_); (conv => whnf))
    refine StK.blkN 0 rfl rfl h6 (List.all_eq_true.1 h1) (by decide) ?_
    (conv => whnf); repeat ((first | refine RngK.mk (by omega) (by omega) ?_ | refine NzK.mk (by omega) ?_ | refine NnK.mk (by omega) ?_ | refine BdK.mk (by omega) (by omega) (by omega) ?_ | refine InsK.lit (by omega) (by omega) ?_ | refine SpK.lit ?_ | refine GrdK.same ?_ | refine GrdK.tf ?_ | refine GrdK.ft ?_ | refine PickK.t ?_ | refine PickK.f ?_); (conv => whnf))
    refine ValK.neIface rfl ?_
    (conv => whnf); repeat ((first | refine RngK.mk (by omega) (by omega) ?_ | refine NzK.mk (by omega) ?_ | refine NnK.mk (by omega) ?_ | refine BdK.mk (by omega) (by omega) (by omega) ?_ | refine InsK.lit (by omega) (by omega) ?_ | refine SpK.lit ?_ | refine GrdK.same ?_ | refine GrdK.tf ?_ | refine GrdK.ft ?_ | refine PickK.t ?_ | refine PickK.f ?_); (conv => whnf))
    refine Wp.cond rfl (fun _ => ?_) (fun h => by cases h)
    (conv => whnf); repeat ((first | refine RngK.mk (by omega) (by omega) ?_ | refine NzK.mk (by omega) ?_ | refine NnK.mk (by omega) ?_ | refine BdK.mk (by omega) (by omega) (by omega) ?_ | refine InsK.lit (by omega) (by omega) ?_ | refine SpK.lit ?_ | refine GrdK.same ?_ | refine GrdK.tf ?_ | refine GrdK.ft ?_ | refine PickK.t ?_ | refine PickK.f ?_); (conv => whnf))
    exact ⟨[], HSub.nil _, T', x, rfl, rfl⟩
  rw [oneE, hgd _ hlo4, if_neg (Nat.pos_iff_ne_zero.1 g4)] at hR4
  have hI4 := RbI.start hlo4 hso4
  have hp4 : 8 * o4 + wd (bs[o4]'hlo4).toNat - 1 = 8 * o4 + (wd (bs[o4]'hlo4).toNat - 1) := Nat.add_sub_assoc (wd_pos g4) _
  rw [hp4] at hR4
  (conv => whnf); repeat ((first | refine RngK.mk (by omega) (by omega) ?_ | refine NzK.mk (by omega) ?_ | refine NnK.mk (by omega) ?_ | refine BdK.mk (by omega) (by omega) (by omega) ?_ | refine InsK.lit (by omega) (by omega) ?_ | refine SpK.lit ?_ | refine GrdK.same ?_ | refine GrdK.tf ?_ | refine GrdK.ft ?_ | refine PickK.t ?_ | refine PickK.f ?_); (conv => whnf))
  refine ⟨_, _, rfl, rfl, ?_⟩
  intro rb4
  (conv => whnf); repeat ((first | refine RngK.mk (by omega) (by omega) ?_ | refine NzK.mk (by omega) ?_ | refine NnK.mk (by omega) ?_ | refine BdK.mk (by omega) (by omega) (by omega) ?_ | refine InsK.lit (by omega) (by omega) ?_ | refine SpK.lit ?_ | refine GrdK.same ?_ | refine GrdK.tf ?_ | refine GrdK.ft ?_ | refine PickK.t ?_ | refine PickK.f ?_); (conv => whnf))
  refine StK.blkNE 0 (rbc r A bs.length c o4 st4 (bs[o4]'hlo4).toNat (wd (bs[o4]'hlo4).toNat - 1)) rfl rfl rfl rfl rfl rfl ?_
  (conv => whnf); repeat ((first | refine RngK.mk (by omega) (by omega) ?_ | refine NzK.mk (by omega) ?_ | refine NnK.mk (by omega) ?_ | refine BdK.mk (by omega) (by omega) (by omega) ?_ | refine InsK.lit (by omega) (by omega) ?_ | refine SpK.lit ?_ | refine GrdK.same ?_ | refine GrdK.tf ?_ | refine GrdK.ft ?_ | refine PickK.t ?_ | refine PickK.f ?_); (conv => whnf))
  refine ValK.neNil rfl ?_
  (conv => whnf); repeat ((first | refine RngK.mk (by omega) (by omega) ?_ | refine NzK.mk (by omega) ?_ | refine NnK.mk (by omega) ?_ | refine BdK.mk (by omega) (by omega) (by omega) ?_ | refine InsK.lit (by omega) (by omega) ?_ | refine SpK.lit ?_ | refine GrdK.same ?_ | refine GrdK.tf ?_ | refine GrdK.ft ?_ | refine PickK.t ?_ | refine PickK.f ?_); (conv => whnf))
  refine Wp.cond rfl (fun h => by cases h) (fun _ => ?_)
  (conv => whnf); repeat ((first | refine RngK.mk (by omega) (by omega) ?_ | refine NzK.mk (by omega) ?_ | refine NnK.mk (by omega) ?_ | refine BdK.mk (by omega) (by omega) (by omega) ?_ | refine InsK.lit (by omega) (by omega) ?_ | refine SpK.lit ?_ | refine GrdK.same ?_ | refine GrdK.tf ?_ | refine GrdK.ft ?_ | refine PickK.t ?_ | refine PickK.f ?_); (conv => whnf))
  obtain ⟨t4, ht4⟩ : ∃ t, (bs[o4]'hlo4).toNat = t := ⟨_, rfl⟩
  obtain ⟨d4, hd4⟩ : ∃ d, wd (bs[o4]'hlo4).toNat - 1 = d := ⟨_, rfl⟩
  rw [hd4, ht4] at hI4
  rw [hd4] at hR4
  rw [hd4, ht4]
  obtain ⟨q4, hq4⟩ : ∃ q4, many - 3 * q = q4 := ⟨_, rfl⟩
  rw [hq4] at hR4
  have hq40 : q4 ≤ q := by omega
  have hqm : 3 * q + q4 = many := by omega
  have eqq : (many : Int) - (q : Int) * 3 = ((q4 : Nat) : Int) := by omega
  have w3 : IntKind.u32.wrap (b : Int) = (b : Int) := IntWalk.u32_in _ (by omega)
  have w4 : ishl .u32 1 (b : Int) = ((2 ^ b : Nat) : Int) := by
    have := ishl_u (k := .u32) rfl 1 (n := b) (by show _ ≤ 32; omega)
    rw [Nat.one_mul, Nat.mod_eq_of_lt (by show _ < 2 ^ 32; omega)] at this
    exact this
  have w5 : IntKind.u32.wrap (((2 ^ b : Nat) : Int) - 1) = ((2 ^ b - 1 : Nat) : Int) := by
    rw [IntWalk.u32_in _ (by omega)]; omega
  refine EffK.nil 5 1 ?_
  refine EffK.appendZ 0 many rfl rfl rfl rfl rfl rfl rfl rfl (by simp [maxLen]; omega) (by show (_ + _) * 1 ≤ _; omega) fun A5 c5 => ?_
  (conv => whnf); repeat ((first | refine RngK.mk (by omega) (by omega) ?_ | refine NzK.mk (by omega) ?_ | refine NnK.mk (by omega) ?_ | refine BdK.mk (by omega) (by omega) (by omega) ?_ | refine InsK.lit (by omega) (by omega) ?_ | refine SpK.lit ?_ | refine GrdK.same ?_ | refine GrdK.tf ?_ | refine GrdK.ft ?_ | refine PickK.t ?_ | refine PickK.f ?_); (conv => whnf))
  refine LdK.rd (v := .slice T m mc) hp.fl 0 rfl rfl rfl rfl ?_
  (conv => whnf); repeat ((first | refine RngK.mk (by omega) (by omega) ?_ | refine NzK.mk (by omega) ?_ | refine NnK.mk (by omega) ?_ | refine BdK.mk (by omega) (by omega) (by omega) ?_ | refine InsK.lit (by omega) (by omega) ?_ | refine SpK.lit ?_ | refine GrdK.same ?_ | refine GrdK.tf ?_ | refine GrdK.ft ?_ | refine PickK.t ?_ | refine PickK.f ?_); (conv => whnf))
  refine ⟨_, _, rfl, rfl, ?_⟩
  intro k3
  (conv => whnf); repeat ((first | refine RngK.mk (by omega) (by omega) ?_ | refine NzK.mk (by omega) ?_ | refine NnK.mk (by omega) ?_ | refine BdK.mk (by omega) (by omega) (by omega) ?_ | refine InsK.lit (by omega) (by omega) ?_ | refine SpK.lit ?_ | refine GrdK.same ?_ | refine GrdK.tf ?_ | refine GrdK.ft ?_ | refine PickK.t ?_ | refine PickK.f ?_); (conv => whnf))
  refine StK.blkE 0 [.slice T m mc] rfl rfl rfl rfl (Nat.le_of_ble_eq_true rfl) rfl ?_
  (conv => whnf); repeat ((first | refine RngK.mk (by omega) (by omega) ?_ | refine NzK.mk (by omega) ?_ | refine NnK.mk (by omega) ?_ | refine BdK.mk (by omega) (by omega) (by omega) ?_ | refine InsK.lit (by omega) (by omega) ?_ | refine SpK.lit ?_ | refine GrdK.same ?_ | refine GrdK.tf ?_ | refine GrdK.ft ?_ | refine PickK.t ?_ | refine PickK.f ?_); (conv => whnf))
  refine LdK.rd (v := vN b) hp.fl 1 rfl rfl rfl rfl ?_
  (conv => whnf); repeat ((first | refine RngK.mk (by omega) (by omega) ?_ | refine NzK.mk (by omega) ?_ | refine NnK.mk (by omega) ?_ | refine BdK.mk (by omega) (by omega) (by omega) ?_ | refine InsK.lit (by omega) (by omega) ?_ | refine SpK.lit ?_ | refine GrdK.same ?_ | refine GrdK.tf ?_ | refine GrdK.ft ?_ | refine PickK.t ?_ | refine PickK.f ?_); (conv => whnf))
  refine ⟨_, _, rfl, rfl, ?_⟩
  intro k1
  (conv => whnf); repeat ((first | refine RngK.mk (by omega) (by omega) ?_ | refine NzK.mk (by omega) ?_ | refine NnK.mk (by omega) ?_ | refine BdK.mk (by omega) (by omega) (by omega) ?_ | refine InsK.lit (by omega) (by omega) ?_ | refine SpK.lit ?_ | refine GrdK.same ?_ | refine GrdK.tf ?_ | refine GrdK.ft ?_ | refine PickK.t ?_ | refine PickK.f ?_); (conv => whnf))
  rw [w3]
  refine StK.blkE 0 [.int .u32 (b : Int)] rfl rfl rfl rfl (Nat.le_of_ble_eq_true rfl) rfl ?_
  (conv => whnf); repeat ((first | refine RngK.mk (by omega) (by omega) ?_ | refine NzK.mk (by omega) ?_ | refine NnK.mk (by omega) ?_ | refine BdK.mk (by omega) (by omega) (by omega) ?_ | refine InsK.lit (by omega) (by omega) ?_ | refine SpK.lit ?_ | refine GrdK.same ?_ | refine GrdK.tf ?_ | refine GrdK.ft ?_ | refine PickK.t ?_ | refine PickK.f ?_); (conv => whnf))
  refine LdK.blk 0 rfl rfl rfl rfl ?_
  (conv => whnf); repeat ((first | refine RngK.mk (by omega) (by omega) ?_ | refine NzK.mk (by omega) ?_ | refine NnK.mk (by omega) ?_ | refine BdK.mk (by omega) (by omega) (by omega) ?_ | refine InsK.lit (by omega) (by omega) ?_ | refine SpK.lit ?_ | refine GrdK.same ?_ | refine GrdK.tf ?_ | refine GrdK.ft ?_ | refine PickK.t ?_ | refine PickK.f ?_); (conv => whnf))
  refine ⟨_, _, rfl, rfl, ?_⟩
  intro k2
  (conv => whnf); repeat ((first | refine RngK.mk (by omega) (by omega) ?_ | refine NzK.mk (by omega) ?_ | refine NnK.mk (by omega) ?_ | refine BdK.mk (by omega) (by omega) (by omega) ?_ | refine InsK.lit (by omega) (by omega) ?_ | refine SpK.lit ?_ | refine GrdK.same ?_ | refine GrdK.tf ?_ | refine GrdK.ft ?_ | refine PickK.t ?_ | refine PickK.f ?_); (conv => whnf))
  rw [w4, w5]
  refine StK.blkE 0 [.int .u32 ((2 ^ b - 1 : Nat) : Int)] rfl rfl rfl rfl (Nat.le_of_ble_eq_true rfl) rfl ?_
  (conv => whnf); repeat ((first | refine RngK.mk (by omega) (by omega) ?_ | refine NzK.mk (by omega) ?_ | refine NnK.mk (by omega) ?_ | refine BdK.mk (by omega) (by omega) (by omega) ?_ | refine InsK.lit (by omega) (by omega) ?_ | refine SpK.lit ?_ | refine GrdK.same ?_ | refine GrdK.tf ?_ | refine GrdK.ft ?_ | refine PickK.t ?_ | refine PickK.f ?_); (conv => whnf))
  have hout : [] ++ List.replicate many (Value.int .u8 0) = (lay q q4 [] [] [] []).map vU8 := by
    rw [lay_0, hqm, List.map_replicate]
    rfl
  rw [hout, show 0 + many = many from Nat.zero_add many]
  clear eq4 u1 u2 u3 u4 u5 u6 u7 v1 v2 v3 v4 hout
  refine Wp.loop (fun s : FS => [(5, .slice A5 many c5), (14, vN q), (28, .pointer (some ⟨rb1, 0, none⟩)), (30, .pointer (some ⟨rb2, 0, none⟩)), (31, .pointer (some ⟨rb3, 0, none⟩)), (32, .pointer (some ⟨rb4, 0, none⟩)), (37, vN q4), (38, .pointer (some ⟨k3, 0, none⟩)), (39, .pointer (some ⟨k1, 0, none⟩)), (40, .pointer (some ⟨k2, 0, none⟩)), (33, vN s.i), (34, vN (q + s.i)), (35, vN (q + q + s.i)), (36, vN (q + q + q + s.l4.length)), (41, vN s.i)])
    (fun s => [.own A5 many c5 5 1 ((lay q q4 s.l1 s.l2 s.l3 s.l4).map vU8), .blk rb1 125 (rbc r A bs.length c s.o1 st1 s.b1 s.c1), .blk rb2 125 (rbc r A bs.length c s.o2 st2 s.b2 s.c2), .blk rb3 125 (rbc r A bs.length c s.o3 st3 s.b3 s.c3), .blk rb4 125 (rbc r A bs.length c s.o4 st4 s.b4 s.c4), .blk k1 94 [.int .u32 (b : Int)], .blk k2 94 [.int .u32 ((2 ^ b - 1 : Nat) : Int)], .blk k3 58 [.slice T m mc]])
    (FI bs b Tab q q4 st1 st2 st3 st4 R1 R2 R3 R4) (fun s => q - s.i) ⟨0, [], [], [], [], o1, t1, d1, o2, t2, d2, o3, t3, d3, o4, t4, d4⟩
    ⟨rfl, rfl, rfl, rfl, rfl, rfl, ?_, rfl, rfl, rfl, rfl, ?_, ?_, ?_, rfl, trivial⟩ (HSub.of [3, 6, 5, 4, 3, 1, 0, 0] rfl) ⟨Nat.zero_le _, rfl, rfl, rfl, (Nat.zero_min _).symm, hI1, hI2, hI3, hI4, hR1, hR2, hR3, hR4⟩ fun ⟨i, l1, l2, l3, l4, o1, b1, c1, o2, b2, c2, o3, b3, c3, o4, b4, c4⟩ ⟨hi, n1, n2, n3, n4, I1, I2, I3, I4, r1, r2, r3, r4⟩ => ?_
  · show some (vI _) = some (vI _)
    rw [eqq]
  · show some (vI _) = some (vI ((q + 0 : Nat) : Int))
    congr 2; omega
  · show some (vI _) = some (vI ((q + q + 0 : Nat) : Int))
    congr 2; omega
  · show some (vI _) = some (vI ((q + q + q + 0 : Nat) : Int))
    congr 2; omega
  dsimp only at hi n1 n2 n3 n4 I1 I2 I3 I4 r1 r2 r3 r4 ⊢
  (conv => whnf); repeat ((first | refine RngK.mk (by omega) (by omega) ?_ | refine NzK.mk (by omega) ?_ | refine NnK.mk (by omega) ?_ | refine BdK.mk (by omega) (by omega) (by omega) ?_ | refine InsK.lit (by omega) (by omega) ?_ | refine SpK.lit ?_ | refine GrdK.same ?_ | refine GrdK.tf ?_ | refine GrdK.ft ?_ | refine PickK.t ?_ | refine PickK.f ?_); (conv => whnf))
  refine Wp.own 0 rfl fun hA => ?_
  refine Wp.cond rfl (fun h => ?_) (fun h => ?_)
  rotate_left
  · have h := dF h
    have hiq : i = q := by omega
    subst hiq
    rw [Nat.sub_self, litI] at r1 r2 r3
    rw [show q4 - i = 0 by omega, litI] at r4
    have hcomb : R = some (l1 ++ (l2 ++ (l3 ++ l4))) := by rw [← hR, ← r1, ← r2, ← r3, ← r4]; rfl
    have hlen : (l1 ++ (l2 ++ (l3 ++ l4))).length = many := by simp only [List.length_append]; omega
    rw [lay_full n1 n2 n3 (by omega), hcomb]
    (conv => whnf); repeat ((first | refine RngK.mk (by omega) (by omega) ?_ | refine NzK.mk (by omega) ?_ | refine NnK.mk (by omega) ?_ | refine BdK.mk (by omega) (by omega) (by omega) ?_ | refine InsK.lit (by omega) (by omega) ?_ | refine SpK.lit ?_ | refine GrdK.same ?_ | refine GrdK.tf ?_ | refine GrdK.ft ?_ | refine PickK.t ?_ | refine PickK.f ?_); (conv => whnf))
    refine ⟨_, HSub.of [0] rfl, A5, c5, ?_, ?_⟩
    · rw [hlen]
    · rw [hlen]
  have h := dT h
  have hiq : i < q := by omega
  obtain ⟨dq, hdq⟩ : ∃ d, q - i = d + 1 := ⟨q - i - 1, by omega⟩
  rw [hdq, litI] at r1 r2 r3
  (conv => whnf); repeat ((first | refine RngK.mk (by omega) (by omega) ?_ | refine NzK.mk (by omega) ?_ | refine NnK.mk (by omega) ?_ | refine BdK.mk (by omega) (by omega) (by omega) ?_ | refine InsK.lit (by omega) (by omega) ?_ | refine SpK.lit ?_ | refine GrdK.same ?_ | refine GrdK.tf ?_ | refine GrdK.ft ?_ | refine PickK.t ?_ | refine PickK.f ?_); (conv => whnf))
  refine CallK.of [1] (fetchHuff_spec rb1 r A bs.length c bs e u o1 st1 b1 c1 T m mc b ts Tab k1 k2 k3 hn I1 hT htm hts) rfl (fun w hw => ⟨hp.br.pass hw, Rd.ofBlk (o := 0) (m := 1) (sz := 1) hw 4 rfl (Nat.le_refl _), Rd.ofBlk (o := 0) (m := 1) (sz := 1) hw 5 rfl (Nat.le_refl _), Rd.ofBlk (o := 0) (m := 1) (sz := 1) hw 6 rfl (Nat.le_refl _), hp.tb.pass hw⟩) ?_
  rintro v _ ⟨p1, bu1, cu1, J1, e1, rfl, ⟨f1, g1, rfl⟩ | ⟨f1, T', x, rfl⟩⟩
  rotate_left
  · rw [if_pos (by omega)] at r1
    rw [← r1, comb_1] at hR
    subst hR
    (conv => whnf); repeat ((first | refine RngK.mk (by omega) (by omega) ?_ | refine NzK.mk (by omega) ?_ | refine NnK.mk (by omega) ?_ | refine BdK.mk (by omega) (by omega) (by omega) ?_ | refine InsK.lit (by omega) (by omega) ?_ | refine SpK.lit ?_ | refine GrdK.same ?_ | refine GrdK.tf ?_ | refine GrdK.ft ?_ | refine PickK.t ?_ | refine PickK.f ?_); (conv => whnf))
    refine ValK.neIface rfl ?_
    (conv => whnf); repeat ((first | refine RngK.mk (by omega) (by omega) ?_ | refine NzK.mk (by omega) ?_ | refine NnK.mk (by omega) ?_ | refine BdK.mk (by omega) (by omega) (by omega) ?_ | refine InsK.lit (by omega) (by omega) ?_ | refine SpK.lit ?_ | refine GrdK.same ?_ | refine GrdK.tf ?_ | refine GrdK.ft ?_ | refine PickK.t ?_ | refine PickK.f ?_); (conv => whnf))
    refine Wp.cond rfl (fun _ => ?_) (fun h => by cases h)
    (conv => whnf); repeat ((first | refine RngK.mk (by omega) (by omega) ?_ | refine NzK.mk (by omega) ?_ | refine NnK.mk (by omega) ?_ | refine BdK.mk (by omega) (by omega) (by omega) ?_ | refine InsK.lit (by omega) (by omega) ?_ | refine SpK.lit ?_ | refine GrdK.same ?_ | refine GrdK.tf ?_ | refine GrdK.ft ?_ | refine PickK.t ?_ | refine PickK.f ?_); (conv => whnf))
    exact ⟨[], HSub.nil _, T', x, rfl, rfl⟩
  rw [if_neg (by omega)] at r1
  have hen1 := hT.ent (bitsN_lt (num bs) (8 * o1 + c1 - b) b)
  obtain ⟨x1, hx1⟩ : ∃ x, ent Tab (bitsN (num bs) (8 * o1 + c1 - b) b) = x := ⟨_, rfl⟩
  rw [hx1] at hen1 r1
  rw [hx1]
  obtain ⟨y1, z1, zz1⟩ := hen1
  obtain ⟨px1, hpx1⟩ : ∃ px, pk x1 = px := ⟨_, rfl⟩
  rw [hpx1]
  have sh1 := pk_shr hpx1 (by omega)
  have an1 := pk_and hpx1 y1 (by omega)
  have jl1 := J1.lt
  (conv => whnf); repeat ((first | refine RngK.mk (by omega) (by omega) ?_ | refine NzK.mk (by omega) ?_ | refine NnK.mk (by omega) ?_ | refine BdK.mk (by omega) (by omega) (by omega) ?_ | refine InsK.lit (by omega) (by omega) ?_ | refine SpK.lit ?_ | refine GrdK.same ?_ | refine GrdK.tf ?_ | refine GrdK.ft ?_ | refine PickK.t ?_ | refine PickK.f ?_); (conv => whnf))
  refine ValK.neNil rfl ?_
  (conv => whnf); repeat ((first | refine RngK.mk (by omega) (by omega) ?_ | refine NzK.mk (by omega) ?_ | refine NnK.mk (by omega) ?_ | refine BdK.mk (by omega) (by omega) (by omega) ?_ | refine InsK.lit (by omega) (by omega) ?_ | refine SpK.lit ?_ | refine GrdK.same ?_ | refine GrdK.tf ?_ | refine GrdK.ft ?_ | refine PickK.t ?_ | refine PickK.f ?_); (conv => whnf))
  refine Wp.cond rfl (fun h => by cases h) (fun _ => ?_)
  (conv => whnf); repeat ((first | refine RngK.mk (by omega) (by omega) ?_ | refine NzK.mk (by omega) ?_ | refine NnK.mk (by omega) ?_ | refine BdK.mk (by omega) (by omega) (by omega) ?_ | refine InsK.lit (by omega) (by omega) ?_ | refine SpK.lit ?_ | refine GrdK.same ?_ | refine GrdK.tf ?_ | refine GrdK.ft ?_ | refine PickK.t ?_ | refine PickK.f ?_); (conv => whnf))
  refine CallK.of [2] (fetchHuff_spec rb2 r A bs.length c bs e u o2 st2 b2 c2 T m mc b ts Tab k1 k2 k3 hn I2 hT htm hts) rfl (fun w hw => ⟨hp.br.pass hw, Rd.ofBlk (o := 0) (m := 1) (sz := 1) hw 4 rfl (Nat.le_refl _), Rd.ofBlk (o := 0) (m := 1) (sz := 1) hw 5 rfl (Nat.le_refl _), Rd.ofBlk (o := 0) (m := 1) (sz := 1) hw 6 rfl (Nat.le_refl _), hp.tb.pass hw⟩) ?_
  rintro v _ ⟨p2, bu2, cu2, J2, e2, rfl, ⟨f2, g2, rfl⟩ | ⟨f2, T', x, rfl⟩⟩
  rotate_left
  · rw [if_pos (by omega)] at r2
    rw [← r2, comb_2] at hR
    subst hR
    (conv => whnf); repeat ((first | refine RngK.mk (by omega) (by omega) ?_ | refine NzK.mk (by omega) ?_ | refine NnK.mk (by omega) ?_ | refine BdK.mk (by omega) (by omega) (by omega) ?_ | refine InsK.lit (by omega) (by omega) ?_ | refine SpK.lit ?_ | refine GrdK.same ?_ | refine GrdK.tf ?_ | refine GrdK.ft ?_ | refine PickK.t ?_ | refine PickK.f ?_); (conv => whnf))
    refine ValK.neIface rfl ?_
    (conv => whnf); repeat ((first | refine RngK.mk (by omega) (by omega) ?_ | refine NzK.mk (by omega) ?_ | refine NnK.mk (by omega) ?_ | refine BdK.mk (by omega) (by omega) (by omega) ?_ | refine InsK.lit (by omega) (by omega) ?_ | refine SpK.lit ?_ | refine GrdK.same ?_ | refine GrdK.tf ?_ | refine GrdK.ft ?_ | refine PickK.t ?_ | refine PickK.f ?_); (conv => whnf))
    refine Wp.cond rfl (fun _ => ?_) (fun h => by cases h)
    (conv => whnf); repeat ((first | refine RngK.mk (by omega) (by omega) ?_ | refine NzK.mk (by omega) ?_ | refine NnK.mk (by omega) ?_ | refine BdK.mk (by omega) (by omega) (by omega) ?_ | refine InsK.lit (by omega) (by omega) ?_ | refine SpK.lit ?_ | refine GrdK.same ?_ | refine GrdK.tf ?_ | refine GrdK.ft ?_ | refine PickK.t ?_ | refine PickK.f ?_); (conv => whnf))
    exact ⟨[], HSub.nil _, T', x, rfl, rfl⟩
  rw [if_neg (by omega)] at r2
  have hen2 := hT.ent (bitsN_lt (num bs) (8 * o2 + c2 - b) b)
  obtain ⟨x2, hx2⟩ : ∃ x, ent Tab (bitsN (num bs) (8 * o2 + c2 - b) b) = x := ⟨_, rfl⟩
  rw [hx2] at hen2 r2
  rw [hx2]
  obtain ⟨y2, z2, zz2⟩ := hen2
  obtain ⟨px2, hpx2⟩ : ∃ px, pk x2 = px := ⟨_, rfl⟩
  rw [hpx2]
  have sh2 := pk_shr hpx2 (by omega)
  have an2 := pk_and hpx2 y2 (by omega)
  have jl2 := J2.lt
  (conv => whnf); repeat ((first | refine RngK.mk (by omega) (by omega) ?_ | refine NzK.mk (by omega) ?_ | refine NnK.mk (by omega) ?_ | refine BdK.mk (by omega) (by omega) (by omega) ?_ | refine InsK.lit (by omega) (by omega) ?_ | refine SpK.lit ?_ | refine GrdK.same ?_ | refine GrdK.tf ?_ | refine GrdK.ft ?_ | refine PickK.t ?_ | refine PickK.f ?_); (conv => whnf))
  refine ValK.neNil rfl ?_
  (conv => whnf); repeat ((first | refine RngK.mk (by omega) (by omega) ?_ | refine NzK.mk (by omega) ?_ | refine NnK.mk (by omega) ?_ | refine BdK.mk (by omega) (by omega) (by omega) ?_ | refine InsK.lit (by omega) (by omega) ?_ | refine SpK.lit ?_ | refine GrdK.same ?_ | refine GrdK.tf ?_ | refine GrdK.ft ?_ | refine PickK.t ?_ | refine PickK.f ?_); (conv => whnf))
  refine Wp.cond rfl (fun h => by cases h) (fun _ => ?_)
  (conv => whnf); repeat ((first | refine RngK.mk (by omega) (by omega) ?_ | refine NzK.mk (by omega) ?_ | refine NnK.mk (by omega) ?_ | refine BdK.mk (by omega) (by omega) (by omega) ?_ | refine InsK.lit (by omega) (by omega) ?_ | refine SpK.lit ?_ | refine GrdK.same ?_ | refine GrdK.tf ?_ | refine GrdK.ft ?_ | refine PickK.t ?_ | refine PickK.f ?_); (conv => whnf))
  refine CallK.of [3] (fetchHuff_spec rb3 r A bs.length c bs e u o3 st3 b3 c3 T m mc b ts Tab k1 k2 k3 hn I3 hT htm hts) rfl (fun w hw => ⟨hp.br.pass hw, Rd.ofBlk (o := 0) (m := 1) (sz := 1) hw 4 rfl (Nat.le_refl _), Rd.ofBlk (o := 0) (m := 1) (sz := 1) hw 5 rfl (Nat.le_refl _), Rd.ofBlk (o := 0) (m := 1) (sz := 1) hw 6 rfl (Nat.le_refl _), hp.tb.pass hw⟩) ?_
  rintro v _ ⟨p3, bu3, cu3, J3, e3, rfl, ⟨f3, g3, rfl⟩ | ⟨f3, T', x, rfl⟩⟩
  rotate_left
  · rw [if_pos (by omega)] at r3
    rw [← r3, comb_3] at hR
    subst hR
    (conv => whnf); repeat ((first | refine RngK.mk (by omega) (by omega) ?_ | refine NzK.mk (by omega) ?_ | refine NnK.mk (by omega) ?_ | refine BdK.mk (by omega) (by omega) (by omega) ?_ | refine InsK.lit (by omega) (by omega) ?_ | refine SpK.lit ?_ | refine GrdK.same ?_ | refine GrdK.tf ?_ | refine GrdK.ft ?_ | refine PickK.t ?_ | refine PickK.f ?_); (conv => whnf))
    refine ValK.neIface rfl ?_
    (conv => whnf); repeat ((first | refine RngK.mk (by omega) (by omega) ?_ | refine NzK.mk (by omega) ?_ | refine NnK.mk (by omega) ?_ | refine BdK.mk (by omega) (by omega) (by omega) ?_ | refine InsK.lit (by omega) (by omega) ?_ | refine SpK.lit ?_ | refine GrdK.same ?_ | refine GrdK.tf ?_ | refine GrdK.ft ?_ | refine PickK.t ?_ | refine PickK.f ?_); (conv => whnf))
    refine Wp.cond rfl (fun _ => ?_) (fun h => by cases h)
    (conv => whnf); repeat ((first | refine RngK.mk (by omega) (by omega) ?_ | refine NzK.mk (by omega) ?_ | refine NnK.mk (by omega) ?_ | refine BdK.mk (by omega) (by omega) (by omega) ?_ | refine InsK.lit (by omega) (by omega) ?_ | refine SpK.lit ?_ | refine GrdK.same ?_ | refine GrdK.tf ?_ | refine GrdK.ft ?_ | refine PickK.t ?_ | refine PickK.f ?_); (conv => whnf))
    exact ⟨[], HSub.nil _, T', x, rfl, rfl⟩
  rw [if_neg (by omega)] at r3
  have hen3 := hT.ent (bitsN_lt (num bs) (8 * o3 + c3 - b) b)
  obtain ⟨x3, hx3⟩ : ∃ x, ent Tab (bitsN (num bs) (8 * o3 + c3 - b) b) = x := ⟨_, rfl⟩
  rw [hx3] at hen3 r3
  rw [hx3]
  obtain ⟨y3, z3, zz3⟩ := hen3
  obtain ⟨px3, hpx3⟩ : ∃ px, pk x3 = px := ⟨_, rfl⟩
  rw [hpx3]
  have sh3 := pk_shr hpx3 (by omega)
  have an3 := pk_and hpx3 y3 (by omega)
  have jl3 := J3.lt
  (conv => whnf); repeat ((first | refine RngK.mk (by omega) (by omega) ?_ | refine NzK.mk (by omega) ?_ | refine NnK.mk (by omega) ?_ | refine BdK.mk (by omega) (by omega) (by omega) ?_ | refine InsK.lit (by omega) (by omega) ?_ | refine SpK.lit ?_ | refine GrdK.same ?_ | refine GrdK.tf ?_ | refine GrdK.ft ?_ | refine PickK.t ?_ | refine PickK.f ?_); (conv => whnf))
  refine ValK.neNil rfl ?_
  (conv => whnf); repeat ((first | refine RngK.mk (by omega) (by omega) ?_ | refine NzK.mk (by omega) ?_ | refine NnK.mk (by omega) ?_ | refine BdK.mk (by omega) (by omega) (by omega) ?_ | refine InsK.lit (by omega) (by omega) ?_ | refine SpK.lit ?_ | refine GrdK.same ?_ | refine GrdK.tf ?_ | refine GrdK.ft ?_ | refine PickK.t ?_ | refine PickK.f ?_); (conv => whnf))
  refine Wp.cond rfl (fun h => by cases h) (fun _ => ?_)
  (conv => whnf); repeat ((first | refine RngK.mk (by omega) (by omega) ?_ | refine NzK.mk (by omega) ?_ | refine NnK.mk (by omega) ?_ | refine BdK.mk (by omega) (by omega) (by omega) ?_ | refine InsK.lit (by omega) (by omega) ?_ | refine SpK.lit ?_ | refine GrdK.same ?_ | refine GrdK.tf ?_ | refine GrdK.ft ?_ | refine PickK.t ?_ | refine PickK.f ?_); (conv => whnf))
  refine Wp.cut (fun t : List UInt8 × Nat × Nat × Nat => [(5, .slice A5 many c5), (14, vN q), (28, .pointer (some ⟨rb1, 0, none⟩)), (30, .pointer (some ⟨rb2, 0, none⟩)), (31, .pointer (some ⟨rb3, 0, none⟩)), (32, .pointer (some ⟨rb4, 0, none⟩)), (37, vN q4), (38, .pointer (some ⟨k3, 0, none⟩)), (39, .pointer (some ⟨k1, 0, none⟩)), (40, .pointer (some ⟨k2, 0, none⟩)), (33, vN i), (34, vN (q + i)), (35, vN (q + q + i)), (36, vN (q + q + q + t.1.length)), (41, vN i), (44, vU16 px1), (46, vU16 px2), (47, vU16 px3)])
    (fun t => [.own A5 many c5 5 1 ((lay q q4 l1 l2 l3 t.1).map vU8), .blk rb1 125 (rbc r A bs.length c p1 st1 bu1 cu1), .blk rb2 125 (rbc r A bs.length c p2 st2 bu2 cu2), .blk rb3 125 (rbc r A bs.length c p3 st3 bu3 cu3), .blk rb4 125 (rbc r A bs.length c t.2.1 st4 t.2.2.1 t.2.2.2), .blk k1 94 [.int .u32 (b : Int)], .blk k2 94 [.int .u32 ((2 ^ b - 1 : Nat) : Int)], .blk k3 58 [.slice T m mc]])
    (fun t => t.1.length = min (i + 1) q4 ∧ RbI (num bs) bs.length st4 t.2.1 t.2.2.1 t.2.2.2 ∧ litI (num bs) st4 b Tab (q4 - (i + 1)) (8 * t.2.1 + t.2.2.2) t.1 = R4) ?_ fun ⟨l4, o4, b4, c4⟩ ⟨n4, I4, r4⟩ => ?_
  · refine Wp.cond rfl (fun h4 => ?_) (fun h4 => ?_)
    · have h4 := dT h4
      have hi4 : i < q4 := by omega
      obtain ⟨d4, hd4⟩ : ∃ d, q4 - i = d + 1 := ⟨q4 - i - 1, by omega⟩
      rw [hd4, litI] at r4
      (conv => whnf); repeat ((first | refine RngK.mk (by omega) (by omega) ?_ | refine NzK.mk (by omega) ?_ | refine NnK.mk (by omega) ?_ | refine BdK.mk (by omega) (by omega) (by omega) ?_ | refine InsK.lit (by omega) (by omega) ?_ | refine SpK.lit ?_ | refine GrdK.same ?_ | refine GrdK.tf ?_ | refine GrdK.ft ?_ | refine PickK.t ?_ | refine PickK.f ?_); (conv => whnf))
      refine CallK.of [4] (fetchHuff_spec rb4 r A bs.length c bs e u o4 st4 b4 c4 T m mc b ts Tab k1 k2 k3 hn I4 hT htm hts) rfl (fun w hw => ⟨hp.br.pass hw, Rd.ofBlk (o := 0) (m := 1) (sz := 1) hw 4 rfl (Nat.le_refl _), Rd.ofBlk (o := 0) (m := 1) (sz := 1) hw 5 rfl (Nat.le_refl _), Rd.ofBlk (o := 0) (m := 1) (sz := 1) hw 6 rfl (Nat.le_refl _), hp.tb.pass hw⟩) ?_
      rintro v _ ⟨p4, bu4, cu4, J4, e4, rfl, ⟨f4, g4, rfl⟩ | ⟨f4, T', x, rfl⟩⟩
      rotate_left
      · rw [if_pos (by omega)] at r4
        rw [← r4, comb_4] at hR
        subst hR
        (conv => whnf); repeat ((first | refine RngK.mk (by omega) (by omega) ?_ | refine NzK.mk (by omega) ?_ | refine NnK.mk (by omega) ?_ | refine BdK.mk (by omega) (by omega) (by omega) ?_ | refine InsK.lit (by omega) (by omega) ?_ | refine SpK.lit ?_ | refine GrdK.same ?_ | refine GrdK.tf ?_ | refine GrdK.ft ?_ | refine PickK.t ?_ | refine PickK.f ?_); (conv => whnf))
        refine ValK.neIface rfl ?_
        (conv => whnf); repeat ((first | refine RngK.mk (by omega) (by omega) ?_ | refine NzK.mk (by omega) ?_ | refine NnK.mk (by omega) ?_ | refine BdK.mk (by omega) (by omega) (by omega) ?_ | refine InsK.lit (by omega) (by omega) ?_ | refine SpK.lit ?_ | refine GrdK.same ?_ | refine GrdK.tf ?_ | refine GrdK.ft ?_ | refine PickK.t ?_ | refine PickK.f ?_); (conv => whnf))
        refine Wp.cond rfl (fun _ => ?_) (fun h => by cases h)
        (conv => whnf); repeat ((first | refine RngK.mk (by omega) (by omega) ?_ | refine NzK.mk (by omega) ?_ | refine NnK.mk (by omega) ?_ | refine BdK.mk (by omega) (by omega) (by omega) ?_ | refine InsK.lit (by omega) (by omega) ?_ | refine SpK.lit ?_ | refine GrdK.same ?_ | refine GrdK.tf ?_ | refine GrdK.ft ?_ | refine PickK.t ?_ | refine PickK.f ?_); (conv => whnf))
        exact ⟨[], HSub.nil _, T', x, rfl, rfl⟩
      rw [if_neg (by omega)] at r4
      have hen4 := hT.ent (bitsN_lt (num bs) (8 * o4 + c4 - b) b)
      obtain ⟨x4, hx4⟩ : ∃ x, ent Tab (bitsN (num bs) (8 * o4 + c4 - b) b) = x := ⟨_, rfl⟩
      rw [hx4] at hen4 r4
      rw [hx4]
      obtain ⟨y4, z4, zz4⟩ := hen4
      obtain ⟨px4, hpx4⟩ : ∃ px, pk x4 = px := ⟨_, rfl⟩
      rw [hpx4]
      have sh4 := pk_shr hpx4 (by omega)
      have an4 := pk_and hpx4 y4 (by omega)
      have jl4 := J4.lt
      (conv => whnf); repeat ((first | refine RngK.mk (by omega) (by omega) ?_ | refine NzK.mk (by omega) ?_ | refine NnK.mk (by omega) ?_ | refine BdK.mk (by omega) (by omega) (by omega) ?_ | refine InsK.lit (by omega) (by omega) ?_ | refine SpK.lit ?_ | refine GrdK.same ?_ | refine GrdK.tf ?_ | refine GrdK.ft ?_ | refine PickK.t ?_ | refine PickK.f ?_); (conv => whnf))
      refine ValK.neNil rfl ?_
      (conv => whnf); repeat ((first | refine RngK.mk (by omega) (by omega) ?_ | refine NzK.mk (by omega) ?_ | refine NnK.mk (by omega) ?_ | refine BdK.mk (by omega) (by omega) (by omega) ?_ | refine InsK.lit (by omega) (by omega) ?_ | refine SpK.lit ?_ | refine GrdK.same ?_ | refine GrdK.tf ?_ | refine GrdK.ft ?_ | refine PickK.t ?_ | refine PickK.f ?_); (conv => whnf))
      refine Wp.cond rfl (fun h => by cases h) (fun _ => ?_)
      (conv => whnf); repeat ((first | refine RngK.mk (by omega) (by omega) ?_ | refine NzK.mk (by omega) ?_ | refine NnK.mk (by omega) ?_ | refine BdK.mk (by omega) (by omega) (by omega) ?_ | refine InsK.lit (by omega) (by omega) ?_ | refine SpK.lit ?_ | refine GrdK.same ?_ | refine GrdK.tf ?_ | refine GrdK.ft ?_ | refine PickK.t ?_ | refine PickK.f ?_); (conv => whnf))
      rw [sh4, u8_in y4]
      have hlay := lay_4 (q := q) (q4 := q4) (l1 := l1) (l2 := l2) (l3 := l3) (l4 := l4) (j := q + q + q + l4.length) (UInt8.ofNat x4.1) (by omega) (by omega) (by omega) (by omega) rfl
      have hset := set_u8 hlay y4
      have hll := lay_len (q := q) (q4 := q4) (l1 := l1) (l2 := l2) (l3 := l3) (l4 := l4) (by omega) (by omega) (by omega) (by omega)
      refine InsK.own hA (by omega) (by omega) ?_
      (conv => whnf); repeat ((first | refine RngK.mk (by omega) (by omega) ?_ | refine NzK.mk (by omega) ?_ | refine NnK.mk (by omega) ?_ | refine BdK.mk (by omega) (by omega) (by omega) ?_ | refine InsK.lit (by omega) (by omega) ?_ | refine SpK.lit ?_ | refine GrdK.same ?_ | refine GrdK.tf ?_ | refine GrdK.ft ?_ | refine PickK.t ?_ | refine PickK.f ?_); (conv => whnf))
      refine StK.own 4 (q + q + q + l4.length) rfl (hA.ad (by omega)) rfl rfl rfl rfl (by rw [List.length_map, hll]; omega) ?_
      (conv => whnf); repeat ((first | refine RngK.mk (by omega) (by omega) ?_ | refine NzK.mk (by omega) ?_ | refine NnK.mk (by omega) ?_ | refine BdK.mk (by omega) (by omega) (by omega) ?_ | refine InsK.lit (by omega) (by omega) ?_ | refine SpK.lit ?_ | refine GrdK.same ?_ | refine GrdK.tf ?_ | refine GrdK.ft ?_ | refine PickK.t ?_ | refine PickK.f ?_); (conv => whnf))
      rw [hset]
      refine LdK.blk 0 rfl rfl rfl rfl ?_
      (conv => whnf); repeat ((first | refine RngK.mk (by omega) (by omega) ?_ | refine NzK.mk (by omega) ?_ | refine NnK.mk (by omega) ?_ | refine BdK.mk (by omega) (by omega) (by omega) ?_ | refine InsK.lit (by omega) (by omega) ?_ | refine SpK.lit ?_ | refine GrdK.same ?_ | refine GrdK.tf ?_ | refine GrdK.ft ?_ | refine PickK.t ?_ | refine PickK.f ?_); (conv => whnf))
      rw [an4]
      refine StK.blkE 0 (rbc r A bs.length c p4 st4 bu4 (cu4 - x4.2)) rfl rfl rfl rfl (Nat.le_of_ble_eq_true rfl) ?_ ?_
      · show [_, _, _, _, _, Value.int .u32 _] = [_, _, _, _, _, Value.int .u32 _]
        rw [u32_less (by omega) (by omega)]
      (conv => whnf); repeat ((first | refine RngK.mk (by omega) (by omega) ?_ | refine NzK.mk (by omega) ?_ | refine NnK.mk (by omega) ?_ | refine BdK.mk (by omega) (by omega) (by omega) ?_ | refine InsK.lit (by omega) (by omega) ?_ | refine SpK.lit ?_ | refine GrdK.same ?_ | refine GrdK.tf ?_ | refine GrdK.ft ?_ | refine PickK.t ?_ | refine PickK.f ?_); (conv => whnf))
      refine ⟨(l4 ++ [UInt8.ofNat x4.1], p4, bu4, cu4 - x4.2), ⟨rfl, rfl, rfl, rfl, rfl, rfl, rfl, rfl, rfl, rfl, rfl, rfl, rfl, ?_, rfl, rfl, rfl, rfl, trivial⟩, HSub.of [4, 3, 2, 1, 0, 0, 0, 0] rfl, ?_, J4.less (by omega), ?_⟩
      · show some (vI _) = some (vI ((q + q + q + (l4 ++ [UInt8.ofNat x4.1]).length : Nat) : Int))
        rw [List.length_append, List.length_singleton]
        congr 2
      · show (l4 ++ [UInt8.ofNat x4.1]).length = _
        rw [List.length_append, List.length_singleton]
        omega
      · show litI (num bs) st4 b Tab (q4 - (i + 1)) (8 * p4 + (cu4 - x4.2)) (l4 ++ [UInt8.ofNat x4.1]) = R4
        rw [show q4 - (i + 1) = d4 by omega, show 8 * p4 + (cu4 - x4.2) = 8 * o4 + c4 - x4.2 by omega]
        exact r4
    · have h4 := dF h4
      (conv => whnf); repeat ((first | refine RngK.mk (by omega) (by omega) ?_ | refine NzK.mk (by omega) ?_ | refine NnK.mk (by omega) ?_ | refine BdK.mk (by omega) (by omega) (by omega) ?_ | refine InsK.lit (by omega) (by omega) ?_ | refine SpK.lit ?_ | refine GrdK.same ?_ | refine GrdK.tf ?_ | refine GrdK.ft ?_ | refine PickK.t ?_ | refine PickK.f ?_); (conv => whnf))
      refine ⟨(l4, o4, b4, c4), ⟨rfl, rfl, rfl, rfl, rfl, rfl, rfl, rfl, rfl, rfl, rfl, rfl, rfl, rfl, rfl, rfl, rfl, rfl, trivial⟩, HSub.of [3, 2, 1, 0, 0, 0, 0, 0] rfl, ?_, I4, ?_⟩
      · show l4.length = _
        omega
      · show litI (num bs) st4 b Tab (q4 - (i + 1)) (8 * o4 + c4) l4 = R4
        rw [show q4 - (i + 1) = q4 - i by omega]
        exact r4
  dsimp only at n4 I4 r4 ⊢
  have hl1 := lay_1 (q := q) (q4 := q4) (l1 := l1) (l2 := l2) (l3 := l3) (l4 := l4) (j := i) (UInt8.ofNat x1.1) (by omega) n1.symm
  have hl2 := lay_2 (q := q) (q4 := q4) (l1 := l1 ++ [UInt8.ofNat x1.1]) (l2 := l2) (l3 := l3) (l4 := l4) (j := q + i) (UInt8.ofNat x2.1) (by rw [List.length_append, List.length_singleton]; omega) (by omega) (by omega)
  have hl3 := lay_3 (q := q) (q4 := q4) (l1 := l1 ++ [UInt8.ofNat x1.1]) (l2 := l2 ++ [UInt8.ofNat x2.1]) (l3 := l3) (l4 := l4) (j := q + q + i) (UInt8.ofNat x3.1) (by rw [List.length_append, List.length_singleton]; omega) (by rw [List.length_append, List.length_singleton]; omega) (by omega) (by omega)
  have hs1 := set_u8 hl1 y1
  have hs2 := set_u8 hl2 y2
  have hs3 := set_u8 hl3 y3
  have hll1 := lay_len (q := q) (q4 := q4) (l1 := l1) (l2 := l2) (l3 := l3) (l4 := l4) (by omega) (by omega) (by omega) (by omega)
  have hll2 := lay_len (q := q) (q4 := q4) (l1 := l1 ++ [UInt8.ofNat x1.1]) (l2 := l2) (l3 := l3) (l4 := l4) (by rw [List.length_append, List.length_singleton]; omega) (by omega) (by omega) (by omega)
  have hll3 := lay_len (q := q) (q4 := q4) (l1 := l1 ++ [UInt8.ofNat x1.1]) (l2 := l2 ++ [UInt8.ofNat x2.1]) (l3 := l3) (l4 := l4) (by rw [List.length_append, List.length_singleton]; omega) (by rw [List.length_append, List.length_singleton]; omega) (by omega) (by omega)
  clear hl1 hl2 hl3
  (conv => whnf); repeat ((first | refine RngK.mk (by omega) (by omega) ?_ | refine NzK.mk (by omega) ?_ | refine NnK.mk (by omega) ?_ | refine BdK.mk (by omega) (by omega) (by omega) ?_ | refine InsK.lit (by omega) (by omega) ?_ | refine SpK.lit ?_ | refine GrdK.same ?_ | refine GrdK.tf ?_ | refine GrdK.ft ?_ | refine PickK.t ?_ | refine PickK.f ?_); (conv => whnf))
  rw [sh1, u8_in y1]
  refine InsK.own hA (by omega) (by omega) ?_
  (conv => whnf); repeat ((first | refine RngK.mk (by omega) (by omega) ?_ | refine NzK.mk (by omega) ?_ | refine NnK.mk (by omega) ?_ | refine BdK.mk (by omega) (by omega) (by omega) ?_ | refine InsK.lit (by omega) (by omega) ?_ | refine SpK.lit ?_ | refine GrdK.same ?_ | refine GrdK.tf ?_ | refine GrdK.ft ?_ | refine PickK.t ?_ | refine PickK.f ?_); (conv => whnf))
  refine StK.own 0 i rfl (hA.ad (by omega)) rfl rfl rfl rfl (by rw [List.length_map, hll1]; omega) ?_
  (conv => whnf); repeat ((first | refine RngK.mk (by omega) (by omega) ?_ | refine NzK.mk (by omega) ?_ | refine NnK.mk (by omega) ?_ | refine BdK.mk (by omega) (by omega) (by omega) ?_ | refine InsK.lit (by omega) (by omega) ?_ | refine SpK.lit ?_ | refine GrdK.same ?_ | refine GrdK.tf ?_ | refine GrdK.ft ?_ | refine PickK.t ?_ | refine PickK.f ?_); (conv => whnf))
  rw [hs1]
  refine LdK.blk 1 rfl rfl rfl rfl ?_
  (conv => whnf); repeat ((first | refine RngK.mk (by omega) (by omega) ?_ | refine NzK.mk (by omega) ?_ | refine NnK.mk (by omega) ?_ | refine BdK.mk (by omega) (by omega) (by omega) ?_ | refine InsK.lit (by omega) (by omega) ?_ | refine SpK.lit ?_ | refine GrdK.same ?_ | refine GrdK.tf ?_ | refine GrdK.ft ?_ | refine PickK.t ?_ | refine PickK.f ?_); (conv => whnf))
  rw [an1]
  refine StK.blkE 1 (rbc r A bs.length c p1 st1 bu1 (cu1 - x1.2)) rfl rfl rfl rfl (Nat.le_of_ble_eq_true rfl) ?_ ?_
  · show [_, _, _, _, _, Value.int .u32 _] = [_, _, _, _, _, Value.int .u32 _]
    rw [u32_less (by omega) (by omega)]
  (conv => whnf); repeat ((first | refine RngK.mk (by omega) (by omega) ?_ | refine NzK.mk (by omega) ?_ | refine NnK.mk (by omega) ?_ | refine BdK.mk (by omega) (by omega) (by omega) ?_ | refine InsK.lit (by omega) (by omega) ?_ | refine SpK.lit ?_ | refine GrdK.same ?_ | refine GrdK.tf ?_ | refine GrdK.ft ?_ | refine PickK.t ?_ | refine PickK.f ?_); (conv => whnf))
  rw [sh2, u8_in y2]
  refine InsK.own hA (by omega) (by omega) ?_
  (conv => whnf); repeat ((first | refine RngK.mk (by omega) (by omega) ?_ | refine NzK.mk (by omega) ?_ | refine NnK.mk (by omega) ?_ | refine BdK.mk (by omega) (by omega) (by omega) ?_ | refine InsK.lit (by omega) (by omega) ?_ | refine SpK.lit ?_ | refine GrdK.same ?_ | refine GrdK.tf ?_ | refine GrdK.ft ?_ | refine PickK.t ?_ | refine PickK.f ?_); (conv => whnf))
  refine StK.own 0 (q + i) rfl (hA.ad (by omega)) rfl rfl rfl rfl (by rw [List.length_map, hll2]; omega) ?_
  (conv => whnf); repeat ((first | refine RngK.mk (by omega) (by omega) ?_ | refine NzK.mk (by omega) ?_ | refine NnK.mk (by omega) ?_ | refine BdK.mk (by omega) (by omega) (by omega) ?_ | refine InsK.lit (by omega) (by omega) ?_ | refine SpK.lit ?_ | refine GrdK.same ?_ | refine GrdK.tf ?_ | refine GrdK.ft ?_ | refine PickK.t ?_ | refine PickK.f ?_); (conv => whnf))
  rw [hs2]
  refine LdK.blk 2 rfl rfl rfl rfl ?_
  (conv => whnf); repeat ((first | refine RngK.mk (by omega) (by omega) ?_ | refine NzK.mk (by omega) ?_ | refine NnK.mk (by omega) ?_ | refine BdK.mk (by omega) (by omega) (by omega) ?_ | refine InsK.lit (by omega) (by omega) ?_ | refine SpK.lit ?_ | refine GrdK.same ?_ | refine GrdK.tf ?_ | refine GrdK.ft ?_ | refine PickK.t ?_ | refine PickK.f ?_); (conv => whnf))
  rw [an2]
  refine StK.blkE 2 (rbc r A bs.length c p2 st2 bu2 (cu2 - x2.2)) rfl rfl rfl rfl (Nat.le_of_ble_eq_true rfl) ?_ ?_
  · show [_, _, _, _, _, Value.int .u32 _] = [_, _, _, _, _, Value.int .u32 _]
    rw [u32_less (by omega) (by omega)]
  (conv => whnf); repeat ((first | refine RngK.mk (by omega) (by omega) ?_ | refine NzK.mk (by omega) ?_ | refine NnK.mk (by omega) ?_ | refine BdK.mk (by omega) (by omega) (by omega) ?_ | refine InsK.lit (by omega) (by omega) ?_ | refine SpK.lit ?_ | refine GrdK.same ?_ | refine GrdK.tf ?_ | refine GrdK.ft ?_ | refine PickK.t ?_ | refine PickK.f ?_); (conv => whnf))
  rw [sh3, u8_in y3]
  refine InsK.own hA (by omega) (by omega) ?_
  (conv => whnf); repeat ((first | refine RngK.mk (by omega) (by omega) ?_ | refine NzK.mk (by omega) ?_ | refine NnK.mk (by omega) ?_ | refine BdK.mk (by omega) (by omega) (by omega) ?_ | refine InsK.lit (by omega) (by omega) ?_ | refine SpK.lit ?_ | refine GrdK.same ?_ | refine GrdK.tf ?_ | refine GrdK.ft ?_ | refine PickK.t ?_ | refine PickK.f ?_); (conv => whnf))
  refine StK.own 0 (q + q + i) rfl (hA.ad (by omega)) rfl rfl rfl rfl (by rw [List.length_map, hll3]; omega) ?_
  (conv => whnf); repeat ((first | refine RngK.mk (by omega) (by omega) ?_ | refine NzK.mk (by omega) ?_ | refine NnK.mk (by omega) ?_ | refine BdK.mk (by omega) (by omega) (by omega) ?_ | refine InsK.lit (by omega) (by omega) ?_ | refine SpK.lit ?_ | refine GrdK.same ?_ | refine GrdK.tf ?_ | refine GrdK.ft ?_ | refine PickK.t ?_ | refine PickK.f ?_); (conv => whnf))
  rw [hs3]
  refine LdK.blk 3 rfl rfl rfl rfl ?_
  (conv => whnf); repeat ((first | refine RngK.mk (by omega) (by omega) ?_ | refine NzK.mk (by omega) ?_ | refine NnK.mk (by omega) ?_ | refine BdK.mk (by omega) (by omega) (by omega) ?_ | refine InsK.lit (by omega) (by omega) ?_ | refine SpK.lit ?_ | refine GrdK.same ?_ | refine GrdK.tf ?_ | refine GrdK.ft ?_ | refine PickK.t ?_ | refine PickK.f ?_); (conv => whnf))
  rw [an3]
  refine StK.blkE 3 (rbc r A bs.length c p3 st3 bu3 (cu3 - x3.2)) rfl rfl rfl rfl (Nat.le_of_ble_eq_true rfl) ?_ ?_
  · show [_, _, _, _, _, Value.int .u32 _] = [_, _, _, _, _, Value.int .u32 _]
    rw [u32_less (by omega) (by omega)]
  (conv => whnf); repeat ((first | refine RngK.mk (by omega) (by omega) ?_ | refine NzK.mk (by omega) ?_ | refine NnK.mk (by omega) ?_ | refine BdK.mk (by omega) (by omega) (by omega) ?_ | refine InsK.lit (by omega) (by omega) ?_ | refine SpK.lit ?_ | refine GrdK.same ?_ | refine GrdK.tf ?_ | refine GrdK.ft ?_ | refine PickK.t ?_ | refine PickK.f ?_); (conv => whnf))
  refine ⟨⟨i + 1, l1 ++ [UInt8.ofNat x1.1], l2 ++ [UInt8.ofNat x2.1], l3 ++ [UInt8.ofNat x3.1], l4, p1, bu1, cu1 - x1.2, p2, bu2, cu2 - x2.2, p3, bu3, cu3 - x3.2, o4, b4, c4⟩,
    ⟨rfl, rfl, rfl, rfl, rfl, rfl, rfl, rfl, rfl, rfl, rfl, rfl, rfl, rfl, rfl, trivial⟩, HSub.refl _, ⟨hiq, ?_, ?_, ?_, n4, J1.less (by omega), J2.less (by omega), J3.less (by omega), I4, ?_, ?_, ?_, r4⟩, by show q - (i + 1) < q - i; omega⟩
  · show (l1 ++ [UInt8.ofNat x1.1]).length = i + 1
    rw [List.length_append, List.length_singleton, n1]
  · show (l2 ++ [UInt8.ofNat x2.1]).length = i + 1
    rw [List.length_append, List.length_singleton, n2]
  · show (l3 ++ [UInt8.ofNat x3.1]).length = i + 1
    rw [List.length_append, List.length_singleton, n3]
  · show litI (num bs) st1 b Tab (q - (i + 1)) (8 * p1 + (cu1 - x1.2)) _ = R1
    rw [show q - (i + 1) = dq by omega, show 8 * p1 + (cu1 - x1.2) = 8 * o1 + c1 - x1.2 by omega]
    exact r1
  · show litI (num bs) st2 b Tab (q - (i + 1)) (8 * p2 + (cu2 - x2.2)) _ = R2
    rw [show q - (i + 1) = dq by omega, show 8 * p2 + (cu2 - x2.2) = 8 * o2 + c2 - x2.2 by omega]
    exact r2
  · show litI (num bs) st3 b Tab (q - (i + 1)) (8 * p3 + (cu3 - x3.2)) _ = R3
    rw [show q - (i + 1) = dq by omega, show 8 * p3 + (cu3 - x3.2) = 8 * o3 + c3 - x3.2 by omega]
    exact r3
end Go.Proofs.YtgdhdkjbilifiaaDoor
