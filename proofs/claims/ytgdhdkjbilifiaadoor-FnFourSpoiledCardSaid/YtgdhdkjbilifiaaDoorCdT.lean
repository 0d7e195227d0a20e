/- Streams of codes that are written. The reference's written streams; the law FnStreamRead: it returns true. Whether a table has literals; the law FnStreamRead: it returns true. -/
import Derived.Test.YtgdhdkjbilifiaaDoorCdP
import Derived.Test.YtgdhdkjbilifiaaDoorRvA
namespace Go.Proofs.YtgdhdkjbilifiaaDoor
open Go Go.Sx
set_option maxRecDepth 100000
theorem hiN_app (a : Nat) (xs ys : List Int) : hiN a (xs ++ ys) = hiN (hiN a xs) ys := by
  induction xs generalizing a with
  | nil => rfl
  | cons x r ih => exact ih _
/-- a code as bits, the highest one first -/
def cbits (code : Nat) : Nat → List Int
  | 0 => []
  | n + 1 => ((code / 2 ^ n % 2 : Nat) : Int) :: cbits code n
theorem cbits_len (code : Nat) : ∀ n, (cbits code n).length = n
  | 0 => rfl
  | n + 1 => by rw [cbits, List.length_cons, cbits_len code n]
theorem cbits_01 (code : Nat) : ∀ n, ∀ z ∈ cbits code n, z = 0 ∨ z = 1
  | 0, z, h => by cases h
  | n + 1, z, h => by
    rw [cbits, List.mem_cons] at h
    rcases h with rfl | h
    · omega
    · exact cbits_01 code n z h
theorem hiN_cbits (code : Nat) : ∀ n, hiN 0 (cbits code n) = code % 2 ^ n
  | 0 => by simp [cbits, hiN, Nat.mod_one]
  | n + 1 => by
    rw [cbits, hiN, hiN_add, cbits_len, hiN_cbits code n, Nat.pow_succ, Nat.mod_mul]
    have : (((code / 2 ^ n % 2 : Nat) : Int)).toNat = code / 2 ^ n % 2 := by omega
    rw [this, Nat.mul_zero, Nat.zero_add, Nat.mul_comm (2 ^ n)]
    omega
/-- the code of a value, and its length -/
def cof (b : Nat) : List Cd → Nat → Nat → Nat × Nat
  | [], _, _ => (0, 0)
  | c :: r, i, x => if c.1 = x then (i / 2 ^ (b - c.2), c.2) else cof b r (i + 1) x
theorem cof_le {b : Nat} : ∀ {T : List Cd} {i x : Nat}, (∀ c ∈ T, c.2 ≤ b) → (cof b T i x).2 ≤ b
  | [], i, x, _ => Nat.zero_le _
  | c :: r, i, x, h => by
    rw [cof]
    split
    · exact h c (by simp)
    · exact cof_le fun c hc => h c (by simp [hc])
theorem cof_in {b : Nat} : ∀ {T : List Cd} {i x : Nat}, (T.any fun c => c.1 == x) = true → ∃ k, ∃ hk : k < T.length, T[k].1 = x ∧ cof b T i x = ((i + k) / 2 ^ (b - T[k].2), T[k].2)
  | [], i, x, h => by simp at h
  | c :: r, i, x, h => by
    rw [cof]
    by_cases g : c.1 = x
    · rw [if_pos g]
      exact ⟨0, by simp, g, rfl⟩
    · rw [if_neg g]
      simp only [List.any_cons, Bool.or_eq_true, beq_iff_eq] at h
      obtain ⟨k, hk, h1, h2⟩ := cof_in (b := b) (i := i + 1) (h.resolve_left g)
      refine ⟨k + 1, by simp; omega, h1, ?_⟩
      rw [h2]
      show ((i + 1 + k) / _, _) = ((i + (k + 1)) / _, _)
      rw [show i + 1 + k = i + (k + 1) by omega]
      rfl
def cbt (b : Nat) (T : List Cd) (x : Nat) : List Int := cbits (cof b T 0 x).1 (cof b T 0 x).2
/-- the bits of literals -/
def wrB (b : Nat) (T : List Cd) (l : List UInt8) : List Int := l.flatMap fun x => cbt b T x.toNat
theorem wrB_01 (b : Nat) (T : List Cd) (l : List UInt8) : ∀ z ∈ wrB b T l, z = 0 ∨ z = 1 := by
  intro z hz
  obtain ⟨x, _, h⟩ := List.mem_flatMap.1 hz
  exact cbits_01 _ _ z h
theorem wrB_len {b : Nat} {T : List Cd} (h : ∀ c ∈ T, c.2 ≤ b) : ∀ l : List UInt8, (wrB b T l).length ≤ l.length * b
  | [] => by simp [wrB]
  | x :: l => by
    have ih := wrB_len h l
    have h1 := cof_le (i := 0) (x := x.toNat) h
    have e : wrB b T (x :: l) = cbt b T x.toNat ++ wrB b T l := rfl
    rw [e, List.length_append, cbt, cbits_len, List.length_cons, Nat.succ_mul]
    omega
def hasA (T : List Cd) (l : List UInt8) : Bool := l.all fun x => T.any fun c => c.1 == x.toNat
/-- written literals are read -/
theorem litI_wr {b : Nat} {T : List Cd} (hT : Tb b T) {N off : Nat} (ho : 2 ≤ off) : ∀ (l acc : List UInt8), hasA T l = true → bitsN N (8 * off) (wrB b T l).length = hiN 0 (wrB b T l) →
    litI N (off - 2) b T l.length (8 * off + (wrB b T l).length) acc = some (acc ++ l)
  | [], acc, _, _ => by simp [litI]
  | x :: l, acc, h, hb => by
    have hb1 := hT.b1
    simp only [hasA, List.all_cons, Bool.and_eq_true] at h
    obtain ⟨k, hk, h1, h2⟩ := cof_in (b := b) (i := 0) h.1
    rw [Nat.zero_add] at h2
    have e : wrB b T (x :: l) = cbt b T x.toNat ++ wrB b T l := rfl
    obtain ⟨hm1, hm2, hm3⟩ := hT.mem _ (List.getElem_mem hk)
    have hlen : (cbt b T x.toNat).length = T[k].2 := by rw [cbt, cbits_len, h2]
    have hkb : k < 2 ^ b := by rw [← hT.len]; exact hk
    have hcode : hiN 0 (cbt b T x.toNat) = k / 2 ^ (b - T[k].2) := by
      rw [cbt, hiN_cbits, h2]
      apply Nat.mod_eq_of_lt
      rw [Nat.div_lt_iff_lt_mul (Nat.two_pow_pos _), ← Nat.pow_add]
      rw [show T[k].2 + (b - T[k].2) = b by omega]
      exact hkb
    have hr01 := wrB_01 b T l
    have hrl := hiN_lt hr01
    obtain ⟨r, hr⟩ : ∃ r, wrB b T l = r := ⟨_, rfl⟩
    have hsum : hiN 0 (wrB b T (x :: l)) = k / 2 ^ (b - T[k].2) * 2 ^ r.length + hiN 0 r := by rw [e, hiN_app, hcode, hr, hiN_add]
    rw [hr] at hrl
    have hl : (wrB b T (x :: l)).length = T[k].2 + r.length := by rw [e, List.length_append, hlen, hr]
    rw [hl, hsum] at hb
    rw [hl, List.length_cons, litI, if_neg (by omega)]
    have hp1 := bitsN_shr N (8 * off) (b := r.length) (c := T[k].2 + r.length) (by omega)
    rw [hb, Nat.add_sub_cancel, Nat.mul_comm, Nat.mul_add_div (Nat.two_pow_pos _), Nat.div_eq_of_lt hrl, Nat.add_zero] at hp1
    have hent : ent T k = T[k] := ent_of (List.getElem?_eq_getElem hk)
    have hlow := hT.low (N := N) (p := 8 * off + (T[k].2 + r.length)) (n := T[k].2) hm3 (by omega) hkb (by rw [hp1]; congr 1; omega) (by rw [hent]; exact Nat.le_refl _)
    rw [hlow, hent, h1]
    have hp2 := bitsN_low N (8 * off) (b := r.length) (c := T[k].2 + r.length) (by omega)
    rw [hb, Nat.add_comm, Nat.add_mul_mod_self_right, Nat.mod_eq_of_lt hrl] at hp2
    have ih := litI_wr hT ho l (acc ++ [x]) h.2 (by rw [hr]; exact hp2.symm)
    rw [hr] at ih
    rw [show 8 * off + (T[k].2 + r.length) - T[k].2 = 8 * off + r.length by omega, UInt8.ofNat_toNat, ih, List.append_assoc]
    rfl
theorem num_app : ∀ (a b : List UInt8), num (a ++ b) = num a + 2 ^ (8 * a.length) * num b
  | [], b => by simp [num]
  | x :: a, b => by
    rw [List.cons_append, num_cons, num_cons, num_app a b, List.length_cons, Nat.mul_add 8, Nat.mul_add, ← Nat.mul_assoc, Nat.pow_add]
    have : 256 * 2 ^ (8 * a.length) = 2 ^ (8 * a.length) * 2 ^ (8 * 1) := Nat.mul_comm _ _
    rw [this]
    omega
theorem num_mid {a w c : List UInt8} {t : Nat} (ht : t ≤ 8 * w.length) (hw : num w < 2 ^ t) : bitsN (num (a ++ w ++ c)) (8 * a.length) t = num w := by
  unfold bitsN
  rw [List.append_assoc, num_app, Nat.add_mul_div_left _ _ (Nat.two_pow_pos _), Nat.div_eq_of_lt (num_lt a), Nat.zero_add, num_app]
  have : 2 ^ (8 * w.length) = 2 ^ t * 2 ^ (8 * w.length - t) := by rw [← Nat.pow_add]; congr 1; omega
  rw [this, Nat.mul_assoc, Nat.add_mul_mod_self_left, Nat.mod_eq_of_lt hw]
/-- a stream that is written is read -/
theorem oneI_wr {b : Nat} {T : List Cd} (hT : Tb b T) {a s c l : List UInt8} (ha : 2 ≤ a.length) (hl : hasA T l = true) (hs : s.length = (wrB b T l).length / 8 + 1) (hn : num s = hiN 1 (wrB b T l)) :
    oneI (a ++ s ++ c) a.length s.length b T l.length = some l := by
  have h01 := wrB_01 b T l
  have hlt := hiN_lt h01
  have hadd := hiN_add 1 (wrB b T l)
  rw [Nat.one_mul] at hadd
  obtain ⟨L, hL⟩ : ∃ L, wrB b T l = L := ⟨_, rfl⟩
  have hw := litI_wr (b := b) hT (N := num (a ++ s ++ c)) ha l [] hl
  rw [hL] at hs hn h01 hlt hadd hw
  have ho : L.length / 8 < s.length := by omega
  obtain ⟨t1, t2⟩ := stream_top h01 hn ho
  have hg : (a ++ s ++ c).getD (a.length + s.length - 1) 0 = s[L.length / 8] := by
    rw [show a.length + s.length - 1 = a.length + L.length / 8 by omega, List.getD_eq_getElem?_getD, List.append_assoc, List.getElem?_append_right (by omega), Nat.add_sub_cancel_left, List.getElem?_append_left ho, List.getElem?_eq_getElem ho]
    rfl
  have hplace : 8 * (a.length + s.length - 1) + wd s[L.length / 8].toNat - 1 = 8 * a.length + L.length := by
    have := wd_pos t1
    omega
  have hm := num_mid (a := a) (w := s) (c := c) (t := L.length + 1) (by omega) (by rw [hn, hadd, Nat.pow_succ]; omega)
  have hm2 := bitsN_low (num (a ++ s ++ c)) (8 * a.length) (b := L.length) (c := L.length + 1) (by omega)
  rw [hm, hn, hadd, Nat.add_comm, Nat.add_mod_right, Nat.mod_eq_of_lt hlt] at hm2
  unfold oneI
  rw [hg, if_neg (Nat.pos_iff_ne_zero.1 t1), hplace]
  rw [hw hm2.symm]
  rfl
end Go.Proofs.YtgdhdkjbilifiaaDoor
namespace Go.Proofs.YtgdhdkjbilifiaaDoor
open Go Go.Sx
set_option maxRecDepth 100000
theorem cof_lt {b : Nat} : ∀ {T : List Cd} {i x : Nat}, (cof b T i x).1 ≤ i + T.length
  | [], i, x => Nat.zero_le _
  | c :: r, i, x => by
    rw [cof]
    split
    · exact Nat.le_trans (Nat.div_le_self _ _) (Nat.le_add_right _ _)
    · have := cof_lt (b := b) (T := r) (i := i + 1) (x := x)
      rw [List.length_cons]
      omega
set_option maxHeartbeats 1000000 in
theorem codeOf_spec (B : Option Addr) (m mc b x : Nat) (Tab : List Cd) (hT : Tb b Tab) (hm : Tab.length = m) :
    FnS Tryd.prog 39 [.slice B m mc, vN b, vN x] [] (fun w => Rd w (blocks []) B m 2 (cdE Tab)) (Is (.tuple #[vN (cof b Tab 0 x).1, vN (cof b Tab 0 x).2])) := by
  refine FnS.introD Tryd.func39 rfl (by kernel_rfl) rfl fun w hH hB => ?_
  have hb1 := hT.b1
  have htl := hT.len
  have h2b : 2 ^ b ≤ 2 ^ 11 := Nat.pow_le_pow_right (by omega) hb1
  obtain ⟨R, hR⟩ : ∃ R, cof b Tab 0 x = R := ⟨_, rfl⟩
  rw [hR]
  (conv => whnf); repeat ((first | refine RngK.mk (by omega) (by omega) ?_ | refine NzK.mk (by omega) ?_ | refine NnK.mk (by omega) ?_ | refine BdK.mk (by omega) (by omega) (by omega) ?_ | refine InsK.lit (by omega) (by omega) ?_ | refine SpK.lit ?_ | refine GrdK.same ?_ | refine GrdK.tf ?_ | refine GrdK.ft ?_ | refine PickK.t ?_ | refine PickK.f ?_); (conv => whnf))
  refine Wp.loop (fun t : Nat => [(1, vN b), (2, vN x), (10, .slice B m mc), (11, vN m), (12, vN t)]) (fun _ => []) (fun t => t ≤ m ∧ cof b (Tab.drop t) t x = R) (fun t => m - t) 0
    ⟨rfl, rfl, rfl, rfl, rfl, trivial⟩ (HSub.refl _) ⟨Nat.zero_le _, hR⟩ fun k ⟨hk, hR⟩ => ?_
  (conv => whnf); repeat ((first | refine RngK.mk (by omega) (by omega) ?_ | refine NzK.mk (by omega) ?_ | refine NnK.mk (by omega) ?_ | refine BdK.mk (by omega) (by omega) (by omega) ?_ | refine InsK.lit (by omega) (by omega) ?_ | refine SpK.lit ?_ | refine GrdK.same ?_ | refine GrdK.tf ?_ | refine GrdK.ft ?_ | refine PickK.t ?_ | refine PickK.f ?_); (conv => whnf))
  refine Wp.cond rfl (fun h => ?_) (fun h => ?_)
  rotate_left
  · have h := dF h
    rw [List.drop_of_length_le (by omega), cof] at hR
    subst hR
    (conv => whnf); repeat ((first | refine RngK.mk (by omega) (by omega) ?_ | refine NzK.mk (by omega) ?_ | refine NnK.mk (by omega) ?_ | refine BdK.mk (by omega) (by omega) (by omega) ?_ | refine InsK.lit (by omega) (by omega) ?_ | refine SpK.lit ?_ | refine GrdK.same ?_ | refine GrdK.tf ?_ | refine GrdK.ft ?_ | refine PickK.t ?_ | refine PickK.f ?_); (conv => whnf))
    exact ⟨[], HSub.nil _, rfl, rfl⟩
  have h := dT h
  have hk' : k < Tab.length := by omega
  have hcd := cdE_at hk'
  have hmem := hT.mem _ (List.getElem_mem hk')
  rw [drop_at hk', cof] at hR
  obtain ⟨y, hy⟩ : ∃ y, Tab[k] = y := ⟨_, rfl⟩
  rw [hy] at hcd hmem hR
  (conv => whnf); repeat ((first | refine RngK.mk (by omega) (by omega) ?_ | refine NzK.mk (by omega) ?_ | refine NnK.mk (by omega) ?_ | refine BdK.mk (by omega) (by omega) (by omega) ?_ | refine InsK.lit (by omega) (by omega) ?_ | refine SpK.lit ?_ | refine GrdK.same ?_ | refine GrdK.tf ?_ | refine GrdK.ft ?_ | refine PickK.t ?_ | refine PickK.f ?_); (conv => whnf))
  refine InsK.rd hB (by omega) (by omega) ?_
  (conv => whnf); repeat ((first | refine RngK.mk (by omega) (by omega) ?_ | refine NzK.mk (by omega) ?_ | refine NnK.mk (by omega) ?_ | refine BdK.mk (by omega) (by omega) (by omega) ?_ | refine InsK.lit (by omega) (by omega) ?_ | refine SpK.lit ?_ | refine GrdK.same ?_ | refine GrdK.tf ?_ | refine GrdK.ft ?_ | refine PickK.t ?_ | refine PickK.f ?_); (conv => whnf))
  refine LdK.rdN (cs := cdC y) hB (k * 2) rfl rfl rfl rfl rfl rfl hcd ?_
  (conv => whnf); repeat ((first | refine RngK.mk (by omega) (by omega) ?_ | refine NzK.mk (by omega) ?_ | refine NnK.mk (by omega) ?_ | refine BdK.mk (by omega) (by omega) (by omega) ?_ | refine InsK.lit (by omega) (by omega) ?_ | refine SpK.lit ?_ | refine GrdK.same ?_ | refine GrdK.tf ?_ | refine GrdK.ft ?_ | refine PickK.t ?_ | refine PickK.f ?_); (conv => whnf))
  refine ⟨_, _, rfl, rfl, ?_⟩
  intro b9
  (conv => whnf); repeat ((first | refine RngK.mk (by omega) (by omega) ?_ | refine NzK.mk (by omega) ?_ | refine NnK.mk (by omega) ?_ | refine BdK.mk (by omega) (by omega) (by omega) ?_ | refine InsK.lit (by omega) (by omega) ?_ | refine SpK.lit ?_ | refine GrdK.same ?_ | refine GrdK.tf ?_ | refine GrdK.ft ?_ | refine PickK.t ?_ | refine PickK.f ?_); (conv => whnf))
  refine StK.blkNE 0 (cdC y) rfl rfl rfl rfl rfl rfl ?_
  (conv => whnf); repeat ((first | refine RngK.mk (by omega) (by omega) ?_ | refine NzK.mk (by omega) ?_ | refine NnK.mk (by omega) ?_ | refine BdK.mk (by omega) (by omega) (by omega) ?_ | refine InsK.lit (by omega) (by omega) ?_ | refine SpK.lit ?_ | refine GrdK.same ?_ | refine GrdK.tf ?_ | refine GrdK.ft ?_ | refine PickK.t ?_ | refine PickK.f ?_); (conv => whnf))
  refine LdK.blk 0 rfl rfl rfl rfl ?_
  (conv => whnf); repeat ((first | refine RngK.mk (by omega) (by omega) ?_ | refine NzK.mk (by omega) ?_ | refine NnK.mk (by omega) ?_ | refine BdK.mk (by omega) (by omega) (by omega) ?_ | refine InsK.lit (by omega) (by omega) ?_ | refine SpK.lit ?_ | refine GrdK.same ?_ | refine GrdK.tf ?_ | refine GrdK.ft ?_ | refine PickK.t ?_ | refine PickK.f ?_); (conv => whnf))
  refine Wp.cond rfl (fun h => ?_) (fun h => ?_)
  · have h : ((y.1 : Nat) : Int) = ((x : Nat) : Int) := eqT h
    rw [if_pos (by omega)] at hR
    subst hR
    have e1 : (b : Int) - (y.2 : Int) = ((b - y.2 : Nat) : Int) := by omega
    have e2 : ishr .i64 (k : Int) ((b - y.2 : Nat) : Int) = ((k / 2 ^ (b - y.2) : Nat) : Int) := ishr_nat .i64 k (by show _ ≤ 64; omega)
    (conv => whnf); repeat ((first | refine RngK.mk (by omega) (by omega) ?_ | refine NzK.mk (by omega) ?_ | refine NnK.mk (by omega) ?_ | refine BdK.mk (by omega) (by omega) (by omega) ?_ | refine InsK.lit (by omega) (by omega) ?_ | refine SpK.lit ?_ | refine GrdK.same ?_ | refine GrdK.tf ?_ | refine GrdK.ft ?_ | refine PickK.t ?_ | refine PickK.f ?_); (conv => whnf))
    refine DrwK.ord (by kernel_rfl) [0, 1, 2, 3, 4, 5, 6, 7, 8, 9] (by kernel_rfl) ?_; conv => whnf
    (conv => whnf); repeat ((first | refine RngK.mk (by omega) (by omega) ?_ | refine NzK.mk (by omega) ?_ | refine NnK.mk (by omega) ?_ | refine BdK.mk (by omega) (by omega) (by omega) ?_ | refine InsK.lit (by omega) (by omega) ?_ | refine SpK.lit ?_ | refine GrdK.same ?_ | refine GrdK.tf ?_ | refine GrdK.ft ?_ | refine PickK.t ?_ | refine PickK.f ?_); (conv => whnf))
    refine LdK.blk 0 rfl rfl rfl rfl ?_
    (conv => whnf); repeat ((first | refine RngK.mk (by omega) (by omega) ?_ | refine NzK.mk (by omega) ?_ | refine NnK.mk (by omega) ?_ | refine BdK.mk (by omega) (by omega) (by omega) ?_ | refine InsK.lit (by omega) (by omega) ?_ | refine SpK.lit ?_ | refine GrdK.same ?_ | refine GrdK.tf ?_ | refine GrdK.ft ?_ | refine PickK.t ?_ | refine PickK.f ?_); (conv => whnf))
    rw [e1]
    (conv => whnf); repeat ((first | refine RngK.mk (by omega) (by omega) ?_ | refine NzK.mk (by omega) ?_ | refine NnK.mk (by omega) ?_ | refine BdK.mk (by omega) (by omega) (by omega) ?_ | refine InsK.lit (by omega) (by omega) ?_ | refine SpK.lit ?_ | refine GrdK.same ?_ | refine GrdK.tf ?_ | refine GrdK.ft ?_ | refine PickK.t ?_ | refine PickK.f ?_); (conv => whnf))
    refine LdK.blk 0 rfl rfl rfl rfl ?_
    (conv => whnf); repeat ((first | refine RngK.mk (by omega) (by omega) ?_ | refine NzK.mk (by omega) ?_ | refine NnK.mk (by omega) ?_ | refine BdK.mk (by omega) (by omega) (by omega) ?_ | refine InsK.lit (by omega) (by omega) ?_ | refine SpK.lit ?_ | refine GrdK.same ?_ | refine GrdK.tf ?_ | refine GrdK.ft ?_ | refine PickK.t ?_ | refine PickK.f ?_); (conv => whnf))
    rw [e2]
    exact ⟨[], HSub.nil _, rfl, rfl⟩
  · have h : ((y.1 : Nat) : Int) ≠ ((x : Nat) : Int) := eqF h
    rw [if_neg (by omega)] at hR
    (conv => whnf); repeat ((first | refine RngK.mk (by omega) (by omega) ?_ | refine NzK.mk (by omega) ?_ | refine NnK.mk (by omega) ?_ | refine BdK.mk (by omega) (by omega) (by omega) ?_ | refine InsK.lit (by omega) (by omega) ?_ | refine SpK.lit ?_ | refine GrdK.same ?_ | refine GrdK.tf ?_ | refine GrdK.ft ?_ | refine PickK.t ?_ | refine PickK.f ?_); (conv => whnf))
    exact ⟨k + 1, ⟨rfl, rfl, rfl, rfl, rfl, trivial⟩, HSub.nil _, ⟨by omega, hR⟩, by omega⟩
set_option maxHeartbeats 1000000 in
theorem writeStream_spec (B : Option Addr) (m mc b : Nat) (Tab : List Cd) (C : Option Addr) (q c : Nat) (bs : List UInt8) (hT : Tb b Tab) (hm : Tab.length = m) (hq : q ≤ 1000000) :
    FnS Tryd.prog 23 [.slice B m mc, vN b, .slice C q c] [] (fun w => Rd w (blocks []) B m 2 (cdE Tab) ∧ Bytes w (blocks []) C q c bs)
      (fun v H => ∃ s A1 c1, v = .slice A1 s.length c1 ∧ H = [.own A1 s.length c1 5 1 (s.map vU8)] ∧ s.length = (wrB b Tab bs).length / 8 + 1 ∧ num s = hiN 1 (wrB b Tab bs)) := by
  refine FnS.introD Tryd.func23 rfl (by kernel_rfl) rfl fun w hH ⟨hB, hp⟩ => ?_
  obtain rfl : bs.length = q := hp.len
  have hb1 := hT.b1
  have hle : ∀ c ∈ Tab, c.2 ≤ b := fun x hx => (hT.mem x hx).2.2
  (conv => whnf); repeat ((first | refine RngK.mk (by omega) (by omega) ?_ | refine NzK.mk (by omega) ?_ | refine NnK.mk (by omega) ?_ | refine BdK.mk (by omega) (by omega) (by omega) ?_ | refine InsK.lit (by omega) (by omega) ?_ | refine SpK.lit ?_ | refine GrdK.same ?_ | refine GrdK.tf ?_ | refine GrdK.ft ?_ | refine PickK.t ?_ | refine PickK.f ?_); (conv => whnf))
  refine EffK.lit0 rfl rfl fun bk => ?_
  (conv => whnf); repeat ((first | refine RngK.mk (by omega) (by omega) ?_ | refine NzK.mk (by omega) ?_ | refine NnK.mk (by omega) ?_ | refine BdK.mk (by omega) (by omega) (by omega) ?_ | refine InsK.lit (by omega) (by omega) ?_ | refine SpK.lit ?_ | refine GrdK.same ?_ | refine GrdK.tf ?_ | refine GrdK.ft ?_ | refine PickK.t ?_ | refine PickK.f ?_); (conv => whnf))
  refine Wp.cutEx 0 (fun t : Option Addr × Nat => [(7, .slice t.1 (wrB b Tab bs).length t.2)]) (fun t => [.own t.1 (wrB b Tab bs).length t.2 3 1 ((wrB b Tab bs).map vI)]) (fun _ => True) ?_ fun ⟨A1, c1⟩ _ => ?_
  rotate_left
  · have hwl := wrB_len hle bs
    have : bs.length * b ≤ 1000000 * 11 := Nat.mul_le_mul hq hb1
    (conv => whnf); repeat ((first | refine RngK.mk (by omega) (by omega) ?_ | refine NzK.mk (by omega) ?_ | refine NnK.mk (by omega) ?_ | refine BdK.mk (by omega) (by omega) (by omega) ?_ | refine InsK.lit (by omega) (by omega) ?_ | refine SpK.lit ?_ | refine GrdK.same ?_ | refine GrdK.tf ?_ | refine GrdK.ft ?_ | refine PickK.t ?_ | refine PickK.f ?_); (conv => whnf))
    refine CallK.of [] (stream_spec A1 (wrB b Tab bs).length c1 (wrB b Tab bs) (wrB_01 b Tab bs) (by omega)) rfl (fun w hw => Rd.ofOwn hw 0 rfl) ?_
    rintro _ _ ⟨s, A2, c2, rfl, rfl, h1, h2⟩
    (conv => whnf); repeat ((first | refine RngK.mk (by omega) (by omega) ?_ | refine NzK.mk (by omega) ?_ | refine NnK.mk (by omega) ?_ | refine BdK.mk (by omega) (by omega) (by omega) ?_ | refine InsK.lit (by omega) (by omega) ?_ | refine SpK.lit ?_ | refine GrdK.same ?_ | refine GrdK.tf ?_ | refine GrdK.ft ?_ | refine PickK.t ?_ | refine PickK.f ?_); (conv => whnf))
    exact ⟨_, HSub.of [0] rfl, s, A2, c2, rfl, rfl, h1, h2⟩
  refine Wp.loop (fun t : Nat × Option Addr × Nat => [(0, .slice B m mc), (1, vN b), (7, .slice t.2.1 (wrB b Tab (bs.take t.1)).length t.2.2), (14, .slice C bs.length c), (15, vN bs.length), (16, vN t.1)])
    (fun t => [.own t.2.1 (wrB b Tab (bs.take t.1)).length t.2.2 3 1 ((wrB b Tab (bs.take t.1)).map vI)]) (fun t => t.1 ≤ bs.length) (fun t => bs.length - t.1) (0, some ⟨bk, 0, none⟩, 0)
    ⟨rfl, rfl, rfl, rfl, rfl, rfl, trivial⟩ (HSub.refl _) (Nat.zero_le _) fun ⟨k, A1, c1⟩ hk => ?_
  dsimp only at hk ⊢
  (conv => whnf); repeat ((first | refine RngK.mk (by omega) (by omega) ?_ | refine NzK.mk (by omega) ?_ | refine NnK.mk (by omega) ?_ | refine BdK.mk (by omega) (by omega) (by omega) ?_ | refine InsK.lit (by omega) (by omega) ?_ | refine SpK.lit ?_ | refine GrdK.same ?_ | refine GrdK.tf ?_ | refine GrdK.ft ?_ | refine PickK.t ?_ | refine PickK.f ?_); (conv => whnf))
  refine Wp.cond rfl (fun h => ?_) (fun h => ?_)
  rotate_left
  · have h := dF h
    have hkl : k = bs.length := by omega
    subst hkl
    rw [List.take_length]
    (conv => whnf); repeat ((first | refine RngK.mk (by omega) (by omega) ?_ | refine NzK.mk (by omega) ?_ | refine NnK.mk (by omega) ?_ | refine BdK.mk (by omega) (by omega) (by omega) ?_ | refine InsK.lit (by omega) (by omega) ?_ | refine SpK.lit ?_ | refine GrdK.same ?_ | refine GrdK.tf ?_ | refine GrdK.ft ?_ | refine PickK.t ?_ | refine PickK.f ?_); (conv => whnf))
    exact ⟨(A1, c1), ⟨rfl, trivial⟩, HSub.refl _, trivial⟩
  have h := dT h
  have hk' : k < bs.length := by omega
  have htk := List.take_succ_eq_append_getElem hk'
  have hwl := wrB_len hle (bs.take k)
  have hmul : (bs.take k).length * b ≤ 1000000 * 11 := Nat.mul_le_mul (by rw [List.length_take]; omega) hb1
  have hwn : wrB b Tab (bs.take (k + 1)) = wrB b Tab (bs.take k) ++ cbt b Tab bs[k].toNat := by rw [htk, wrB, List.flatMap_append]; simp [wrB]
  have hcl := cof_le (i := 0) (x := bs[k].toNat) hle
  have hcl2 := cof_lt (b := b) (T := Tab) (i := 0) (x := bs[k].toNat)
  have hx8 := bs[k].toNat_lt
  have htl := hT.len
  have h2b : 2 ^ b ≤ 2 ^ 11 := Nat.pow_le_pow_right (by omega) hb1
  unfold cbt at hwn
  obtain ⟨P, hP⟩ : ∃ P, cof b Tab 0 bs[k].toNat = P := ⟨_, rfl⟩
  have hco := codeOf_spec B m mc b bs[k].toNat Tab hT hm
  rw [hP] at hwn hcl hcl2 hco
  obtain ⟨code, nb⟩ := P
  dsimp only at hwn hcl hcl2 hco
  obtain ⟨L0, hL0⟩ : ∃ L0, wrB b Tab (bs.take k) = L0 := ⟨_, rfl⟩
  rw [hL0] at hwn hwl
  rw [hL0]
  (conv => whnf); repeat ((first | refine RngK.mk (by omega) (by omega) ?_ | refine NzK.mk (by omega) ?_ | refine NnK.mk (by omega) ?_ | refine BdK.mk (by omega) (by omega) (by omega) ?_ | refine InsK.lit (by omega) (by omega) ?_ | refine SpK.lit ?_ | refine GrdK.same ?_ | refine GrdK.tf ?_ | refine GrdK.ft ?_ | refine PickK.t ?_ | refine PickK.f ?_); (conv => whnf))
  refine InsK.rd hp.rd (by omega) (by omega) ?_
  (conv => whnf); repeat ((first | refine RngK.mk (by omega) (by omega) ?_ | refine NzK.mk (by omega) ?_ | refine NnK.mk (by omega) ?_ | refine BdK.mk (by omega) (by omega) (by omega) ?_ | refine InsK.lit (by omega) (by omega) ?_ | refine SpK.lit ?_ | refine GrdK.same ?_ | refine GrdK.tf ?_ | refine GrdK.ft ?_ | refine PickK.t ?_ | refine PickK.f ?_); (conv => whnf))
  refine LdK.rd (v := vU8 bs[k]) hp.rd k rfl rfl rfl (by simp [hk']) ?_
  (conv => whnf); repeat ((first | refine RngK.mk (by omega) (by omega) ?_ | refine NzK.mk (by omega) ?_ | refine NnK.mk (by omega) ?_ | refine BdK.mk (by omega) (by omega) (by omega) ?_ | refine InsK.lit (by omega) (by omega) ?_ | refine SpK.lit ?_ | refine GrdK.same ?_ | refine GrdK.tf ?_ | refine GrdK.ft ?_ | refine PickK.t ?_ | refine PickK.f ?_); (conv => whnf))
  refine CallK.of [] hco rfl (fun w hw => hB.pass hw) ?_
  rintro _ _ ⟨rfl, rfl⟩
  (conv => whnf); repeat ((first | refine RngK.mk (by omega) (by omega) ?_ | refine NzK.mk (by omega) ?_ | refine NnK.mk (by omega) ?_ | refine BdK.mk (by omega) (by omega) (by omega) ?_ | refine InsK.lit (by omega) (by omega) ?_ | refine SpK.lit ?_ | refine GrdK.same ?_ | refine GrdK.tf ?_ | refine GrdK.ft ?_ | refine PickK.t ?_ | refine PickK.f ?_); (conv => whnf))
  refine Wp.cutEx 2 (fun t : Option Addr × Nat => [(0, .slice B m mc), (1, vN b), (7, .slice t.1 (wrB b Tab (bs.take (k + 1))).length t.2), (14, .slice C bs.length c), (15, vN bs.length), (16, vN k)]) (fun t => [.own t.1 (wrB b Tab (bs.take (k + 1))).length t.2 3 1 ((wrB b Tab (bs.take (k + 1))).map vI)]) (fun _ => True) ?_ fun ⟨A1, c1⟩ _ => ?_
  rotate_left
  · (conv => whnf); repeat ((first | refine RngK.mk (by omega) (by omega) ?_ | refine NzK.mk (by omega) ?_ | refine NnK.mk (by omega) ?_ | refine BdK.mk (by omega) (by omega) (by omega) ?_ | refine InsK.lit (by omega) (by omega) ?_ | refine SpK.lit ?_ | refine GrdK.same ?_ | refine GrdK.tf ?_ | refine GrdK.ft ?_ | refine PickK.t ?_ | refine PickK.f ?_); (conv => whnf))
    exact ⟨(k + 1, A1, c1), ⟨rfl, rfl, rfl, rfl, rfl, rfl, trivial⟩, HSub.refl _, by simp only; omega, by simp only; omega⟩
  refine Wp.loop (fun t : Nat × List Int × Option Addr × Nat => [(0, .slice B m mc), (1, vN b), (7, .slice t.2.2.1 t.2.1.length t.2.2.2), (10, vN code), (12, vI ((t.1 : Int) - 1)), (14, .slice C bs.length c), (15, vN bs.length), (16, vN k)])
    (fun t => [.own t.2.2.1 t.2.1.length t.2.2.2 3 1 (t.2.1.map vI)]) (fun t => t.1 ≤ nb ∧ t.2.1.length + t.1 = L0.length + nb ∧ t.2.1 ++ cbits code t.1 = wrB b Tab (bs.take (k + 1))) (fun t => t.1) (nb, L0, A1, c1)
    ⟨rfl, rfl, rfl, rfl, rfl, rfl, rfl, rfl, trivial⟩ (HSub.refl _) ⟨Nat.le_refl _, rfl, hwn.symm⟩ fun ⟨j, L, A1, c1⟩ ⟨hj, hjl, hL⟩ => ?_
  dsimp only at hj hjl hL ⊢
  (conv => whnf); repeat ((first | refine RngK.mk (by omega) (by omega) ?_ | refine NzK.mk (by omega) ?_ | refine NnK.mk (by omega) ?_ | refine BdK.mk (by omega) (by omega) (by omega) ?_ | refine InsK.lit (by omega) (by omega) ?_ | refine SpK.lit ?_ | refine GrdK.same ?_ | refine GrdK.tf ?_ | refine GrdK.ft ?_ | refine PickK.t ?_ | refine PickK.f ?_); (conv => whnf))
  refine Wp.cond rfl (fun h => ?_) (fun h => ?_)
  rotate_left
  · have h := dF h
    obtain rfl : j = 0 := by omega
    rw [cbits, List.append_nil] at hL
    subst hL
    (conv => whnf); repeat ((first | refine RngK.mk (by omega) (by omega) ?_ | refine NzK.mk (by omega) ?_ | refine NnK.mk (by omega) ?_ | refine BdK.mk (by omega) (by omega) (by omega) ?_ | refine InsK.lit (by omega) (by omega) ?_ | refine SpK.lit ?_ | refine GrdK.same ?_ | refine GrdK.tf ?_ | refine GrdK.ft ?_ | refine PickK.t ?_ | refine PickK.f ?_); (conv => whnf))
    exact ⟨(A1, c1), ⟨rfl, rfl, rfl, rfl, rfl, rfl, trivial⟩, HSub.refl _, trivial⟩
  have h := dT h
  obtain ⟨i, rfl⟩ : ∃ i, j = i + 1 := ⟨j - 1, by omega⟩
  have e1 : ((i + 1 : Nat) : Int) - 1 = ((i : Nat) : Int) := by omega
  have e2 : ishr .i64 (code : Int) (i : Int) = ((code / 2 ^ i : Nat) : Int) := ishr_nat .i64 code (by show _ ≤ 64; omega)
  have e3 : iand .i64 ((code / 2 ^ i : Nat) : Int) 1 = ((code / 2 ^ i % 2 : Nat) : Int) := by
    have hle2 := Nat.div_le_self code (2 ^ i)
    have := iand_i64 (x := code / 2 ^ i) (y := 1) (by omega) (by decide)
    rw [Nat.and_one_is_mod] at this
    exact this
  rw [e1]
  (conv => whnf); repeat ((first | refine RngK.mk (by omega) (by omega) ?_ | refine NzK.mk (by omega) ?_ | refine NnK.mk (by omega) ?_ | refine BdK.mk (by omega) (by omega) (by omega) ?_ | refine InsK.lit (by omega) (by omega) ?_ | refine SpK.lit ?_ | refine GrdK.same ?_ | refine GrdK.tf ?_ | refine GrdK.ft ?_ | refine PickK.t ?_ | refine PickK.f ?_); (conv => whnf))
  rw [e2, e3]
  refine EffK.litV rfl rfl rfl rfl rfl rfl rfl rfl rfl ?_
  (conv => whnf); repeat ((first | refine RngK.mk (by omega) (by omega) ?_ | refine NzK.mk (by omega) ?_ | refine NnK.mk (by omega) ?_ | refine BdK.mk (by omega) (by omega) (by omega) ?_ | refine InsK.lit (by omega) (by omega) ?_ | refine SpK.lit ?_ | refine GrdK.same ?_ | refine GrdK.tf ?_ | refine GrdK.ft ?_ | refine PickK.t ?_ | refine PickK.f ?_); (conv => whnf))
  intro b3
  (conv => whnf); repeat ((first | refine RngK.mk (by omega) (by omega) ?_ | refine NzK.mk (by omega) ?_ | refine NnK.mk (by omega) ?_ | refine BdK.mk (by omega) (by omega) (by omega) ?_ | refine InsK.lit (by omega) (by omega) ?_ | refine SpK.lit ?_ | refine GrdK.same ?_ | refine GrdK.tf ?_ | refine GrdK.ft ?_ | refine PickK.t ?_ | refine PickK.f ?_); (conv => whnf))
  refine EffK.append 1 (news := [vI ((code / 2 ^ i % 2 : Nat) : Int)]) rfl rfl rfl rfl rfl rfl rfl rfl (Src.ownW (k := 0) rfl rfl) (by intro u hu; obtain rfl := List.mem_singleton.1 hu; rfl) (by simp [maxLen]; omega) (by show (_ + _) * 8 ≤ _; omega) fun A' cap' => ?_
  (conv => whnf); repeat ((first | refine RngK.mk (by omega) (by omega) ?_ | refine NzK.mk (by omega) ?_ | refine NnK.mk (by omega) ?_ | refine BdK.mk (by omega) (by omega) (by omega) ?_ | refine InsK.lit (by omega) (by omega) ?_ | refine SpK.lit ?_ | refine GrdK.same ?_ | refine GrdK.tf ?_ | refine GrdK.ft ?_ | refine PickK.t ?_ | refine PickK.f ?_); (conv => whnf))
  refine ⟨(i, L ++ [((code / 2 ^ i % 2 : Nat) : Int)], A', cap'), ⟨rfl, rfl, ?_, rfl, rfl, rfl, rfl, rfl, trivial⟩, ?_, ⟨by simp only; omega, by simp only [List.length_append, List.length_singleton]; omega, ?_⟩, by simp only; omega⟩
  · show some (Value.slice A' _ cap') = some (Value.slice A' _ cap')
    rw [List.length_append]; rfl
  · dsimp only
    rw [List.length_append, List.map_append]
    exact HSub.of [1] rfl
  · dsimp only
    rw [List.append_assoc]
    exact hL
end Go.Proofs.YtgdhdkjbilifiaaDoor
namespace Go.Proofs.YtgdhdkjbilifiaaDoor
open Go Go.Sx
set_option maxRecDepth 100000
def hasF (T : List Cd) : List Bool := (List.range 256).map fun v => T.any fun c => c.1 == v
theorem hasF_len (T : List Cd) : (hasF T).length = 256 := by simp [hasF]
theorem hasF_get (T : List Cd) {v : Nat} (h : v < 256) : (hasF T)[v]? = some (T.any fun c => c.1 == v) := by simp [hasF, List.getElem?_range h]
theorem hasF_nil : hasF [] = List.replicate 256 false := by decide +kernel
theorem hasF_set (T : List Cd) (x : Cd) : (hasF T).set x.1 true = hasF (T ++ [x]) := by
  apply List.ext_getElem?
  intro p
  rw [List.getElem?_set, hasF_len]
  by_cases hp : p < 256
  · rw [hasF_get _ hp, hasF_get _ hp]
    by_cases h : x.1 = p
    · rw [if_pos h, h, if_pos hp]
      simp [h]
    · rw [if_neg h]
      have : (x.1 == p) = false := by simpa using h
      simp [this]
  · rw [List.getElem?_eq_none (l := hasF T) (by rw [hasF_len]; omega), List.getElem?_eq_none (l := hasF (T ++ [x])) (by rw [hasF_len]; omega)]
    by_cases h : x.1 = p
    · rw [if_pos h, h, if_neg hp]
    · rw [if_neg h]
set_option maxHeartbeats 1000000 in
theorem has_spec (B : Option Addr) (m mc b : Nat) (Tab : List Cd) (C : Option Addr) (q c : Nat) (bs : List UInt8) (hT : Tb b Tab) (hm : Tab.length = m) (hq : q ≤ 1000000) :
    FnS Tryd.prog 22 [.slice B m mc, .slice C q c] [] (fun w => Rd w (blocks []) B m 2 (cdE Tab) ∧ Bytes w (blocks []) C q c bs) (Is (vB (hasA Tab bs))) := by
  refine FnS.introD Tryd.func22 rfl (by kernel_rfl) rfl fun w hH ⟨hB, hp⟩ => ?_
  obtain rfl : bs.length = q := hp.len
  have hb1 := hT.b1
  have htl := hT.len
  have h2b : 2 ^ b ≤ 2 ^ 11 := Nat.pow_le_pow_right (by omega) hb1
  (conv => whnf); repeat ((first | refine RngK.mk (by omega) (by omega) ?_ | refine NzK.mk (by omega) ?_ | refine NnK.mk (by omega) ?_ | refine BdK.mk (by omega) (by omega) (by omega) ?_ | refine InsK.lit (by omega) (by omega) ?_ | refine SpK.lit ?_ | refine GrdK.same ?_ | refine GrdK.tf ?_ | refine GrdK.ft ?_ | refine PickK.t ?_ | refine PickK.f ?_); (conv => whnf))
  refine EffK.made1 256 rfl rfl rfl rfl rfl rfl (by show 1 * _ ≤ _; omega) (by simp [maxLen]) fun bk => ?_
  (conv => whnf); repeat ((first | refine RngK.mk (by omega) (by omega) ?_ | refine NzK.mk (by omega) ?_ | refine NnK.mk (by omega) ?_ | refine BdK.mk (by omega) (by omega) (by omega) ?_ | refine InsK.lit (by omega) (by omega) ?_ | refine SpK.lit ?_ | refine GrdK.same ?_ | refine GrdK.tf ?_ | refine GrdK.ft ?_ | refine PickK.t ?_ | refine PickK.f ?_); (conv => whnf))
  have h0 : List.replicate 256 (Value.bool false) = (hasF (Tab.take 0)).map vB := by
    rw [List.take_zero, hasF_nil, List.map_replicate]
  rw [h0]
  refine Wp.cutEx 0 (fun _ : Unit => [(1, .slice C bs.length c), (5, .slice (some ⟨bk, 0, none⟩) 256 256)]) (fun _ => [.own (some ⟨bk, 0, none⟩) 256 256 4 1 ((hasF Tab).map vB)]) (fun _ => True) ?_ fun _ _ => ?_
  · refine Wp.loop (fun t : Nat => [(1, .slice C bs.length c), (5, .slice (some ⟨bk, 0, none⟩) 256 256), (11, .slice B m mc), (12, vN m), (13, vN t)])
      (fun t => [.own (some ⟨bk, 0, none⟩) 256 256 4 1 ((hasF (Tab.take t)).map vB)]) (fun t => t ≤ m) (fun t => m - t) 0 ⟨rfl, rfl, rfl, rfl, rfl, trivial⟩ (HSub.refl _) (Nat.zero_le _) fun k hk => ?_
    (conv => whnf); repeat ((first | refine RngK.mk (by omega) (by omega) ?_ | refine NzK.mk (by omega) ?_ | refine NnK.mk (by omega) ?_ | refine BdK.mk (by omega) (by omega) (by omega) ?_ | refine InsK.lit (by omega) (by omega) ?_ | refine SpK.lit ?_ | refine GrdK.same ?_ | refine GrdK.tf ?_ | refine GrdK.ft ?_ | refine PickK.t ?_ | refine PickK.f ?_); (conv => whnf))
    refine Wp.cond rfl (fun h => ?_) (fun h => ?_)
    rotate_left
    · have h := dF h
      rw [List.take_of_length_le (by omega)]
      (conv => whnf); repeat ((first | refine RngK.mk (by omega) (by omega) ?_ | refine NzK.mk (by omega) ?_ | refine NnK.mk (by omega) ?_ | refine BdK.mk (by omega) (by omega) (by omega) ?_ | refine InsK.lit (by omega) (by omega) ?_ | refine SpK.lit ?_ | refine GrdK.same ?_ | refine GrdK.tf ?_ | refine GrdK.ft ?_ | refine PickK.t ?_ | refine PickK.f ?_); (conv => whnf))
      exact ⟨(), ⟨rfl, rfl, trivial⟩, HSub.refl _, trivial⟩
    have h := dT h
    have hk' : k < Tab.length := by omega
    have hcd := cdE_at hk'
    have hmem := hT.mem _ (List.getElem_mem hk')
    have htk := List.take_succ_eq_append_getElem hk'
    obtain ⟨y, hy⟩ : ∃ y, Tab[k] = y := ⟨_, rfl⟩
    rw [hy] at hcd hmem htk
    have hset := hasF_set (Tab.take k) y
    rw [← htk] at hset
    have hfl := hasF_len (Tab.take k)
    have e1 : iand .i64 (y.1 : Int) 255 = ((y.1 : Nat) : Int) := by
      have := iand_i64 (x := y.1) (y := 255) (by omega) (by decide)
      rw [show (255 : Nat) = 2 ^ 8 - 1 by rfl, Nat.and_two_pow_sub_one_eq_mod, Nat.mod_eq_of_lt (by omega)] at this
      exact this
    (conv => whnf); repeat ((first | refine RngK.mk (by omega) (by omega) ?_ | refine NzK.mk (by omega) ?_ | refine NnK.mk (by omega) ?_ | refine BdK.mk (by omega) (by omega) (by omega) ?_ | refine InsK.lit (by omega) (by omega) ?_ | refine SpK.lit ?_ | refine GrdK.same ?_ | refine GrdK.tf ?_ | refine GrdK.ft ?_ | refine PickK.t ?_ | refine PickK.f ?_); (conv => whnf))
    refine InsK.rd hB (by omega) (by omega) ?_
    (conv => whnf); repeat ((first | refine RngK.mk (by omega) (by omega) ?_ | refine NzK.mk (by omega) ?_ | refine NnK.mk (by omega) ?_ | refine BdK.mk (by omega) (by omega) (by omega) ?_ | refine InsK.lit (by omega) (by omega) ?_ | refine SpK.lit ?_ | refine GrdK.same ?_ | refine GrdK.tf ?_ | refine GrdK.ft ?_ | refine PickK.t ?_ | refine PickK.f ?_); (conv => whnf))
    refine LdK.rdN (cs := cdC y) hB (k * 2) rfl rfl rfl rfl rfl rfl hcd ?_
    (conv => whnf); repeat ((first | refine RngK.mk (by omega) (by omega) ?_ | refine NzK.mk (by omega) ?_ | refine NnK.mk (by omega) ?_ | refine BdK.mk (by omega) (by omega) (by omega) ?_ | refine InsK.lit (by omega) (by omega) ?_ | refine SpK.lit ?_ | refine GrdK.same ?_ | refine GrdK.tf ?_ | refine GrdK.ft ?_ | refine PickK.t ?_ | refine PickK.f ?_); (conv => whnf))
    refine ⟨_, _, rfl, rfl, ?_⟩
    intro b9
    (conv => whnf); repeat ((first | refine RngK.mk (by omega) (by omega) ?_ | refine NzK.mk (by omega) ?_ | refine NnK.mk (by omega) ?_ | refine BdK.mk (by omega) (by omega) (by omega) ?_ | refine InsK.lit (by omega) (by omega) ?_ | refine SpK.lit ?_ | refine GrdK.same ?_ | refine GrdK.tf ?_ | refine GrdK.ft ?_ | refine PickK.t ?_ | refine PickK.f ?_); (conv => whnf))
    refine StK.blkNE 0 (cdC y) rfl rfl rfl rfl rfl rfl ?_
    (conv => whnf); repeat ((first | refine RngK.mk (by omega) (by omega) ?_ | refine NzK.mk (by omega) ?_ | refine NnK.mk (by omega) ?_ | refine BdK.mk (by omega) (by omega) (by omega) ?_ | refine InsK.lit (by omega) (by omega) ?_ | refine SpK.lit ?_ | refine GrdK.same ?_ | refine GrdK.tf ?_ | refine GrdK.ft ?_ | refine PickK.t ?_ | refine PickK.f ?_); (conv => whnf))
    refine LdK.blk 0 rfl rfl rfl rfl ?_
    (conv => whnf); repeat ((first | refine RngK.mk (by omega) (by omega) ?_ | refine NzK.mk (by omega) ?_ | refine NnK.mk (by omega) ?_ | refine BdK.mk (by omega) (by omega) (by omega) ?_ | refine InsK.lit (by omega) (by omega) ?_ | refine SpK.lit ?_ | refine GrdK.same ?_ | refine GrdK.tf ?_ | refine GrdK.ft ?_ | refine PickK.t ?_ | refine PickK.f ?_); (conv => whnf))
    rw [e1]
    (conv => whnf); repeat ((first | refine RngK.mk (by omega) (by omega) ?_ | refine NzK.mk (by omega) ?_ | refine NnK.mk (by omega) ?_ | refine BdK.mk (by omega) (by omega) (by omega) ?_ | refine InsK.lit (by omega) (by omega) ?_ | refine SpK.lit ?_ | refine GrdK.same ?_ | refine GrdK.tf ?_ | refine GrdK.ft ?_ | refine PickK.t ?_ | refine PickK.f ?_); (conv => whnf))
    refine StK.own 1 y.1 rfl ⟨bk, rfl⟩ rfl rfl rfl rfl (by rw [List.length_map]; omega) ?_
    (conv => whnf); repeat ((first | refine RngK.mk (by omega) (by omega) ?_ | refine NzK.mk (by omega) ?_ | refine NnK.mk (by omega) ?_ | refine BdK.mk (by omega) (by omega) (by omega) ?_ | refine InsK.lit (by omega) (by omega) ?_ | refine SpK.lit ?_ | refine GrdK.same ?_ | refine GrdK.tf ?_ | refine GrdK.ft ?_ | refine PickK.t ?_ | refine PickK.f ?_); (conv => whnf))
    rw [show ((hasF (Tab.take k)).map vB).set y.1 (.bool true) = (hasF (Tab.take (k + 1))).map vB by rw [← hset, List.map_set]]
    exact ⟨k + 1, ⟨rfl, rfl, rfl, rfl, rfl, trivial⟩, HSub.of [1] rfl, by omega, by omega⟩
  obtain ⟨R, hR⟩ : ∃ R, hasA Tab bs = R := ⟨_, rfl⟩
  rw [hR]
  (conv => whnf); repeat ((first | refine RngK.mk (by omega) (by omega) ?_ | refine NzK.mk (by omega) ?_ | refine NnK.mk (by omega) ?_ | refine BdK.mk (by omega) (by omega) (by omega) ?_ | refine InsK.lit (by omega) (by omega) ?_ | refine SpK.lit ?_ | refine GrdK.same ?_ | refine GrdK.tf ?_ | refine GrdK.ft ?_ | refine PickK.t ?_ | refine PickK.f ?_); (conv => whnf))
  refine Wp.loop (fun t : Nat => [(5, .slice (some ⟨bk, 0, none⟩) 256 256), (23, .slice C bs.length c), (24, vN bs.length), (25, vN t)])
    (fun t => [.own (some ⟨bk, 0, none⟩) 256 256 4 1 ((hasF Tab).map vB)]) (fun t => t ≤ bs.length ∧ hasA Tab (bs.drop t) = R) (fun t => bs.length - t) 0 ⟨rfl, rfl, rfl, rfl, trivial⟩ (HSub.refl _) ⟨Nat.zero_le _, hR⟩ fun k ⟨hk, hR⟩ => ?_
  (conv => whnf); repeat ((first | refine RngK.mk (by omega) (by omega) ?_ | refine NzK.mk (by omega) ?_ | refine NnK.mk (by omega) ?_ | refine BdK.mk (by omega) (by omega) (by omega) ?_ | refine InsK.lit (by omega) (by omega) ?_ | refine SpK.lit ?_ | refine GrdK.same ?_ | refine GrdK.tf ?_ | refine GrdK.ft ?_ | refine PickK.t ?_ | refine PickK.f ?_); (conv => whnf))
  refine Wp.cond rfl (fun h => ?_) (fun h => ?_)
  rotate_left
  · have h := dF h
    rw [List.drop_of_length_le (by omega)] at hR
    subst hR
    (conv => whnf); repeat ((first | refine RngK.mk (by omega) (by omega) ?_ | refine NzK.mk (by omega) ?_ | refine NnK.mk (by omega) ?_ | refine BdK.mk (by omega) (by omega) (by omega) ?_ | refine InsK.lit (by omega) (by omega) ?_ | refine SpK.lit ?_ | refine GrdK.same ?_ | refine GrdK.tf ?_ | refine GrdK.ft ?_ | refine PickK.t ?_ | refine PickK.f ?_); (conv => whnf))
    exact ⟨[], HSub.nil _, rfl, rfl⟩
  have h := dT h
  have hk' : k < bs.length := by omega
  have hx := bs[k].toNat_lt
  rw [drop_at hk', hasA, List.all_cons] at hR
  have hcell : ((hasF Tab).map vB)[bs[k].toNat]? = some (vB (Tab.any fun c => c.1 == bs[k].toNat)) := by rw [List.getElem?_map, hasF_get _ hx]; rfl
  obtain ⟨g, hg⟩ : ∃ g, (Tab.any fun c => c.1 == bs[k].toNat) = g := ⟨_, rfl⟩
  rw [hg] at hR hcell
  (conv => whnf); repeat ((first | refine RngK.mk (by omega) (by omega) ?_ | refine NzK.mk (by omega) ?_ | refine NnK.mk (by omega) ?_ | refine BdK.mk (by omega) (by omega) (by omega) ?_ | refine InsK.lit (by omega) (by omega) ?_ | refine SpK.lit ?_ | refine GrdK.same ?_ | refine GrdK.tf ?_ | refine GrdK.ft ?_ | refine PickK.t ?_ | refine PickK.f ?_); (conv => whnf))
  refine InsK.rd hp.rd (by omega) (by omega) ?_
  (conv => whnf); repeat ((first | refine RngK.mk (by omega) (by omega) ?_ | refine NzK.mk (by omega) ?_ | refine NnK.mk (by omega) ?_ | refine BdK.mk (by omega) (by omega) (by omega) ?_ | refine InsK.lit (by omega) (by omega) ?_ | refine SpK.lit ?_ | refine GrdK.same ?_ | refine GrdK.tf ?_ | refine GrdK.ft ?_ | refine PickK.t ?_ | refine PickK.f ?_); (conv => whnf))
  refine LdK.rd (v := vU8 bs[k]) hp.rd k rfl rfl rfl (by simp [hk']) ?_
  (conv => whnf); repeat ((first | refine RngK.mk (by omega) (by omega) ?_ | refine NzK.mk (by omega) ?_ | refine NnK.mk (by omega) ?_ | refine BdK.mk (by omega) (by omega) (by omega) ?_ | refine InsK.lit (by omega) (by omega) ?_ | refine SpK.lit ?_ | refine GrdK.same ?_ | refine GrdK.tf ?_ | refine GrdK.ft ?_ | refine PickK.t ?_ | refine PickK.f ?_); (conv => whnf))
  refine LdK.own 0 bs[k].toNat rfl rfl rfl rfl hcell ?_
  cases hgg : g with
  | false =>
    rw [hgg, Bool.false_and] at hR
    subst hR
    (conv => whnf); repeat ((first | refine RngK.mk (by omega) (by omega) ?_ | refine NzK.mk (by omega) ?_ | refine NnK.mk (by omega) ?_ | refine BdK.mk (by omega) (by omega) (by omega) ?_ | refine InsK.lit (by omega) (by omega) ?_ | refine SpK.lit ?_ | refine GrdK.same ?_ | refine GrdK.tf ?_ | refine GrdK.ft ?_ | refine PickK.t ?_ | refine PickK.f ?_); (conv => whnf))
    refine Wp.cond rfl (fun _ => ?_) (fun h => by cases h)
    (conv => whnf); repeat ((first | refine RngK.mk (by omega) (by omega) ?_ | refine NzK.mk (by omega) ?_ | refine NnK.mk (by omega) ?_ | refine BdK.mk (by omega) (by omega) (by omega) ?_ | refine InsK.lit (by omega) (by omega) ?_ | refine SpK.lit ?_ | refine GrdK.same ?_ | refine GrdK.tf ?_ | refine GrdK.ft ?_ | refine PickK.t ?_ | refine PickK.f ?_); (conv => whnf))
    exact ⟨[], HSub.nil _, rfl, rfl⟩
  | true =>
    rw [hgg, Bool.true_and] at hR
    (conv => whnf); repeat ((first | refine RngK.mk (by omega) (by omega) ?_ | refine NzK.mk (by omega) ?_ | refine NnK.mk (by omega) ?_ | refine BdK.mk (by omega) (by omega) (by omega) ?_ | refine InsK.lit (by omega) (by omega) ?_ | refine SpK.lit ?_ | refine GrdK.same ?_ | refine GrdK.tf ?_ | refine GrdK.ft ?_ | refine PickK.t ?_ | refine PickK.f ?_); (conv => whnf))
    refine Wp.cond rfl (fun h => by cases h) (fun _ => ?_)
    (conv => whnf); repeat ((first | refine RngK.mk (by omega) (by omega) ?_ | refine NzK.mk (by omega) ?_ | refine NnK.mk (by omega) ?_ | refine BdK.mk (by omega) (by omega) (by omega) ?_ | refine InsK.lit (by omega) (by omega) ?_ | refine SpK.lit ?_ | refine GrdK.same ?_ | refine GrdK.tf ?_ | refine GrdK.ft ?_ | refine PickK.t ?_ | refine PickK.f ?_); (conv => whnf))
    exact ⟨k + 1, ⟨rfl, rfl, rfl, rfl, trivial⟩, HSub.refl _, ⟨by omega, hR⟩, by omega⟩
set_option maxHeartbeats 4000000 in
theorem lawStreamRead (A : Option Addr) (n c : Nat) (bs : List UInt8) (B : Option Addr) (m c' : Nat) (zs : List Int) (C : Option Addr) (q c'' : Nat) (ls : List UInt8) (D : Option Addr) (k c3 : Nat) (es : List UInt8) (e u : Addr) :
    FnS Tryd.prog 7 [.slice A n c, .slice B m c', .slice C q c'', .slice D k c3] []
      (fun w => Bytes w (blocks []) A n c bs ∧ (Rd w (blocks []) B m 1 (zs.map (.int .i64)) ∧ m ≤ c' ∧ c' ≤ maxLen ∧ ∀ z ∈ zs, (Lit.int .i64 z).wf = true) ∧ Bytes w (blocks []) C q c'' ls ∧ Bytes w (blocks []) D k c3 es ∧ Laid w (blocks []) e u) (Is (vB true)) := by
  refine FnS.introD Tryd.func7 rfl (by kernel_rfl) rfl fun w hH ⟨hp, ⟨hz, hz1, hz2, hz3⟩, hq, he, hL⟩ => ?_
  have hle := hp.le
  have hmx := hp.max
  have hle2 := hq.le
  have hmx2 := hq.max
  have hle3 := he.le
  have hmx3 := he.max
  have hz2' := hz2
  simp only [maxLen] at hmx hmx2 hmx3 hz2'
  obtain rfl : bs.length = n := hp.len
  obtain rfl : ls.length = q := hq.len
  obtain rfl : es.length = k := he.len
  obtain rfl : zs.length = m := by simpa using hz.len
  (conv => whnf); repeat ((first | refine RngK.mk (by omega) (by omega) ?_ | refine NzK.mk (by omega) ?_ | refine NnK.mk (by omega) ?_ | refine BdK.mk (by omega) (by omega) (by omega) ?_ | refine InsK.lit (by omega) (by omega) ?_ | refine SpK.lit ?_ | refine GrdK.same ?_ | refine GrdK.tf ?_ | refine GrdK.ft ?_ | refine PickK.t ?_ | refine PickK.f ?_); (conv => whnf))
  by_cases c1 : ((bs.length : Nat) : Int) > 2147483647
  · rw [decide_eq_true c1]
    (conv => whnf); repeat ((first | refine RngK.mk (by omega) (by omega) ?_ | refine NzK.mk (by omega) ?_ | refine NnK.mk (by omega) ?_ | refine BdK.mk (by omega) (by omega) (by omega) ?_ | refine InsK.lit (by omega) (by omega) ?_ | refine SpK.lit ?_ | refine GrdK.same ?_ | refine GrdK.tf ?_ | refine GrdK.ft ?_ | refine PickK.t ?_ | refine PickK.f ?_); (conv => whnf))
    refine Wp.cond rfl (fun _ => ?_) (fun h => by cases h)
    (conv => whnf); repeat ((first | refine RngK.mk (by omega) (by omega) ?_ | refine NzK.mk (by omega) ?_ | refine NnK.mk (by omega) ?_ | refine BdK.mk (by omega) (by omega) (by omega) ?_ | refine InsK.lit (by omega) (by omega) ?_ | refine SpK.lit ?_ | refine GrdK.same ?_ | refine GrdK.tf ?_ | refine GrdK.ft ?_ | refine PickK.t ?_ | refine PickK.f ?_); (conv => whnf))
    exact ⟨[], HSub.nil _, rfl, rfl⟩
  rw [decide_eq_false c1]
  (conv => whnf); repeat ((first | refine RngK.mk (by omega) (by omega) ?_ | refine NzK.mk (by omega) ?_ | refine NnK.mk (by omega) ?_ | refine BdK.mk (by omega) (by omega) (by omega) ?_ | refine InsK.lit (by omega) (by omega) ?_ | refine SpK.lit ?_ | refine GrdK.same ?_ | refine GrdK.tf ?_ | refine GrdK.ft ?_ | refine PickK.t ?_ | refine PickK.f ?_); (conv => whnf))
  by_cases c2 : ((zs.length : Nat) : Int) > 2147483647
  · rw [decide_eq_true c2]
    (conv => whnf); repeat ((first | refine RngK.mk (by omega) (by omega) ?_ | refine NzK.mk (by omega) ?_ | refine NnK.mk (by omega) ?_ | refine BdK.mk (by omega) (by omega) (by omega) ?_ | refine InsK.lit (by omega) (by omega) ?_ | refine SpK.lit ?_ | refine GrdK.same ?_ | refine GrdK.tf ?_ | refine GrdK.ft ?_ | refine PickK.t ?_ | refine PickK.f ?_); (conv => whnf))
    refine Wp.cond rfl (fun _ => ?_) (fun h => by cases h)
    (conv => whnf); repeat ((first | refine RngK.mk (by omega) (by omega) ?_ | refine NzK.mk (by omega) ?_ | refine NnK.mk (by omega) ?_ | refine BdK.mk (by omega) (by omega) (by omega) ?_ | refine InsK.lit (by omega) (by omega) ?_ | refine SpK.lit ?_ | refine GrdK.same ?_ | refine GrdK.tf ?_ | refine GrdK.ft ?_ | refine PickK.t ?_ | refine PickK.f ?_); (conv => whnf))
    exact ⟨[], HSub.nil _, rfl, rfl⟩
  rw [decide_eq_false c2]
  (conv => whnf); repeat ((first | refine RngK.mk (by omega) (by omega) ?_ | refine NzK.mk (by omega) ?_ | refine NnK.mk (by omega) ?_ | refine BdK.mk (by omega) (by omega) (by omega) ?_ | refine InsK.lit (by omega) (by omega) ?_ | refine SpK.lit ?_ | refine GrdK.same ?_ | refine GrdK.tf ?_ | refine GrdK.ft ?_ | refine PickK.t ?_ | refine PickK.f ?_); (conv => whnf))
  by_cases c4 : ((ls.length : Nat) : Int) > 2147483647
  · rw [decide_eq_true c4]
    (conv => whnf); repeat ((first | refine RngK.mk (by omega) (by omega) ?_ | refine NzK.mk (by omega) ?_ | refine NnK.mk (by omega) ?_ | refine BdK.mk (by omega) (by omega) (by omega) ?_ | refine InsK.lit (by omega) (by omega) ?_ | refine SpK.lit ?_ | refine GrdK.same ?_ | refine GrdK.tf ?_ | refine GrdK.ft ?_ | refine PickK.t ?_ | refine PickK.f ?_); (conv => whnf))
    refine Wp.cond rfl (fun _ => ?_) (fun h => by cases h)
    (conv => whnf); repeat ((first | refine RngK.mk (by omega) (by omega) ?_ | refine NzK.mk (by omega) ?_ | refine NnK.mk (by omega) ?_ | refine BdK.mk (by omega) (by omega) (by omega) ?_ | refine InsK.lit (by omega) (by omega) ?_ | refine SpK.lit ?_ | refine GrdK.same ?_ | refine GrdK.tf ?_ | refine GrdK.ft ?_ | refine PickK.t ?_ | refine PickK.f ?_); (conv => whnf))
    exact ⟨[], HSub.nil _, rfl, rfl⟩
  rw [decide_eq_false c4]
  (conv => whnf); repeat ((first | refine RngK.mk (by omega) (by omega) ?_ | refine NzK.mk (by omega) ?_ | refine NnK.mk (by omega) ?_ | refine BdK.mk (by omega) (by omega) (by omega) ?_ | refine InsK.lit (by omega) (by omega) ?_ | refine SpK.lit ?_ | refine GrdK.same ?_ | refine GrdK.tf ?_ | refine GrdK.ft ?_ | refine PickK.t ?_ | refine PickK.f ?_); (conv => whnf))
  by_cases c5 : ((es.length : Nat) : Int) > 2147483647
  · rw [decide_eq_true c5]
    refine Wp.cond rfl (fun _ => ?_) (fun h => by cases h)
    (conv => whnf); repeat ((first | refine RngK.mk (by omega) (by omega) ?_ | refine NzK.mk (by omega) ?_ | refine NnK.mk (by omega) ?_ | refine BdK.mk (by omega) (by omega) (by omega) ?_ | refine InsK.lit (by omega) (by omega) ?_ | refine SpK.lit ?_ | refine GrdK.same ?_ | refine GrdK.tf ?_ | refine GrdK.ft ?_ | refine PickK.t ?_ | refine PickK.f ?_); (conv => whnf))
    exact ⟨[], HSub.nil _, rfl, rfl⟩
  rw [decide_eq_false c5]
  refine Wp.cond rfl (fun h => by cases h) (fun _ => ?_)
  (conv => whnf); repeat ((first | refine RngK.mk (by omega) (by omega) ?_ | refine NzK.mk (by omega) ?_ | refine NnK.mk (by omega) ?_ | refine BdK.mk (by omega) (by omega) (by omega) ?_ | refine InsK.lit (by omega) (by omega) ?_ | refine SpK.lit ?_ | refine GrdK.same ?_ | refine GrdK.tf ?_ | refine GrdK.ft ?_ | refine PickK.t ?_ | refine PickK.f ?_); (conv => whnf))
  refine EffK.litV rfl rfl rfl rfl rfl rfl rfl rfl rfl ?_
  (conv => whnf); repeat ((first | refine RngK.mk (by omega) (by omega) ?_ | refine NzK.mk (by omega) ?_ | refine NnK.mk (by omega) ?_ | refine BdK.mk (by omega) (by omega) (by omega) ?_ | refine InsK.lit (by omega) (by omega) ?_ | refine SpK.lit ?_ | refine GrdK.same ?_ | refine GrdK.tf ?_ | refine GrdK.ft ?_ | refine PickK.t ?_ | refine PickK.f ?_); (conv => whnf))
  intro b1
  (conv => whnf); repeat ((first | refine RngK.mk (by omega) (by omega) ?_ | refine NzK.mk (by omega) ?_ | refine NnK.mk (by omega) ?_ | refine BdK.mk (by omega) (by omega) (by omega) ?_ | refine InsK.lit (by omega) (by omega) ?_ | refine SpK.lit ?_ | refine GrdK.same ?_ | refine GrdK.tf ?_ | refine GrdK.ft ?_ | refine PickK.t ?_ | refine PickK.f ?_); (conv => whnf))
  refine CallK.of [] (tooLong_spec (some ⟨b1, 0, none⟩) 4 4 [(bs.length : Int), (zs.length : Int), (ls.length : Int), (es.length : Int)] (by intro x hx; simp only [List.mem_cons, List.not_mem_nil, or_false] at hx; omega)) rfl (fun w hw => ⟨Rd.ofOwn hw 0 rfl, by decide⟩) ?_
  rintro _ _ ⟨rfl, rfl⟩
  rw [tooLong_4]
  (conv => whnf); repeat ((first | refine RngK.mk (by omega) (by omega) ?_ | refine NzK.mk (by omega) ?_ | refine NnK.mk (by omega) ?_ | refine BdK.mk (by omega) (by omega) (by omega) ?_ | refine InsK.lit (by omega) (by omega) ?_ | refine SpK.lit ?_ | refine GrdK.same ?_ | refine GrdK.tf ?_ | refine GrdK.ft ?_ | refine PickK.t ?_ | refine PickK.f ?_); (conv => whnf))
  refine Wp.cond rfl (fun g2 => ?_) (fun g2 => ?_)
  · (conv => whnf); repeat ((first | refine RngK.mk (by omega) (by omega) ?_ | refine NzK.mk (by omega) ?_ | refine NnK.mk (by omega) ?_ | refine BdK.mk (by omega) (by omega) (by omega) ?_ | refine InsK.lit (by omega) (by omega) ?_ | refine SpK.lit ?_ | refine GrdK.same ?_ | refine GrdK.tf ?_ | refine GrdK.ft ?_ | refine PickK.t ?_ | refine PickK.f ?_); (conv => whnf))
    exact ⟨[], HSub.nil _, rfl, rfl⟩
  have g2 := dF g2
  have hn1 : bs.length ≤ 1000000 := by omega
  have hn2 : zs.length ≤ 1000000 := by omega
  have hn3 : ls.length ≤ 1000000 := by omega
  have hn4 : es.length ≤ 1000000 := by omega
  have hn5 : bs.length + ls.length + es.length ≤ 1000000 := by omega
  clear g2 c1 c2 c4 c5
  (conv => whnf); repeat ((first | refine RngK.mk (by omega) (by omega) ?_ | refine NzK.mk (by omega) ?_ | refine NnK.mk (by omega) ?_ | refine BdK.mk (by omega) (by omega) (by omega) ?_ | refine InsK.lit (by omega) (by omega) ?_ | refine SpK.lit ?_ | refine GrdK.same ?_ | refine GrdK.tf ?_ | refine GrdK.ft ?_ | refine PickK.t ?_ | refine PickK.f ?_); (conv => whnf))
  refine CallK.of [] (whole_spec B zs.length c' zs hn2 rfl) rfl (fun w hw => hz.pass hw) ?_
  cases hwz : wholeZ zs with
  | none =>
    rintro _ _ ⟨rfl, rfl⟩
    (conv => whnf); repeat ((first | refine RngK.mk (by omega) (by omega) ?_ | refine NzK.mk (by omega) ?_ | refine NnK.mk (by omega) ?_ | refine BdK.mk (by omega) (by omega) (by omega) ?_ | refine InsK.lit (by omega) (by omega) ?_ | refine SpK.lit ?_ | refine GrdK.same ?_ | refine GrdK.tf ?_ | refine GrdK.ft ?_ | refine PickK.t ?_ | refine PickK.f ?_); (conv => whnf))
    refine Wp.cond rfl (fun _ => ?_) (fun h => by cases h)
    (conv => whnf); repeat ((first | refine RngK.mk (by omega) (by omega) ?_ | refine NzK.mk (by omega) ?_ | refine NnK.mk (by omega) ?_ | refine BdK.mk (by omega) (by omega) (by omega) ?_ | refine InsK.lit (by omega) (by omega) ?_ | refine SpK.lit ?_ | refine GrdK.same ?_ | refine GrdK.tf ?_ | refine GrdK.ft ?_ | refine PickK.t ?_ | refine PickK.f ?_); (conv => whnf))
    refine CallK.of [] (coded_spec e u) rfl (fun w hw => hL.pass hw) ?_
    rintro _ _ ⟨rfl, rfl⟩
    (conv => whnf); repeat ((first | refine RngK.mk (by omega) (by omega) ?_ | refine NzK.mk (by omega) ?_ | refine NnK.mk (by omega) ?_ | refine BdK.mk (by omega) (by omega) (by omega) ?_ | refine InsK.lit (by omega) (by omega) ?_ | refine SpK.lit ?_ | refine GrdK.same ?_ | refine GrdK.tf ?_ | refine GrdK.ft ?_ | refine PickK.t ?_ | refine PickK.f ?_); (conv => whnf))
    exact ⟨[], HSub.nil _, rfl, rfl⟩
  | some r =>
  obtain ⟨all, b⟩ := r
  rintro _ _ ⟨A1, c1, rfl, rfl⟩
  obtain ⟨hall, hwn⟩ := wholeZ_some hwz
  have hW := wholeN_facts hwn
  have hal : all.length = zs.length + 1 := by rw [hW.al, List.length_append, toN_len]; rfl
  (conv => whnf); repeat ((first | refine RngK.mk (by omega) (by omega) ?_ | refine NzK.mk (by omega) ?_ | refine NnK.mk (by omega) ?_ | refine BdK.mk (by omega) (by omega) (by omega) ?_ | refine InsK.lit (by omega) (by omega) ?_ | refine SpK.lit ?_ | refine GrdK.same ?_ | refine GrdK.tf ?_ | refine GrdK.ft ?_ | refine PickK.t ?_ | refine PickK.f ?_); (conv => whnf))
  by_cases c3 : ((all.length : Nat) : Int) > 256
  · rw [decide_eq_true c3]
    refine Wp.cond rfl (fun _ => ?_) (fun h => by cases h)
    (conv => whnf); repeat ((first | refine RngK.mk (by omega) (by omega) ?_ | refine NzK.mk (by omega) ?_ | refine NnK.mk (by omega) ?_ | refine BdK.mk (by omega) (by omega) (by omega) ?_ | refine InsK.lit (by omega) (by omega) ?_ | refine SpK.lit ?_ | refine GrdK.same ?_ | refine GrdK.tf ?_ | refine GrdK.ft ?_ | refine PickK.t ?_ | refine PickK.f ?_); (conv => whnf))
    refine CallK.of [] (coded_spec e u) rfl (fun w hw => hL.pass hw) ?_
    rintro _ _ ⟨rfl, rfl⟩
    (conv => whnf); repeat ((first | refine RngK.mk (by omega) (by omega) ?_ | refine NzK.mk (by omega) ?_ | refine NnK.mk (by omega) ?_ | refine BdK.mk (by omega) (by omega) (by omega) ?_ | refine InsK.lit (by omega) (by omega) ?_ | refine SpK.lit ?_ | refine GrdK.same ?_ | refine GrdK.tf ?_ | refine GrdK.ft ?_ | refine PickK.t ?_ | refine PickK.f ?_); (conv => whnf))
    exact ⟨[], HSub.nil _, rfl, rfl⟩
  rw [decide_eq_false c3]
  refine Wp.cond rfl (fun h => by cases h) (fun _ => ?_)
  have hT := hW.tb (by omega)
  have htl := hT.len
  have hb1 := hT.b1
  have h2b : 2 ^ b ≤ 2 ^ 11 := Nat.pow_le_pow_right (by omega) hb1
  (conv => whnf); repeat ((first | refine RngK.mk (by omega) (by omega) ?_ | refine NzK.mk (by omega) ?_ | refine NnK.mk (by omega) ?_ | refine BdK.mk (by omega) (by omega) (by omega) ?_ | refine InsK.lit (by omega) (by omega) ?_ | refine SpK.lit ?_ | refine GrdK.same ?_ | refine GrdK.tf ?_ | refine GrdK.ft ?_ | refine PickK.t ?_ | refine PickK.f ?_); (conv => whnf))
  refine CallK.of [] (codeTable_spec A1 c1 _ all b hW (by omega)) rfl (fun w hw => Rd.ofOwn hw 0 rfl) ?_
  rintro _ _ ⟨A3, c4, rfl, rfl⟩
  (conv => whnf); repeat ((first | refine RngK.mk (by omega) (by omega) ?_ | refine NzK.mk (by omega) ?_ | refine NnK.mk (by omega) ?_ | refine BdK.mk (by omega) (by omega) (by omega) ?_ | refine InsK.lit (by omega) (by omega) ?_ | refine SpK.lit ?_ | refine GrdK.same ?_ | refine GrdK.tf ?_ | refine GrdK.ft ?_ | refine PickK.t ?_ | refine PickK.f ?_); (conv => whnf))
  obtain ⟨Tab, hTab⟩ : ∃ Tab, tabC all b b = Tab := ⟨_, rfl⟩
  rw [hTab] at hT htl ⊢
  refine CallK.of [] (has_spec A3 Tab.length c4 b Tab C ls.length c'' ls hT rfl hn3) rfl (fun w hw => ⟨Rd.ofOwn hw 0 rfl, hq.pass hw⟩) ?_
  rintro _ _ ⟨rfl, rfl⟩
  cases hhas : hasA Tab ls with
  | false =>
    (conv => whnf); repeat ((first | refine RngK.mk (by omega) (by omega) ?_ | refine NzK.mk (by omega) ?_ | refine NnK.mk (by omega) ?_ | refine BdK.mk (by omega) (by omega) (by omega) ?_ | refine InsK.lit (by omega) (by omega) ?_ | refine SpK.lit ?_ | refine GrdK.same ?_ | refine GrdK.tf ?_ | refine GrdK.ft ?_ | refine PickK.t ?_ | refine PickK.f ?_); (conv => whnf))
    refine Wp.cond rfl (fun _ => ?_) (fun h => by cases h)
    (conv => whnf); repeat ((first | refine RngK.mk (by omega) (by omega) ?_ | refine NzK.mk (by omega) ?_ | refine NnK.mk (by omega) ?_ | refine BdK.mk (by omega) (by omega) (by omega) ?_ | refine InsK.lit (by omega) (by omega) ?_ | refine SpK.lit ?_ | refine GrdK.same ?_ | refine GrdK.tf ?_ | refine GrdK.ft ?_ | refine PickK.t ?_ | refine PickK.f ?_); (conv => whnf))
    refine CallK.of [] (coded_spec e u) rfl (fun w hw => hL.pass hw) ?_
    rintro _ _ ⟨rfl, rfl⟩
    (conv => whnf); repeat ((first | refine RngK.mk (by omega) (by omega) ?_ | refine NzK.mk (by omega) ?_ | refine NnK.mk (by omega) ?_ | refine BdK.mk (by omega) (by omega) (by omega) ?_ | refine InsK.lit (by omega) (by omega) ?_ | refine SpK.lit ?_ | refine GrdK.same ?_ | refine GrdK.tf ?_ | refine GrdK.ft ?_ | refine PickK.t ?_ | refine PickK.f ?_); (conv => whnf))
    exact ⟨[], HSub.nil _, rfl, rfl⟩
  | true =>
  (conv => whnf); repeat ((first | refine RngK.mk (by omega) (by omega) ?_ | refine NzK.mk (by omega) ?_ | refine NnK.mk (by omega) ?_ | refine BdK.mk (by omega) (by omega) (by omega) ?_ | refine InsK.lit (by omega) (by omega) ?_ | refine SpK.lit ?_ | refine GrdK.same ?_ | refine GrdK.tf ?_ | refine GrdK.ft ?_ | refine PickK.t ?_ | refine PickK.f ?_); (conv => whnf))
  by_cases c5 : ls.length = 0
  · rw [show (((ls.length : Nat) : Int) == 0) = true by rw [c5]; rfl]
    (conv => whnf); repeat ((first | refine RngK.mk (by omega) (by omega) ?_ | refine NzK.mk (by omega) ?_ | refine NnK.mk (by omega) ?_ | refine BdK.mk (by omega) (by omega) (by omega) ?_ | refine InsK.lit (by omega) (by omega) ?_ | refine SpK.lit ?_ | refine GrdK.same ?_ | refine GrdK.tf ?_ | refine GrdK.ft ?_ | refine PickK.t ?_ | refine PickK.f ?_); (conv => whnf))
    refine Wp.cond rfl (fun _ => ?_) (fun h => by cases h)
    (conv => whnf); repeat ((first | refine RngK.mk (by omega) (by omega) ?_ | refine NzK.mk (by omega) ?_ | refine NnK.mk (by omega) ?_ | refine BdK.mk (by omega) (by omega) (by omega) ?_ | refine InsK.lit (by omega) (by omega) ?_ | refine SpK.lit ?_ | refine GrdK.same ?_ | refine GrdK.tf ?_ | refine GrdK.ft ?_ | refine PickK.t ?_ | refine PickK.f ?_); (conv => whnf))
    refine CallK.of [] (coded_spec e u) rfl (fun w hw => hL.pass hw) ?_
    rintro _ _ ⟨rfl, rfl⟩
    (conv => whnf); repeat ((first | refine RngK.mk (by omega) (by omega) ?_ | refine NzK.mk (by omega) ?_ | refine NnK.mk (by omega) ?_ | refine BdK.mk (by omega) (by omega) (by omega) ?_ | refine InsK.lit (by omega) (by omega) ?_ | refine SpK.lit ?_ | refine GrdK.same ?_ | refine GrdK.tf ?_ | refine GrdK.ft ?_ | refine PickK.t ?_ | refine PickK.f ?_); (conv => whnf))
    exact ⟨[], HSub.nil _, rfl, rfl⟩
  rw [show (((ls.length : Nat) : Int) == 0) = false from beq_eq_false_iff_ne.2 (by omega)]
  (conv => whnf); repeat ((first | refine RngK.mk (by omega) (by omega) ?_ | refine NzK.mk (by omega) ?_ | refine NnK.mk (by omega) ?_ | refine BdK.mk (by omega) (by omega) (by omega) ?_ | refine InsK.lit (by omega) (by omega) ?_ | refine SpK.lit ?_ | refine GrdK.same ?_ | refine GrdK.tf ?_ | refine GrdK.ft ?_ | refine PickK.t ?_ | refine PickK.f ?_); (conv => whnf))
  by_cases c6 : ((bs.length : Nat) : Int) < 2
  · rw [decide_eq_true c6]
    refine Wp.cond rfl (fun _ => ?_) (fun h => by cases h)
    (conv => whnf); repeat ((first | refine RngK.mk (by omega) (by omega) ?_ | refine NzK.mk (by omega) ?_ | refine NnK.mk (by omega) ?_ | refine BdK.mk (by omega) (by omega) (by omega) ?_ | refine InsK.lit (by omega) (by omega) ?_ | refine SpK.lit ?_ | refine GrdK.same ?_ | refine GrdK.tf ?_ | refine GrdK.ft ?_ | refine PickK.t ?_ | refine PickK.f ?_); (conv => whnf))
    refine CallK.of [] (coded_spec e u) rfl (fun w hw => hL.pass hw) ?_
    rintro _ _ ⟨rfl, rfl⟩
    (conv => whnf); repeat ((first | refine RngK.mk (by omega) (by omega) ?_ | refine NzK.mk (by omega) ?_ | refine NnK.mk (by omega) ?_ | refine BdK.mk (by omega) (by omega) (by omega) ?_ | refine InsK.lit (by omega) (by omega) ?_ | refine SpK.lit ?_ | refine GrdK.same ?_ | refine GrdK.tf ?_ | refine GrdK.ft ?_ | refine PickK.t ?_ | refine PickK.f ?_); (conv => whnf))
    exact ⟨[], HSub.nil _, rfl, rfl⟩
  rw [decide_eq_false c6]
  refine Wp.cond rfl (fun h => by cases h) (fun _ => ?_)
  (conv => whnf); repeat ((first | refine RngK.mk (by omega) (by omega) ?_ | refine NzK.mk (by omega) ?_ | refine NnK.mk (by omega) ?_ | refine BdK.mk (by omega) (by omega) (by omega) ?_ | refine InsK.lit (by omega) (by omega) ?_ | refine SpK.lit ?_ | refine GrdK.same ?_ | refine GrdK.tf ?_ | refine GrdK.ft ?_ | refine PickK.t ?_ | refine PickK.f ?_); (conv => whnf))
  refine CallK.of [] (writeStream_spec A3 Tab.length c4 b Tab C ls.length c'' ls hT rfl hn3) rfl (fun w hw => ⟨Rd.ofOwn hw 0 rfl, hq.pass hw⟩) ?_
  rintro _ _ ⟨s, A5, c5, rfl, rfl, hsl, hsn⟩
  have hwl := wrB_len (fun x hx => (hT.mem x hx).2.2) ls
  have hmul : ls.length * b ≤ 1000000 * 11 := Nat.mul_le_mul hn3 hb1
  have hone := oneI_wr hT (a := bs) (c := es) (by omega) hhas hsl hsn
  have hsb : s.length ≤ 2000000 := by omega
  have hs1 : 1 ≤ s.length := by omega
  clear hsl hsn hwl hmul
  (conv => whnf); repeat ((first | refine RngK.mk (by omega) (by omega) ?_ | refine NzK.mk (by omega) ?_ | refine NnK.mk (by omega) ?_ | refine BdK.mk (by omega) (by omega) (by omega) ?_ | refine InsK.lit (by omega) (by omega) ?_ | refine SpK.lit ?_ | refine GrdK.same ?_ | refine GrdK.tf ?_ | refine GrdK.ft ?_ | refine PickK.t ?_ | refine PickK.f ?_); (conv => whnf))
  refine EffK.lit0 rfl rfl fun b2 => ?_
  (conv => whnf); repeat ((first | refine RngK.mk (by omega) (by omega) ?_ | refine NzK.mk (by omega) ?_ | refine NnK.mk (by omega) ?_ | refine BdK.mk (by omega) (by omega) (by omega) ?_ | refine InsK.lit (by omega) (by omega) ?_ | refine SpK.lit ?_ | refine GrdK.same ?_ | refine GrdK.tf ?_ | refine GrdK.ft ?_ | refine PickK.t ?_ | refine PickK.f ?_); (conv => whnf))
  refine EffK.append 0 (news := bs.map vU8) rfl rfl rfl rfl rfl rfl rfl rfl (Src.rd hp.rd) vU8_one (by simp [maxLen]; omega) (by show (_ + _) * 1 ≤ _; omega) fun A6 c6 => ?_
  (conv => whnf); repeat ((first | refine RngK.mk (by omega) (by omega) ?_ | refine NzK.mk (by omega) ?_ | refine NnK.mk (by omega) ?_ | refine BdK.mk (by omega) (by omega) (by omega) ?_ | refine InsK.lit (by omega) (by omega) ?_ | refine SpK.lit ?_ | refine GrdK.same ?_ | refine GrdK.tf ?_ | refine GrdK.ft ?_ | refine PickK.t ?_ | refine PickK.f ?_); (conv => whnf))
  refine EffK.append 0 (news := s.map vU8) rfl rfl rfl rfl rfl rfl rfl rfl (Src.ownW (k := 1) (sz := 1) rfl (by simp)) vU8_one (by simp [maxLen]; omega) (by show (_ + _) * 1 ≤ _; omega) fun A7 c7 => ?_
  (conv => whnf); repeat ((first | refine RngK.mk (by omega) (by omega) ?_ | refine NzK.mk (by omega) ?_ | refine NnK.mk (by omega) ?_ | refine BdK.mk (by omega) (by omega) (by omega) ?_ | refine InsK.lit (by omega) (by omega) ?_ | refine SpK.lit ?_ | refine GrdK.same ?_ | refine GrdK.tf ?_ | refine GrdK.ft ?_ | refine PickK.t ?_ | refine PickK.f ?_); (conv => whnf))
  refine EffK.append 0 (news := es.map vU8) rfl rfl rfl rfl rfl rfl rfl rfl (Src.rd he.rd) vU8_one (by simp [maxLen]; omega) (by show (_ + _) * 1 ≤ _; omega) fun A8 c8 => ?_
  have ed : [] ++ bs.map vU8 ++ s.map vU8 ++ es.map vU8 = (bs ++ s ++ es).map vU8 := by simp [List.append_assoc]
  have el : 0 + bs.length + s.length + es.length = (bs ++ s ++ es).length := by simp; omega
  rw [ed, el]
  have hDl : (bs ++ s ++ es).length = bs.length + s.length + es.length := by simp; omega
  obtain ⟨E, hE⟩ : ∃ E, bs ++ s ++ es = E := ⟨_, rfl⟩
  rw [hE] at hDl hone ⊢
  (conv => whnf); repeat ((first | refine RngK.mk (by omega) (by omega) ?_ | refine NzK.mk (by omega) ?_ | refine NnK.mk (by omega) ?_ | refine BdK.mk (by omega) (by omega) (by omega) ?_ | refine InsK.lit (by omega) (by omega) ?_ | refine SpK.lit ?_ | refine GrdK.same ?_ | refine GrdK.tf ?_ | refine GrdK.ft ?_ | refine PickK.t ?_ | refine PickK.f ?_); (conv => whnf))
  have hi1 := implOne_spec A8 E.length c8 E e u bs.length s.length ls.length A3 Tab.length c4 b Tab (by omega) (by omega) (by omega) (by omega) hT hn3 rfl
  rw [hone] at hi1
  refine CallK.of [] hi1 rfl (fun w hw => ⟨⟨Bytes.ofOwn hw 0 rfl, hL.pass hw⟩, Rd.ofOwn hw 2 rfl⟩) ?_
  rintro _ _ ⟨A9, c9, rfl, rfl⟩
  (conv => whnf); repeat ((first | refine RngK.mk (by omega) (by omega) ?_ | refine NzK.mk (by omega) ?_ | refine NnK.mk (by omega) ?_ | refine BdK.mk (by omega) (by omega) (by omega) ?_ | refine InsK.lit (by omega) (by omega) ?_ | refine SpK.lit ?_ | refine GrdK.same ?_ | refine GrdK.tf ?_ | refine GrdK.ft ?_ | refine PickK.t ?_ | refine PickK.f ?_); (conv => whnf))
  refine CallK.of [] (sameBytes_spec A9 C ls.length ls.length c9 c'' ls ls) rfl (fun w hw => ⟨Rd.ofOwn hw 0 rfl, (hq.pass hw).rd, by simp [maxLen]; omega⟩) ?_
  rintro _ _ ⟨rfl, rfl⟩
  rw [decide_eq_true (rfl : ls = ls)]
  (conv => whnf); repeat ((first | refine RngK.mk (by omega) (by omega) ?_ | refine NzK.mk (by omega) ?_ | refine NnK.mk (by omega) ?_ | refine BdK.mk (by omega) (by omega) (by omega) ?_ | refine InsK.lit (by omega) (by omega) ?_ | refine SpK.lit ?_ | refine GrdK.same ?_ | refine GrdK.tf ?_ | refine GrdK.ft ?_ | refine PickK.t ?_ | refine PickK.f ?_); (conv => whnf))
  exact ⟨[], HSub.nil _, rfl, rfl⟩
end Go.Proofs.YtgdhdkjbilifiaaDoor
