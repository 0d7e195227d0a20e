/- The reference's writer of counts. -/
import Derived.Test.YtccmihdpgpgbaaaDoorSdV
namespace Go.Proofs.YtccmihdpgpgbaaaDoor
open Go Go.Sx
set_option maxRecDepth 100000
theorem CallK.nil {P : Program} {w0 : World} {W : Nat → Prop} {H : Hp} (e : TypeId) (sz : Nat) {f : FuncId} {args : List Value} {K : Value → Hp → Prop} (h : CallK P w0 W (.own none 0 0 e sz [] :: H) f args K) : CallK P w0 W H f args K := ⟨fun w hw => h.ex w (hw.nilOwn e sz)⟩
theorem wrS_someH (left : Nat) : ∀ (zs : List Int) (k : Nat), ∃ q r, zs = List.replicate q 0 ++ r ∧ wrS (some k) left zs = flagP (k + q) ++ wrS none left r ∧ ∀ y r2, r = y :: r2 → y ≠ 0
  | [], k => ⟨0, [], rfl, by simp [wrS], fun y r2 h => by cases h⟩
  | z :: r, k => by
    by_cases hz : z = 0
    · subst hz
      obtain ⟨q, r', h1, h2, h3⟩ := wrS_someH left r (k + 1)
      refine ⟨q + 1, r', by rw [h1]; rfl, ?_, h3⟩
      rw [wrS, if_pos rfl, h2]
      congr 2
      omega
    · exact ⟨0, z :: r, rfl, by rw [wrS, wrS, if_neg hz, Nat.add_zero, if_neg hz], fun y r2 h => by injection h with h _; rw [← h]; exact hz⟩
theorem lenB_wrS : ∀ (zs : List Int) (o : Option Nat) (left : Nat), left ≤ 512 → lenB (wrS o left zs) ≤ 13 * zs.length + (match o with | none => 0 | some k => k + 2)
  | [], none, _, _ => by simp [wrS, lenB]
  | [], some k, _, _ => by
    rw [wrS, lenB_flagP]
    simp
    omega
  | z :: r, o, left, hl => by
    have hw : wd (left + 1) ≤ 10 := wd_lt (by omega)
    have hp : (piece left z).1 ≤ 10 := by
      unfold piece
      split
      · dsimp only; omega
      · split <;> (dsimp only; omega)
    have base : lenB (if left = 0 then [] else piece left z :: (if z = 0 then wrS (some 0) left r else wrS none (left - rN z) r)) ≤ 13 * r.length + 12 := by
      split
      · simp [lenB]
      · rw [lenB_cons]
        split
        · have := lenB_wrS r (some 0) left hl
          simp only at this
          omega
        · have := lenB_wrS r none (left - rN z) (by omega)
          simp only at this
          omega
    rw [List.length_cons]
    cases o with
    | none =>
      rw [wrS]
      simp only
      omega
    | some k =>
      rw [wrS]
      simp only
      split
      · have := lenB_wrS r (some (k + 1)) left hl
        simp only at this
        omega
      · rename_i hz0
        rw [if_neg hz0] at base
        rw [lenB_append, lenB_flagP]
        omega
theorem nz_of {zs : List Int} {b : Int} (h : fillsN zs b = true) : NZ zs := by
  unfold fillsN at h
  split at h
  · cases h
  · rename_i hn
    intro z hz
    rw [List.getLast?_eq_getElem?] at hz
    rw [List.getD_eq_getElem?_getD, hz] at hn
    intro h0
    subst h0
    exact hn (.inr (.inr (.inr (.inr rfl))))
structure WS where
  s : Nat
  left : Nat
  ps : List (Nat × Nat)
  D : Option Addr
  c : Nat
  bs : List UInt8
structure WI (zs : List Int) (ALL : List (Nat × Nat)) (b : Nat) (s : WS) : Prop where
  all : s.ps ++ wrS none s.left (zs.drop s.s) = ALL
  sm : Small s.ps
  len : s.bs.length = (lenB s.ps + 7) / 8
  nm : num s.bs = enc s.ps
  sl : s.s ≤ zs.length
  su : sumR (zs.drop s.s) = s.left
  nz : NZ (zs.drop s.s)
  le : s.left ≤ 2 ^ b
theorem put_enc {ps : List (Nat × Nat)} {m v : Nat} (h : v < 2 ^ m) {V : Nat} (hV : V = enc ps) : V + (v % 2 ^ m) * 2 ^ lenB ps = enc (ps ++ [(m, v)]) ∧ lenB ps + m = lenB (ps ++ [(m, v)]) := by
  subst hV
  rw [enc_append, lenB_append, Nat.mod_eq_of_lt h]
  simp [enc, lenB, Nat.mul_comm]
theorem small_snoc {ps : List (Nat × Nat)} {x : Nat × Nat} (h : Small ps) (hx : x.2 < 2 ^ x.1) : Small (ps ++ [x]) := by
  intro y hy
  rcases List.mem_append.1 hy with hy | hy
  · exact h y hy
  · rcases List.mem_singleton.1 hy with rfl
    exact hx
theorem putE_spec (b : Nat) (D : Option Addr) (dc : Nat) (bs : List UInt8) (ps : List (Nat × Nat)) (m v : Nat) (hm : m ≤ 40) (hv : v < 2 ^ m) (ht : lenB ps ≤ 1000000000) (hl : bs.length = (lenB ps + 7) / 8) (hn : num bs = enc ps) (hs : Small ps) :
    FnS Tryd.prog 24 [.pointer (some ⟨b, 0, none⟩), vN m, vN v] (wrH b D dc bs (lenB ps)) (fun _ => True)
      (fun u H => u = .tuple #[] ∧ ∃ D' dc' bs', bs'.length = (lenB (ps ++ [(m, v)]) + 7) / 8 ∧ num bs' = enc (ps ++ [(m, v)]) ∧ H = wrH b D' dc' bs' (lenB (ps ++ [(m, v)]))) := by
  have h40 : 2 ^ m ≤ 2 ^ 40 := Nat.pow_le_pow_right (by omega) hm
  refine (put_spec b D dc bs (lenB ps) m v hm (by omega) ht hl (by rw [hn]; exact enc_lt hs)).mono (fun _ h => h) ?_
  rintro u H ⟨h1, D', dc', bs', h2, h3, h4⟩
  obtain ⟨e1, e2⟩ := put_enc (ps := ps) hv hn
  rw [e2] at h2 h4
  rw [e1] at h3
  exact ⟨h1, D', dc', bs', h2, h3, h4⟩
theorem write_spec (A : Option Addr) (n c b : Nat) (zs : List Int) (hc : Counts zs b) (hs : (zs.map rN).sum = 2 ^ b) (hnz : NZ zs) :
    FnS Tryd.prog 15 [.slice A n c, vN b] [] (fun w => Rd w (blocks []) A n 1 (zs.map vI))
      (fun v H => ∃ A1 c1 bs, v = .slice A1 bs.length c1 ∧ H = [.own A1 bs.length c1 5 1 (bs.map vU8)] ∧ bs.length = (lenB ((4, b - 5) :: wrS none (2 ^ b) zs) + 7) / 8 ∧ num bs = enc ((4, b - 5) :: wrS none (2 ^ b) zs)) := by
  refine FnS.introD Tryd.func15 rfl (by kernel_rfl) rfl fun w hH hp => ?_
  obtain ⟨hM1, hM2⟩ := hc.M
  have b5 := hc.b5
  have b9 := hc.b9
  have hlen := hc.len
  have hlim := hc.lim
  obtain rfl : zs.length = n := by simpa using hp.len
  have e0 : ∀ x : Nat, x ≤ 10 → ishl .i64 1 (x : Int) = ((2 ^ x : Nat) : Int) := fun x hx => by
    have hx9 : 2 ^ x ≤ 2 ^ 10 := Nat.pow_le_pow_right (by omega) hx
    have := ishl_i64 (x := 1) (n := x) (by omega) (by omega)
    rw [Nat.one_mul] at this
    exact this
  obtain ⟨ALL, hALL⟩ : ∃ ALL, (4, b - 5) :: wrS none (2 ^ b) zs = ALL := ⟨_, rfl⟩
  have hAl : lenB ALL ≤ 4000 := by
    rw [← hALL, lenB_cons]
    have := lenB_wrS zs none (2 ^ b) hM2
    simp only at this ⊢
    omega
  rw [hALL]
  (conv => whnf); repeat ((first | refine RngK.mk (by omega) (by omega) ?_ | refine NzK.mk (by omega) ?_ | refine NnK.mk (by omega) ?_ | refine BdK.mk (by omega) (by omega) (by omega) ?_ | refine InsK.lit (by omega) (by omega) ?_ | refine SpK.lit ?_ | refine GrdK.same ?_ | refine GrdK.tf ?_ | refine GrdK.ft ?_ | refine PickK.t ?_ | refine PickK.f ?_); (conv => whnf))
  refine ValK.build rfl ?_
  (conv => whnf); repeat ((first | refine RngK.mk (by omega) (by omega) ?_ | refine NzK.mk (by omega) ?_ | refine NnK.mk (by omega) ?_ | refine BdK.mk (by omega) (by omega) (by omega) ?_ | refine InsK.lit (by omega) (by omega) ?_ | refine SpK.lit ?_ | refine GrdK.same ?_ | refine GrdK.tf ?_ | refine GrdK.ft ?_ | refine PickK.t ?_ | refine PickK.f ?_); (conv => whnf))
  intro b5'
  have ebb : ((b : Nat) : Int) - 5 = ((b - 5 : Nat) : Int) := by omega
  (conv => whnf); repeat ((first | refine RngK.mk (by omega) (by omega) ?_ | refine NzK.mk (by omega) ?_ | refine NnK.mk (by omega) ?_ | refine BdK.mk (by omega) (by omega) (by omega) ?_ | refine InsK.lit (by omega) (by omega) ?_ | refine SpK.lit ?_ | refine GrdK.same ?_ | refine GrdK.tf ?_ | refine GrdK.ft ?_ | refine PickK.t ?_ | refine PickK.f ?_); (conv => whnf))
  rw [ebb]
  refine CallK.nil 5 1 ?_
  refine CallK.of [1, 0] (putE_spec b5' none 0 [] [] 4 (b - 5) (by omega) (by show b - 5 < 16; omega) (by simp [lenB]) (by simp [lenB]) rfl (fun x hx => by cases hx)) rfl (fun _ _ => trivial) ?_
  rintro _ _ ⟨rfl, D, dc, bs, h1, h2, rfl⟩
  (conv => whnf); repeat ((first | refine RngK.mk (by omega) (by omega) ?_ | refine NzK.mk (by omega) ?_ | refine NnK.mk (by omega) ?_ | refine BdK.mk (by omega) (by omega) (by omega) ?_ | refine InsK.lit (by omega) (by omega) ?_ | refine SpK.lit ?_ | refine GrdK.same ?_ | refine GrdK.tf ?_ | refine GrdK.ft ?_ | refine PickK.t ?_ | refine PickK.f ?_); (conv => whnf))
  rw [e0 b (by omega)]
  rw [List.nil_append] at h1 h2 ⊢
  have hI0 : WI zs ALL b ⟨0, 2 ^ b, [(4, b - 5)], D, dc, bs⟩ :=
    ⟨hALL, fun x hx => by rcases List.mem_singleton.1 hx with rfl; show b - 5 < 16; omega, h1, h2, Nat.zero_le _, hs, hnz, Nat.le_refl _⟩
  refine Wp.cutEx 0 (fun s : WS => [(5, .pointer (some ⟨b5', 0, none⟩))]) (fun s => wrH b5' s.D s.c s.bs (lenB s.ps)) (fun s => WI zs ALL b s ∧ s.left = 0) ?_ fun ⟨s, left, ps, D, dc, bs⟩ ⟨hI, hex⟩ => ?_
  · refine Wp.loop (fun s : WS => [(0, .slice A zs.length c), (5, .pointer (some ⟨b5', 0, none⟩)), (6, vN s.left), (7, vN s.s)]) (fun s => wrH b5' s.D s.c s.bs (lenB s.ps))
      (fun s => WI zs ALL b s) (fun s => zs.length - s.s) ⟨0, 2 ^ b, [(4, b - 5)], D, dc, bs⟩ ⟨rfl, rfl, rfl, rfl, trivial⟩ (HSub.refl _) hI0 fun ⟨s, left, ps, D, dc, bs⟩ hI => ?_
    have i1 := hI.all
    have i2 := hI.sm
    have i3 := hI.len
    have i4 := hI.nm
    have i5 := hI.sl
    have i6 := hI.su
    have i7 := hI.nz
    have i8 := hI.le
    dsimp only at i1 i2 i3 i4 i5 i6 i7 i8 ⊢
    have hpl : lenB ps ≤ 4000 := by
      have := lenB_append ps (wrS none left (zs.drop s))
      rw [i1] at this
      omega
    (conv => whnf); repeat ((first | refine RngK.mk (by omega) (by omega) ?_ | refine NzK.mk (by omega) ?_ | refine NnK.mk (by omega) ?_ | refine BdK.mk (by omega) (by omega) (by omega) ?_ | refine InsK.lit (by omega) (by omega) ?_ | refine SpK.lit ?_ | refine GrdK.same ?_ | refine GrdK.tf ?_ | refine GrdK.ft ?_ | refine PickK.t ?_ | refine PickK.f ?_); (conv => whnf))
    refine Wp.cond rfl (fun h => ?_) (fun h => ?_)
    rotate_left
    · have h := dF h
      (conv => whnf); repeat ((first | refine RngK.mk (by omega) (by omega) ?_ | refine NzK.mk (by omega) ?_ | refine NnK.mk (by omega) ?_ | refine BdK.mk (by omega) (by omega) (by omega) ?_ | refine InsK.lit (by omega) (by omega) ?_ | refine SpK.lit ?_ | refine GrdK.same ?_ | refine GrdK.tf ?_ | refine GrdK.ft ?_ | refine PickK.t ?_ | refine PickK.f ?_); (conv => whnf))
      exact ⟨⟨s, left, ps, D, dc, bs⟩, ⟨rfl, trivial⟩, HSub.refl _, hI, by dsimp only; omega⟩
    have h := dT h
    have h0 : left ≠ 0 := by omega
    have hsl : s < zs.length := by
      apply Decidable.byContradiction
      intro hn
      rw [List.drop_of_length_le (by omega)] at i6
      simp [sumR] at i6
      omega
    rw [drop_at hsl] at i1 i6 i7
    have hz := hlim _ (List.getElem_mem hsl)
    have hgs : (zs.map vI)[s]? = some (vI zs[s]) := by simp [hsl]
    obtain ⟨z, hze⟩ : ∃ z, zs[s] = z := ⟨_, rfl⟩
    rw [hze] at i1 i6 i7 hz hgs
    obtain ⟨r, hr⟩ : ∃ r, zs.drop (s + 1) = r := ⟨_, rfl⟩
    have hrl : r.length = zs.length - (s + 1) := by rw [← hr]; simp
    rw [hr] at i1 i6 i7
    have i6' : rN z + sumR r = left := i6
    have hzl : z ≤ (left : Int) := by
      unfold rN at i6'
      split at i6' <;> omega
    have hps := (piece_facts hz.1 hzl).1
    have hpc : piece left z = if (z + 1).toNat < 2 ^ wd (left + 1) - 2 - left then (wd (left + 1) - 1, (z + 1).toNat)
      else if (z + 1).toNat < 2 ^ (wd (left + 1) - 1) then (wd (left + 1), (z + 1).toNat) else (wd (left + 1), (z + 1).toNat + (2 ^ wd (left + 1) - 2 - left)) := rfl
    obtain ⟨v, hv⟩ : ∃ v, (z + 1).toNat = v := ⟨_, rfl⟩
    have ezv : z + 1 = ((v : Nat) : Int) := by omega
    obtain ⟨w1, w2, w3, w4⟩ := wd_around left
    have w10 : wd (left + 1) ≤ 10 := wd_lt (by omega)
    have hws := width_spec (left + 1) (by omega)
    rw [hv] at hpc
    rw [wrS, if_neg h0] at i1
    obtain ⟨pc, hpce⟩ : ∃ pc, piece left z = pc := ⟨_, rfl⟩
    rw [hpce] at hpc hps i1
    obtain ⟨wdt, hwd⟩ : ∃ w, wd (left + 1) = w := ⟨_, rfl⟩
    rw [hwd] at hpc w1 w2 w3 w4 w10 hws
    have e1w := e0 wdt w10
    have e2w := e0 (wdt - 1) (by omega)
    have ew1 : ((wdt : Nat) : Int) - 1 = ((wdt - 1 : Nat) : Int) := by omega
    have eleft : ((left : Nat) : Int) + 1 = ((left + 1 : Nat) : Int) := by omega
    have hpw : 2 ^ (wdt - 1) ≤ 2 ^ 9 := Nat.pow_le_pow_right (by omega) (by omega)
    (conv => whnf); repeat ((first | refine RngK.mk (by omega) (by omega) ?_ | refine NzK.mk (by omega) ?_ | refine NnK.mk (by omega) ?_ | refine BdK.mk (by omega) (by omega) (by omega) ?_ | refine InsK.lit (by omega) (by omega) ?_ | refine SpK.lit ?_ | refine GrdK.same ?_ | refine GrdK.tf ?_ | refine GrdK.ft ?_ | refine PickK.t ?_ | refine PickK.f ?_); (conv => whnf))
    rw [eleft]
    refine CallK.of0 hws ?_
    rintro _ _ ⟨rfl, rfl⟩
    (conv => whnf); repeat ((first | refine RngK.mk (by omega) (by omega) ?_ | refine NzK.mk (by omega) ?_ | refine NnK.mk (by omega) ?_ | refine BdK.mk (by omega) (by omega) (by omega) ?_ | refine InsK.lit (by omega) (by omega) ?_ | refine SpK.lit ?_ | refine GrdK.same ?_ | refine GrdK.tf ?_ | refine GrdK.ft ?_ | refine PickK.t ?_ | refine PickK.f ?_); (conv => whnf))
    rw [e1w]
    (conv => whnf); repeat ((first | refine RngK.mk (by omega) (by omega) ?_ | refine NzK.mk (by omega) ?_ | refine NnK.mk (by omega) ?_ | refine BdK.mk (by omega) (by omega) (by omega) ?_ | refine InsK.lit (by omega) (by omega) ?_ | refine SpK.lit ?_ | refine GrdK.same ?_ | refine GrdK.tf ?_ | refine GrdK.ft ?_ | refine PickK.t ?_ | refine PickK.f ?_); (conv => whnf))
    refine InsK.rd hp (by omega) (by omega) ?_
    (conv => whnf); repeat ((first | refine RngK.mk (by omega) (by omega) ?_ | refine NzK.mk (by omega) ?_ | refine NnK.mk (by omega) ?_ | refine BdK.mk (by omega) (by omega) (by omega) ?_ | refine InsK.lit (by omega) (by omega) ?_ | refine SpK.lit ?_ | refine GrdK.same ?_ | refine GrdK.tf ?_ | refine GrdK.ft ?_ | refine PickK.t ?_ | refine PickK.f ?_); (conv => whnf))
    refine LdK.rd hp s rfl rfl rfl hgs ?_
    (conv => whnf); repeat ((first | refine RngK.mk (by omega) (by omega) ?_ | refine NzK.mk (by omega) ?_ | refine NnK.mk (by omega) ?_ | refine BdK.mk (by omega) (by omega) (by omega) ?_ | refine InsK.lit (by omega) (by omega) ?_ | refine SpK.lit ?_ | refine GrdK.same ?_ | refine GrdK.tf ?_ | refine GrdK.ft ?_ | refine PickK.t ?_ | refine PickK.f ?_); (conv => whnf))
    rw [ezv]
    refine Wp.cut (fun t : Option Addr × Nat × List UInt8 => [(0, .slice A zs.length c), (5, .pointer (some ⟨b5', 0, none⟩)), (6, vN left), (7, vN s)]) (fun t => wrH b5' t.1 t.2.1 t.2.2 (lenB (ps ++ [pc])))
      (fun t => t.2.2.length = (lenB (ps ++ [pc]) + 7) / 8 ∧ num t.2.2 = enc (ps ++ [pc])) ?_ fun ⟨D, dc, bs⟩ ⟨j1, j2⟩ => ?_
    · refine Wp.cond rfl (fun g => ?_) (fun g => ?_)
      · have g : ((v : Nat) : Int) < ((2 ^ wdt : Nat) : Int) - 2 - ((left : Nat) : Int) := dT g
        rw [if_pos (by omega)] at hpc
        subst hpc
        (conv => whnf); repeat ((first | refine RngK.mk (by omega) (by omega) ?_ | refine NzK.mk (by omega) ?_ | refine NnK.mk (by omega) ?_ | refine BdK.mk (by omega) (by omega) (by omega) ?_ | refine InsK.lit (by omega) (by omega) ?_ | refine SpK.lit ?_ | refine GrdK.same ?_ | refine GrdK.tf ?_ | refine GrdK.ft ?_ | refine PickK.t ?_ | refine PickK.f ?_); (conv => whnf))
        rw [ew1]
        refine CallK.of [0, 0] (putE_spec b5' D dc bs ps (wdt - 1) v (by omega) hps (by omega) i3 i4 i2) rfl (fun _ _ => trivial) ?_
        rintro _ _ ⟨rfl, D', dc', bs', j1, j2, rfl⟩
        (conv => whnf); repeat ((first | refine RngK.mk (by omega) (by omega) ?_ | refine NzK.mk (by omega) ?_ | refine NnK.mk (by omega) ?_ | refine BdK.mk (by omega) (by omega) (by omega) ?_ | refine InsK.lit (by omega) (by omega) ?_ | refine SpK.lit ?_ | refine GrdK.same ?_ | refine GrdK.tf ?_ | refine GrdK.ft ?_ | refine PickK.t ?_ | refine PickK.f ?_); (conv => whnf))
        exact ⟨(D', dc', bs'), ⟨rfl, rfl, rfl, rfl, trivial⟩, HSub.refl _, j1, j2⟩
      · have g : ¬ ((v : Nat) : Int) < ((2 ^ wdt : Nat) : Int) - 2 - ((left : Nat) : Int) := dF g
        rw [if_neg (by omega)] at hpc
        (conv => whnf); repeat ((first | refine RngK.mk (by omega) (by omega) ?_ | refine NzK.mk (by omega) ?_ | refine NnK.mk (by omega) ?_ | refine BdK.mk (by omega) (by omega) (by omega) ?_ | refine InsK.lit (by omega) (by omega) ?_ | refine SpK.lit ?_ | refine GrdK.same ?_ | refine GrdK.tf ?_ | refine GrdK.ft ?_ | refine PickK.t ?_ | refine PickK.f ?_); (conv => whnf))
        rw [ew1]
        (conv => whnf); repeat ((first | refine RngK.mk (by omega) (by omega) ?_ | refine NzK.mk (by omega) ?_ | refine NnK.mk (by omega) ?_ | refine BdK.mk (by omega) (by omega) (by omega) ?_ | refine InsK.lit (by omega) (by omega) ?_ | refine SpK.lit ?_ | refine GrdK.same ?_ | refine GrdK.tf ?_ | refine GrdK.ft ?_ | refine PickK.t ?_ | refine PickK.f ?_); (conv => whnf))
        rw [e2w]
        refine Wp.cond rfl (fun g2 => ?_) (fun g2 => ?_)
        · have g2 : ((v : Nat) : Int) < ((2 ^ (wdt - 1) : Nat) : Int) := dT g2
          rw [if_pos (by omega)] at hpc
          subst hpc
          (conv => whnf); repeat ((first | refine RngK.mk (by omega) (by omega) ?_ | refine NzK.mk (by omega) ?_ | refine NnK.mk (by omega) ?_ | refine BdK.mk (by omega) (by omega) (by omega) ?_ | refine InsK.lit (by omega) (by omega) ?_ | refine SpK.lit ?_ | refine GrdK.same ?_ | refine GrdK.tf ?_ | refine GrdK.ft ?_ | refine PickK.t ?_ | refine PickK.f ?_); (conv => whnf))
          refine CallK.of [0, 0] (putE_spec b5' D dc bs ps wdt v (by omega) hps (by omega) i3 i4 i2) rfl (fun _ _ => trivial) ?_
          rintro _ _ ⟨rfl, D', dc', bs', j1, j2, rfl⟩
          (conv => whnf); repeat ((first | refine RngK.mk (by omega) (by omega) ?_ | refine NzK.mk (by omega) ?_ | refine NnK.mk (by omega) ?_ | refine BdK.mk (by omega) (by omega) (by omega) ?_ | refine InsK.lit (by omega) (by omega) ?_ | refine SpK.lit ?_ | refine GrdK.same ?_ | refine GrdK.tf ?_ | refine GrdK.ft ?_ | refine PickK.t ?_ | refine PickK.f ?_); (conv => whnf))
          exact ⟨(D', dc', bs'), ⟨rfl, rfl, rfl, rfl, trivial⟩, HSub.refl _, j1, j2⟩
        · have g2 : ¬ ((v : Nat) : Int) < ((2 ^ (wdt - 1) : Nat) : Int) := dF g2
          rw [if_neg (by omega)] at hpc
          subst hpc
          (conv => whnf); repeat ((first | refine RngK.mk (by omega) (by omega) ?_ | refine NzK.mk (by omega) ?_ | refine NnK.mk (by omega) ?_ | refine BdK.mk (by omega) (by omega) (by omega) ?_ | refine InsK.lit (by omega) (by omega) ?_ | refine SpK.lit ?_ | refine GrdK.same ?_ | refine GrdK.tf ?_ | refine GrdK.ft ?_ | refine PickK.t ?_ | refine PickK.f ?_); (conv => whnf))
          have ev : ((v : Nat) : Int) + (((2 ^ wdt : Nat) : Int) - 2 - ((left : Nat) : Int)) = ((v + (2 ^ wdt - 2 - left) : Nat) : Int) := by omega
          rw [ev]
          refine CallK.of [0, 0] (putE_spec b5' D dc bs ps wdt (v + (2 ^ wdt - 2 - left)) (by omega) hps (by omega) i3 i4 i2) rfl (fun _ _ => trivial) ?_
          rintro _ _ ⟨rfl, D', dc', bs', j1, j2, rfl⟩
          (conv => whnf); repeat ((first | refine RngK.mk (by omega) (by omega) ?_ | refine NzK.mk (by omega) ?_ | refine NnK.mk (by omega) ?_ | refine BdK.mk (by omega) (by omega) (by omega) ?_ | refine InsK.lit (by omega) (by omega) ?_ | refine SpK.lit ?_ | refine GrdK.same ?_ | refine GrdK.tf ?_ | refine GrdK.ft ?_ | refine PickK.t ?_ | refine PickK.f ?_); (conv => whnf))
          exact ⟨(D', dc', bs'), ⟨rfl, rfl, rfl, rfl, trivial⟩, HSub.refl _, j1, j2⟩
    dsimp only at j1 j2 ⊢
    have hsm2 := small_snoc i2 hps
    have hpl2 : lenB (ps ++ [pc]) ≤ 4010 := by
      rw [lenB_append]
      have hp1 : pc.1 ≤ 10 := by
        rw [hpc]
        split
        · dsimp only; omega
        · split <;> (dsimp only; omega)
      simp only [lenB]
      omega
    have i1' : (ps ++ [pc]) ++ (if z = 0 then wrS (some 0) left r else wrS none (left - rN z) r) = ALL := by
      rw [← i1, List.append_assoc]
      rfl
    clear i1 i3 i4
    generalize ps ++ [pc] = ps2 at *
    have er : ((left : Nat) : Int) - roomN z = ((left - rN z : Nat) : Int) := by
      have : roomN z = ((rN z : Nat) : Int) := by
        unfold roomN rN
        split <;> omega
      rw [this]
      omega
    have erb : -1 ≤ roomN z ∧ roomN z ≤ 512 := by unfold roomN; split <;> omega
    (conv => whnf); repeat ((first | refine RngK.mk (by omega) (by omega) ?_ | refine NzK.mk (by omega) ?_ | refine NnK.mk (by omega) ?_ | refine BdK.mk (by omega) (by omega) (by omega) ?_ | refine InsK.lit (by omega) (by omega) ?_ | refine SpK.lit ?_ | refine GrdK.same ?_ | refine GrdK.tf ?_ | refine GrdK.ft ?_ | refine PickK.t ?_ | refine PickK.f ?_); (conv => whnf))
    refine InsK.rd hp (by omega) (by omega) ?_
    (conv => whnf); repeat ((first | refine RngK.mk (by omega) (by omega) ?_ | refine NzK.mk (by omega) ?_ | refine NnK.mk (by omega) ?_ | refine BdK.mk (by omega) (by omega) (by omega) ?_ | refine InsK.lit (by omega) (by omega) ?_ | refine SpK.lit ?_ | refine GrdK.same ?_ | refine GrdK.tf ?_ | refine GrdK.ft ?_ | refine PickK.t ?_ | refine PickK.f ?_); (conv => whnf))
    refine LdK.rd hp s rfl rfl rfl hgs ?_
    (conv => whnf); repeat ((first | refine RngK.mk (by omega) (by omega) ?_ | refine NzK.mk (by omega) ?_ | refine NnK.mk (by omega) ?_ | refine BdK.mk (by omega) (by omega) (by omega) ?_ | refine InsK.lit (by omega) (by omega) ?_ | refine SpK.lit ?_ | refine GrdK.same ?_ | refine GrdK.tf ?_ | refine GrdK.ft ?_ | refine PickK.t ?_ | refine PickK.f ?_); (conv => whnf))
    refine CallK.of0 (room_spec z) ?_
    rintro _ _ ⟨rfl, rfl⟩
    (conv => whnf); repeat ((first | refine RngK.mk (by omega) (by omega) ?_ | refine NzK.mk (by omega) ?_ | refine NnK.mk (by omega) ?_ | refine BdK.mk (by omega) (by omega) (by omega) ?_ | refine InsK.lit (by omega) (by omega) ?_ | refine SpK.lit ?_ | refine GrdK.same ?_ | refine GrdK.tf ?_ | refine GrdK.ft ?_ | refine PickK.t ?_ | refine PickK.f ?_); (conv => whnf))
    rw [er]
    (conv => whnf); repeat ((first | refine RngK.mk (by omega) (by omega) ?_ | refine NzK.mk (by omega) ?_ | refine NnK.mk (by omega) ?_ | refine BdK.mk (by omega) (by omega) (by omega) ?_ | refine InsK.lit (by omega) (by omega) ?_ | refine SpK.lit ?_ | refine GrdK.same ?_ | refine GrdK.tf ?_ | refine GrdK.ft ?_ | refine PickK.t ?_ | refine PickK.f ?_); (conv => whnf))
    refine InsK.rd hp (by omega) (by omega) ?_
    (conv => whnf); repeat ((first | refine RngK.mk (by omega) (by omega) ?_ | refine NzK.mk (by omega) ?_ | refine NnK.mk (by omega) ?_ | refine BdK.mk (by omega) (by omega) (by omega) ?_ | refine InsK.lit (by omega) (by omega) ?_ | refine SpK.lit ?_ | refine GrdK.same ?_ | refine GrdK.tf ?_ | refine GrdK.ft ?_ | refine PickK.t ?_ | refine PickK.f ?_); (conv => whnf))
    refine LdK.rd hp s rfl rfl rfl hgs ?_
    (conv => whnf); repeat ((first | refine RngK.mk (by omega) (by omega) ?_ | refine NzK.mk (by omega) ?_ | refine NnK.mk (by omega) ?_ | refine BdK.mk (by omega) (by omega) (by omega) ?_ | refine InsK.lit (by omega) (by omega) ?_ | refine SpK.lit ?_ | refine GrdK.same ?_ | refine GrdK.tf ?_ | refine GrdK.ft ?_ | refine PickK.t ?_ | refine PickK.f ?_); (conv => whnf))
    refine Wp.cond rfl (fun g => ?_) (fun g => ?_)
    rotate_left
    · have g : z ≠ 0 := eqF g
      rw [if_neg g] at i1'
      (conv => whnf); repeat ((first | refine RngK.mk (by omega) (by omega) ?_ | refine NzK.mk (by omega) ?_ | refine NnK.mk (by omega) ?_ | refine BdK.mk (by omega) (by omega) (by omega) ?_ | refine InsK.lit (by omega) (by omega) ?_ | refine SpK.lit ?_ | refine GrdK.same ?_ | refine GrdK.tf ?_ | refine GrdK.ft ?_ | refine PickK.t ?_ | refine PickK.f ?_); (conv => whnf))
      refine ⟨⟨s + 1, left - rN z, ps2, D, dc, bs⟩, ⟨rfl, rfl, rfl, rfl, trivial⟩, HSub.refl _, ⟨by dsimp only; rw [hr]; exact i1', hsm2, j1, j2, by dsimp only; omega, by dsimp only; rw [hr]; omega, by dsimp only; rw [hr]; exact NZ.tail (a := [z]) i7, by dsimp only; omega⟩, by dsimp only; omega⟩
    have g : z = 0 := eqT g
    subst g
    rw [if_pos rfl] at i1'
    have hr0 : rN 0 = 0 := rfl
    rw [hr0, Nat.zero_add] at i6'
    rw [hr0, Nat.sub_zero]
    obtain ⟨q, r', q1, q2, q3⟩ := wrS_someH left r 0
    rw [q2, Nat.zero_add, ← List.append_assoc] at i1'
    rw [q1, sumR_zeros] at i6'
    have hrne : r' ≠ [] := by
      rintro rfl
      simp [sumR] at i6'
      omega
    obtain ⟨y, r2, hy⟩ := List.exists_cons_of_ne_nil hrne
    have hy0 := q3 y r2 hy
    have hql : s + 1 + q < zs.length := by
      have : r.length = q + r'.length := by rw [q1]; simp
      rw [hy, List.length_cons] at this
      omega
    have hgq : ∀ j, j < q → (zs.map vI)[s + 1 + j]? = some (vI 0) := fun j hj => by
      rw [List.getElem?_map, ← List.getElem?_drop, hr, q1, List.getElem?_append_left (by simpa using hj), List.getElem?_replicate, if_pos hj]
      rfl
    have hgy : (zs.map vI)[s + 1 + q]? = some (vI y) := by
      rw [List.getElem?_map, ← List.getElem?_drop, hr, q1, List.getElem?_append_right (by simp), hy]
      simp
    have hdr : zs.drop (s + 1 + q) = r' := by
      rw [← List.drop_drop, hr, q1, List.drop_left' (by simp)]
    (conv => whnf); repeat ((first | refine RngK.mk (by omega) (by omega) ?_ | refine NzK.mk (by omega) ?_ | refine NnK.mk (by omega) ?_ | refine BdK.mk (by omega) (by omega) (by omega) ?_ | refine InsK.lit (by omega) (by omega) ?_ | refine SpK.lit ?_ | refine GrdK.same ?_ | refine GrdK.tf ?_ | refine GrdK.ft ?_ | refine PickK.t ?_ | refine PickK.f ?_); (conv => whnf))
    refine Wp.cutEx 3 (fun _ : Unit => [(0, .slice A zs.length c), (5, .pointer (some ⟨b5', 0, none⟩)), (6, vN left), (7, vN s), (11, vN q)]) (fun _ => wrH b5' D dc bs (lenB ps2)) (fun _ => True) ?_ fun _ _ => ?_
    · refine Wp.loop (fun j : Nat => [(0, .slice A zs.length c), (5, .pointer (some ⟨b5', 0, none⟩)), (6, vN left), (7, vN s), (11, vN j)]) (fun _ => wrH b5' D dc bs (lenB ps2)) (fun j => j ≤ q) (fun j => q - j) 0
        ⟨rfl, rfl, rfl, rfl, rfl, trivial⟩ (HSub.refl _) (Nat.zero_le _) fun j hj => ?_
      have esj : ((s : Nat) : Int) + 1 + ((j : Nat) : Int) = ((s + 1 + j : Nat) : Int) := by omega
      (conv => whnf); repeat ((first | refine RngK.mk (by omega) (by omega) ?_ | refine NzK.mk (by omega) ?_ | refine NnK.mk (by omega) ?_ | refine BdK.mk (by omega) (by omega) (by omega) ?_ | refine InsK.lit (by omega) (by omega) ?_ | refine SpK.lit ?_ | refine GrdK.same ?_ | refine GrdK.tf ?_ | refine GrdK.ft ?_ | refine PickK.t ?_ | refine PickK.f ?_); (conv => whnf))
      rw [esj]
      refine InsK.rd hp (by omega) (by omega) ?_
      (conv => whnf); repeat ((first | refine RngK.mk (by omega) (by omega) ?_ | refine NzK.mk (by omega) ?_ | refine NnK.mk (by omega) ?_ | refine BdK.mk (by omega) (by omega) (by omega) ?_ | refine InsK.lit (by omega) (by omega) ?_ | refine SpK.lit ?_ | refine GrdK.same ?_ | refine GrdK.tf ?_ | refine GrdK.ft ?_ | refine PickK.t ?_ | refine PickK.f ?_); (conv => whnf))
      by_cases hjq : j = q
      · subst hjq
        refine LdK.rd hp (s + 1 + j) rfl rfl rfl hgy ?_
        (conv => whnf); repeat ((first | refine RngK.mk (by omega) (by omega) ?_ | refine NzK.mk (by omega) ?_ | refine NnK.mk (by omega) ?_ | refine BdK.mk (by omega) (by omega) (by omega) ?_ | refine InsK.lit (by omega) (by omega) ?_ | refine SpK.lit ?_ | refine GrdK.same ?_ | refine GrdK.tf ?_ | refine GrdK.ft ?_ | refine PickK.t ?_ | refine PickK.f ?_); (conv => whnf))
        rw [show (y == (0 : Int)) = false by simpa using hy0]
        refine Wp.cond rfl (fun h => by cases h) (fun _ => ?_)
        (conv => whnf); repeat ((first | refine RngK.mk (by omega) (by omega) ?_ | refine NzK.mk (by omega) ?_ | refine NnK.mk (by omega) ?_ | refine BdK.mk (by omega) (by omega) (by omega) ?_ | refine InsK.lit (by omega) (by omega) ?_ | refine SpK.lit ?_ | refine GrdK.same ?_ | refine GrdK.tf ?_ | refine GrdK.ft ?_ | refine PickK.t ?_ | refine PickK.f ?_); (conv => whnf))
        exact ⟨(), ⟨rfl, rfl, rfl, rfl, rfl, trivial⟩, HSub.refl _, trivial⟩
      · refine LdK.rd hp (s + 1 + j) rfl rfl rfl (hgq j (by omega)) ?_
        (conv => whnf); repeat ((first | refine RngK.mk (by omega) (by omega) ?_ | refine NzK.mk (by omega) ?_ | refine NnK.mk (by omega) ?_ | refine BdK.mk (by omega) (by omega) (by omega) ?_ | refine InsK.lit (by omega) (by omega) ?_ | refine SpK.lit ?_ | refine GrdK.same ?_ | refine GrdK.tf ?_ | refine GrdK.ft ?_ | refine PickK.t ?_ | refine PickK.f ?_); (conv => whnf))
        refine Wp.cond rfl (fun _ => ?_) (fun h => by cases h)
        (conv => whnf); repeat ((first | refine RngK.mk (by omega) (by omega) ?_ | refine NzK.mk (by omega) ?_ | refine NnK.mk (by omega) ?_ | refine BdK.mk (by omega) (by omega) (by omega) ?_ | refine InsK.lit (by omega) (by omega) ?_ | refine SpK.lit ?_ | refine GrdK.same ?_ | refine GrdK.tf ?_ | refine GrdK.ft ?_ | refine PickK.t ?_ | refine PickK.f ?_); (conv => whnf))
        exact ⟨j + 1, ⟨rfl, rfl, rfl, rfl, rfl, trivial⟩, HSub.refl _, by omega, by omega⟩
    (conv => whnf); repeat ((first | refine RngK.mk (by omega) (by omega) ?_ | refine NzK.mk (by omega) ?_ | refine NnK.mk (by omega) ?_ | refine BdK.mk (by omega) (by omega) (by omega) ?_ | refine InsK.lit (by omega) (by omega) ?_ | refine SpK.lit ?_ | refine GrdK.same ?_ | refine GrdK.tf ?_ | refine GrdK.ft ?_ | refine PickK.t ?_ | refine PickK.f ?_); (conv => whnf))
    have e3 : ∀ i, enc (ps2 ++ List.replicate i (2, 3) ++ [(2, 3)]) = enc (ps2 ++ List.replicate (i + 1) (2, 3)) := fun i => by rw [List.append_assoc, List.replicate_succ']
    have l3 : ∀ i, lenB (ps2 ++ List.replicate i (2, 3)) = lenB ps2 + 2 * i := fun i => by
      rw [lenB_append]
      congr 1
      induction i with
      | zero => rfl
      | succ i ih => rw [List.replicate_succ, lenB, ih]; omega
    have s3 : ∀ i, Small (ps2 ++ List.replicate i (2, 3)) := fun i x hx => by
      rcases List.mem_append.1 hx with hx | hx
      · exact hsm2 x hx
      · rw [List.eq_of_mem_replicate hx]; decide
    have hq256 : q ≤ 256 := by omega
    refine Wp.cutEx 5 (fun t : Option Addr × Nat × List UInt8 => [(0, .slice A zs.length c), (5, .pointer (some ⟨b5', 0, none⟩)), (6, vN left), (7, vN (s + q)), (11, vN (q % 3))]) (fun t => wrH b5' t.1 t.2.1 t.2.2 (lenB (ps2 ++ List.replicate (q / 3) (2, 3))))
      (fun t => t.2.2.length = (lenB (ps2 ++ List.replicate (q / 3) (2, 3)) + 7) / 8 ∧ num t.2.2 = enc (ps2 ++ List.replicate (q / 3) (2, 3))) ?_ fun ⟨D, dc, bs⟩ ⟨j1, j2⟩ => ?_
    · refine Wp.loop (fun t : Nat × Option Addr × Nat × List UInt8 => [(0, .slice A zs.length c), (5, .pointer (some ⟨b5', 0, none⟩)), (6, vN left), (7, vN (s + q)), (11, vN (q - 3 * t.1))]) (fun t => wrH b5' t.2.1 t.2.2.1 t.2.2.2 (lenB (ps2 ++ List.replicate t.1 (2, 3))))
        (fun t => t.1 ≤ q / 3 ∧ t.2.2.2.length = (lenB (ps2 ++ List.replicate t.1 (2, 3)) + 7) / 8 ∧ num t.2.2.2 = enc (ps2 ++ List.replicate t.1 (2, 3))) (fun t => q / 3 - t.1) (0, D, dc, bs)
        ⟨rfl, rfl, rfl, rfl, rfl, trivial⟩ (by dsimp only; rw [List.replicate_zero, List.append_nil]; exact HSub.refl _) ⟨Nat.zero_le _, by simpa using j1, by simpa using j2⟩ fun ⟨i, D, dc, bs⟩ ⟨hi, j1, j2⟩ => ?_
      dsimp only at hi j1 j2 ⊢
      have hl3 := l3 i
      (conv => whnf); repeat ((first | refine RngK.mk (by omega) (by omega) ?_ | refine NzK.mk (by omega) ?_ | refine NnK.mk (by omega) ?_ | refine BdK.mk (by omega) (by omega) (by omega) ?_ | refine InsK.lit (by omega) (by omega) ?_ | refine SpK.lit ?_ | refine GrdK.same ?_ | refine GrdK.tf ?_ | refine GrdK.ft ?_ | refine PickK.t ?_ | refine PickK.f ?_); (conv => whnf))
      refine Wp.cond rfl (fun g => ?_) (fun g => ?_)
      · have g : ((q - 3 * i : Nat) : Int) ≥ 3 := dT g
        (conv => whnf); repeat ((first | refine RngK.mk (by omega) (by omega) ?_ | refine NzK.mk (by omega) ?_ | refine NnK.mk (by omega) ?_ | refine BdK.mk (by omega) (by omega) (by omega) ?_ | refine InsK.lit (by omega) (by omega) ?_ | refine SpK.lit ?_ | refine GrdK.same ?_ | refine GrdK.tf ?_ | refine GrdK.ft ?_ | refine PickK.t ?_ | refine PickK.f ?_); (conv => whnf))
        refine CallK.of [0, 0] (putE_spec b5' D dc bs (ps2 ++ List.replicate i (2, 3)) 2 3 (by omega) (by decide) (by omega) j1 j2 (s3 i)) rfl (fun _ _ => trivial) ?_
        rintro _ _ ⟨rfl, D', dc', bs', j1, j2, rfl⟩
        rw [show ps2 ++ List.replicate i (2, 3) ++ [(2, 3)] = ps2 ++ List.replicate (i + 1) (2, 3) by rw [List.append_assoc, List.replicate_succ']] at j1 j2 ⊢
        (conv => whnf); repeat ((first | refine RngK.mk (by omega) (by omega) ?_ | refine NzK.mk (by omega) ?_ | refine NnK.mk (by omega) ?_ | refine BdK.mk (by omega) (by omega) (by omega) ?_ | refine InsK.lit (by omega) (by omega) ?_ | refine SpK.lit ?_ | refine GrdK.same ?_ | refine GrdK.tf ?_ | refine GrdK.ft ?_ | refine PickK.t ?_ | refine PickK.f ?_); (conv => whnf))
        exact ⟨(i + 1, D', dc', bs'), ⟨rfl, rfl, rfl, rfl, by show some (vI _) = some (vN _); congr 2; omega, trivial⟩, HSub.refl _, ⟨by simp only; omega, j1, j2⟩, by simp only; omega⟩
      · have g : ¬ ((q - 3 * i : Nat) : Int) ≥ 3 := dF g
        obtain rfl : i = q / 3 := by omega
        (conv => whnf); repeat ((first | refine RngK.mk (by omega) (by omega) ?_ | refine NzK.mk (by omega) ?_ | refine NnK.mk (by omega) ?_ | refine BdK.mk (by omega) (by omega) (by omega) ?_ | refine InsK.lit (by omega) (by omega) ?_ | refine SpK.lit ?_ | refine GrdK.same ?_ | refine GrdK.tf ?_ | refine GrdK.ft ?_ | refine PickK.t ?_ | refine PickK.f ?_); (conv => whnf))
        exact ⟨(D, dc, bs), ⟨rfl, rfl, rfl, rfl, by show some (vN _) = some (vN _); congr 3; omega, trivial⟩, HSub.refl _, j1, j2⟩
    dsimp only at j1 j2 ⊢
    have hl3 := l3 (q / 3)
    (conv => whnf); repeat ((first | refine RngK.mk (by omega) (by omega) ?_ | refine NzK.mk (by omega) ?_ | refine NnK.mk (by omega) ?_ | refine BdK.mk (by omega) (by omega) (by omega) ?_ | refine InsK.lit (by omega) (by omega) ?_ | refine SpK.lit ?_ | refine GrdK.same ?_ | refine GrdK.tf ?_ | refine GrdK.ft ?_ | refine PickK.t ?_ | refine PickK.f ?_); (conv => whnf))
    refine CallK.of [0, 0] (putE_spec b5' D dc bs (ps2 ++ List.replicate (q / 3) (2, 3)) 2 (q % 3) (by omega) (by show q % 3 < 4; omega) (by omega) j1 j2 (s3 (q / 3))) rfl (fun _ _ => trivial) ?_
    rintro _ _ ⟨rfl, D', dc', bs', j1, j2, rfl⟩
    have hfp : ps2 ++ List.replicate (q / 3) (2, 3) ++ [(2, q % 3)] = ps2 ++ flagP q := by unfold flagP; rw [List.append_assoc]
    rw [hfp] at j1 j2 ⊢
    (conv => whnf); repeat ((first | refine RngK.mk (by omega) (by omega) ?_ | refine NzK.mk (by omega) ?_ | refine NnK.mk (by omega) ?_ | refine BdK.mk (by omega) (by omega) (by omega) ?_ | refine InsK.lit (by omega) (by omega) ?_ | refine SpK.lit ?_ | refine GrdK.same ?_ | refine GrdK.tf ?_ | refine GrdK.ft ?_ | refine PickK.t ?_ | refine PickK.f ?_); (conv => whnf))
    have hsm3 : Small (ps2 ++ flagP q) := fun x hx => by
      rcases List.mem_append.1 hx with hx | hx
      · exact hsm2 x hx
      · exact flagP_small q x hx
    exact ⟨⟨s + 1 + q, left, ps2 ++ flagP q, D', dc', bs'⟩, ⟨rfl, rfl, rfl, by show some (vI (((s + q : Nat) : Int) + 1)) = some (vN (s + 1 + q)); congr 2; omega, trivial⟩, HSub.refl _, ⟨by dsimp only; rw [hdr]; exact i1', hsm3, j1, j2, by dsimp only; omega, by dsimp only; rw [hdr]; exact i6', by dsimp only; rw [hdr]; rw [q1] at i7; exact NZ.tail (a := [0] ++ List.replicate q 0) (by simpa using i7), i8⟩, by dsimp only; omega⟩
  · have i1 := hI.all
    have i3 := hI.len
    have i4 := hI.nm
    have i6 := hI.su
    have i7 := hI.nz
    dsimp only at i1 i3 i4 i6 i7 hex ⊢
    subst hex
    have hnil : zs.drop s = [] := by
      apply Decidable.byContradiction
      intro hn
      have := NZ.pos i7 (fun z hz => (hlim z (List.mem_of_mem_drop hz)).1) hn
      omega
    rw [hnil, wrS, List.append_nil] at i1
    subst i1
    (conv => whnf); repeat ((first | refine RngK.mk (by omega) (by omega) ?_ | refine NzK.mk (by omega) ?_ | refine NnK.mk (by omega) ?_ | refine BdK.mk (by omega) (by omega) (by omega) ?_ | refine InsK.lit (by omega) (by omega) ?_ | refine SpK.lit ?_ | refine GrdK.same ?_ | refine GrdK.tf ?_ | refine GrdK.ft ?_ | refine PickK.t ?_ | refine PickK.f ?_); (conv => whnf))
    refine LdK.blk 0 rfl rfl rfl rfl ?_
    (conv => whnf); repeat ((first | refine RngK.mk (by omega) (by omega) ?_ | refine NzK.mk (by omega) ?_ | refine NnK.mk (by omega) ?_ | refine BdK.mk (by omega) (by omega) (by omega) ?_ | refine InsK.lit (by omega) (by omega) ?_ | refine SpK.lit ?_ | refine GrdK.same ?_ | refine GrdK.tf ?_ | refine GrdK.ft ?_ | refine PickK.t ?_ | refine PickK.f ?_); (conv => whnf))
    exact ⟨_, HSub.of [1] rfl, D, dc, bs, rfl, rfl, i3, i4⟩
end Go.Proofs.YtccmihdpgpgbaaaDoor
