/- The reference's reader of counts, whole. -/
import Derived.Test.YtgdhdkjbilifiaaDoorSdT
namespace Go.Proofs.YtgdhdkjbilifiaaDoor
open Go Go.Sx
set_option maxRecDepth 100000
theorem spR_right {N n off most bits : Nat} {cs : List Int} {p : Nat} (hb : bitsN N (8 * off) 4 + 5 ≤ bits) (h : spS N n most (most + 3) (8 * off + 4) (2 ^ (bitsN N (8 * off) 4 + 5)) [] = .right cs p) :
    rfS N n off most bits = some (cs, bitsN N (8 * off) 4 + 5, p) := by
  have hr := spS_room (by rw [h]; simp : spS N n most (most + 3) (8 * off + 4) (2 ^ (bitsN N (8 * off) 4 + 5)) [] ≠ .unsaid)
  have h2 := (spS_rdS (N := N) (L := n) (most := most) (f := most + 3) (p := 8 * off + 4) (left := 2 ^ (bitsN N (8 * off) 4 + 5)) (cs := []) (2 * most + 5) (by simp; omega) (fun _ => Nat.zero_le _) (.inl (Nat.zero_le _))).1 _ _ h
  unfold rfS
  rw [if_neg (by omega), if_neg (by omega), h2]
theorem spR_wrong {N n off most bits : Nat} (h : spS N n most (most + 3) (8 * off + 4) (2 ^ (bitsN N (8 * off) 4 + 5)) [] = .wrong) : rfS N n off most bits = none := by
  have h2 := (spS_rdS (N := N) (L := n) (most := most) (f := most + 3) (p := 8 * off + 4) (left := 2 ^ (bitsN N (8 * off) 4 + 5)) (cs := []) (2 * most + 5) (by simp; omega) (fun _ => Nat.zero_le _) (.inl (Nat.zero_le _))).2 h
  unfold rfS
  rw [h2]
  split
  · rfl
  · split <;> rfl
structure SS where
  f : Nat
  p : Nat
  left : Nat
  cs : List Int
  A : Option Addr
  c : Nat
  sh : Bool
structure SI (N n most b : Nat) (R : Told) (Bq : Prop) (s : SS) : Prop where
  bq : s.sh = false → Bq
  r : s.sh = false → spS N n most s.f s.p s.left s.cs = R
  f1 : 1 ≤ s.f
  f2 : most + 3 ≤ s.f + s.cs.length
  p_ : s.p ≤ 8 * n
  le : s.left ≤ 2 ^ b
  ln : s.cs.length ≤ most + 16 * n + 10
structure ZS where
  g : Nat
  zr : Nat
  k : Nat
  p : Nat
  A : Option Addr
  c : Nat
  sh : Bool
structure ZI (N n : Nat) (x : Int) (p1 : Nat) (FR : Option (Nat × Nat)) (s : ZS) : Prop where
  r3 : s.sh = false → x = 0 → s.zr = 3 → flagsS N n s.g s.p s.k = FR
  r0 : s.sh = false → x = 0 → s.zr ≠ 3 → FR = some (s.k, s.p)
  ne : x ≠ 0 → s.k = 0 ∧ s.sh = false ∧ s.p = p1
  f1 : 8 * n ≤ s.g + s.p
  p_ : s.p ≤ 8 * n
  z3 : s.zr ≤ 3
  k2 : s.k ≤ 2 * s.p + 3
theorem sread_spec (A : Option Addr) (n c : Nat) (bs : List UInt8) (off most bits : Nat) (hn : n ≤ 16777216) (ho : off ≤ n) (hm : most ≤ 255) (hb : bits ≤ 9) :
    FnS Tryd.prog 50 [.slice A n c, vN off, vN most, vN bits] [] (fun w => Bytes w (blocks []) A n c bs)
      (fun v H => ∃ A1 k c1 x y t, v = .tuple #[.slice A1 k c1, vN x, vN y, vN t] ∧
        ((t = 0 ∧ ∃ cs b p, rfS (num bs) n off most bits = some (cs, b, p) ∧ k = cs.length ∧ x = b ∧ y = (p + 7) / 8 ∧ H = [.own A1 k c1 3 1 (cs.map vI)]) ∨ (t = 1 ∧ rfS (num bs) n off most bits = none ∧ H = []) ∨ (t = 2 ∧ H = []))) := by
  refine FnS.introD Tryd.func50 rfl (by kernel_rfl) rfl fun w hH hp => ?_
  obtain ⟨acc, hacc⟩ : ∃ acc, bitsN (num bs) (8 * off) 4 = acc := ⟨_, rfl⟩
  have hrt := fun cs p => spR_right (N := num bs) (n := n) (off := off) (most := most) (bits := bits) (cs := cs) (p := p)
  have hwr := spR_wrong (N := num bs) (n := n) (off := off) (most := most) (bits := bits)
  have hlow : bits < acc + 5 → rfS (num bs) n off most bits = none := fun h => by
    unfold rfS
    split
    · rfl
    · rw [hacc, if_pos h]
  have hb16 := bitsN_lt (num bs) (8 * off) 4
  rw [hacc] at hrt hwr hb16
  (conv => whnf); repeat ((first | refine RngK.mk (by omega) (by omega) ?_ | refine NzK.mk (by omega) ?_ | refine NnK.mk (by omega) ?_ | refine BdK.mk (by omega) (by omega) (by omega) ?_ | refine InsK.lit (by omega) (by omega) ?_ | refine SpK.lit ?_ | refine GrdK.same ?_ | refine GrdK.tf ?_ | refine GrdK.ft ?_ | refine PickK.t ?_ | refine PickK.f ?_); (conv => whnf))
  refine ValK.build rfl ?_
  (conv => whnf); repeat ((first | refine RngK.mk (by omega) (by omega) ?_ | refine NzK.mk (by omega) ?_ | refine NnK.mk (by omega) ?_ | refine BdK.mk (by omega) (by omega) (by omega) ?_ | refine InsK.lit (by omega) (by omega) ?_ | refine SpK.lit ?_ | refine GrdK.same ?_ | refine GrdK.tf ?_ | refine GrdK.ft ?_ | refine PickK.t ?_ | refine PickK.f ?_); (conv => whnf))
  intro b12
  (conv => whnf); repeat ((first | refine RngK.mk (by omega) (by omega) ?_ | refine NzK.mk (by omega) ?_ | refine NnK.mk (by omega) ?_ | refine BdK.mk (by omega) (by omega) (by omega) ?_ | refine InsK.lit (by omega) (by omega) ?_ | refine SpK.lit ?_ | refine GrdK.same ?_ | refine GrdK.tf ?_ | refine GrdK.ft ?_ | refine PickK.t ?_ | refine PickK.f ?_); (conv => whnf))
  have e8 : 8 * ((off : Nat) : Int) = ((8 * off : Nat) : Int) := by omega
  have hcb := (cbits_spec b12 A n c bs (8 * off) 4 false hn (by omega) (by omega)).mono (pre' := fun w => Bytes w (blocks (ctB b12 A n c (8 * off) false)) A n c bs) (Q' := fun v H => ∃ b0 p sh, v = vN b0 ∧ H = ctB b12 A n c p sh ∧ p ≤ 8 * n ∧ b0 ≤ 15 ∧ (sh = false → p = 8 * off + 4 ∧ b0 = acc)) (fun _ h => h) (fun v H h => by
    rcases h with ⟨g1, rfl, rfl⟩ | ⟨g1, rfl, rfl⟩
    · exact ⟨0, 8 * off, true, rfl, rfl, by omega, by omega, fun h => by cases h⟩
    · exact ⟨_, 8 * off + 4, false, rfl, rfl, g1, by omega, fun _ => ⟨rfl, hacc⟩⟩)
  refine CallK.of [0] hcb rfl (fun w hw => hp.pass hw) ?_
  rintro _ _ ⟨b0, p, sh, rfl, rfl, hp8, hb0, hsh⟩
  (conv => whnf); repeat ((first | refine RngK.mk (by omega) (by omega) ?_ | refine NzK.mk (by omega) ?_ | refine NnK.mk (by omega) ?_ | refine BdK.mk (by omega) (by omega) (by omega) ?_ | refine InsK.lit (by omega) (by omega) ?_ | refine SpK.lit ?_ | refine GrdK.same ?_ | refine GrdK.tf ?_ | refine GrdK.ft ?_ | refine PickK.t ?_ | refine PickK.f ?_); (conv => whnf))
  have eb0 : ((b0 : Nat) : Int) + 5 = ((b0 + 5 : Nat) : Int) := by omega
  rw [eb0]
  obtain ⟨b, hbe⟩ : ∃ b, b0 + 5 = b := ⟨_, rfl⟩
  rw [hbe]
  refine Wp.cond rfl (fun h => ?_) (fun h => ?_)
  · have h : ((b : Nat) : Int) > ((bits : Nat) : Int) := dT h
    (conv => whnf); repeat ((first | refine RngK.mk (by omega) (by omega) ?_ | refine NzK.mk (by omega) ?_ | refine NnK.mk (by omega) ?_ | refine BdK.mk (by omega) (by omega) (by omega) ?_ | refine InsK.lit (by omega) (by omega) ?_ | refine SpK.lit ?_ | refine GrdK.same ?_ | refine GrdK.tf ?_ | refine GrdK.ft ?_ | refine PickK.t ?_ | refine PickK.f ?_); (conv => whnf))
    refine CallK.of [0] (told_spec b12 A n c p sh false hn hp8) rfl (fun _ _ => trivial) ?_
    rintro _ _ ⟨rfl, rfl⟩
    (conv => whnf); repeat ((first | refine RngK.mk (by omega) (by omega) ?_ | refine NzK.mk (by omega) ?_ | refine NnK.mk (by omega) ?_ | refine BdK.mk (by omega) (by omega) (by omega) ?_ | refine InsK.lit (by omega) (by omega) ?_ | refine SpK.lit ?_ | refine GrdK.same ?_ | refine GrdK.tf ?_ | refine GrdK.ft ?_ | refine PickK.t ?_ | refine PickK.f ?_); (conv => whnf))
    refine ⟨_, HSub.nil _, none, 0, 0, 0, 0, toldN n p sh false, rfl, ?_⟩
    unfold toldN
    by_cases hc : sh = true ∨ 8 * n < p + 32
    · rw [if_pos hc]
      exact .inr (.inr ⟨rfl, rfl⟩)
    · rw [if_neg hc, if_neg (by simp)]
      have hs : sh = false := by cases sh with | false => rfl | true => exact absurd (.inl rfl) hc
      have := (hsh hs).2
      exact .inr (.inl ⟨rfl, hlow (by omega), rfl⟩)
  have h' : ¬ ((b : Nat) : Int) > ((bits : Nat) : Int) := dF h
  clear h
  have hbM : 2 ^ b ≤ 2 ^ 9 := Nat.pow_le_pow_right (by omega) (by omega)
  have e0 : ishl .i64 1 (b : Int) = ((2 ^ b : Nat) : Int) := by
    have := ishl_i64 (x := 1) (n := b) (by omega) (by omega)
    rw [Nat.one_mul] at this
    exact this
  (conv => whnf); repeat ((first | refine RngK.mk (by omega) (by omega) ?_ | refine NzK.mk (by omega) ?_ | refine NnK.mk (by omega) ?_ | refine BdK.mk (by omega) (by omega) (by omega) ?_ | refine InsK.lit (by omega) (by omega) ?_ | refine SpK.lit ?_ | refine GrdK.same ?_ | refine GrdK.tf ?_ | refine GrdK.ft ?_ | refine PickK.t ?_ | refine PickK.f ?_); (conv => whnf))
  refine EffK.lit0 rfl rfl fun b14 => ?_
  (conv => whnf); repeat ((first | refine RngK.mk (by omega) (by omega) ?_ | refine NzK.mk (by omega) ?_ | refine NnK.mk (by omega) ?_ | refine BdK.mk (by omega) (by omega) (by omega) ?_ | refine InsK.lit (by omega) (by omega) ?_ | refine SpK.lit ?_ | refine GrdK.same ?_ | refine GrdK.tf ?_ | refine GrdK.ft ?_ | refine PickK.t ?_ | refine PickK.f ?_); (conv => whnf))
  rw [e0]
  obtain ⟨R, hR⟩ : ∃ R, spS (num bs) n most (most + 3) (8 * off + 4) (2 ^ (acc + 5)) [] = R := ⟨_, rfl⟩
  rw [hR] at hwr
  have hrt' : ∀ cs p, acc + 5 ≤ bits → R = .right cs p → rfS (num bs) n off most bits = some (cs, acc + 5, p) := fun cs p h1 h2 => by
    have := hrt cs p h1
    rw [hR] at this
    exact this h2
  clear hrt
  have hI0 : SI (num bs) n most b R (b = acc + 5) ⟨most + 3, p, 2 ^ b, [], some ⟨b14, 0, none⟩, 0, sh⟩ :=
    ⟨fun h => by have := (hsh h).2; omega, fun h => by obtain ⟨h1, h2⟩ := hsh h; dsimp only; rw [← hR, h1, ← hbe, h2], by dsimp only; omega, by dsimp only; simp, hp8, Nat.le_refl _, Nat.zero_le _⟩
  refine Wp.cutEx 0 (fun s : SS => [(2, vN most), (12, .pointer (some ⟨b12, 0, none⟩)), (13, vN b), (14, .slice s.A s.cs.length s.c)])
    (fun s => [.blk b12 117 [.slice A n c, vN s.p, vB s.sh], .own s.A s.cs.length s.c 3 1 (s.cs.map vI)])
    (fun s => SI (num bs) n most b R (b = acc + 5) s ∧ s.left = 0) ?_ fun ⟨f, p, left, cs, A4, c4, sh⟩ ⟨hI, hex⟩ => ?_
  · refine Wp.loop (fun s : SS => [(2, vN most), (12, .pointer (some ⟨b12, 0, none⟩)), (13, vN b), (14, .slice s.A s.cs.length s.c), (15, vN s.left)])
      (fun s => [.blk b12 117 [.slice A n c, vN s.p, vB s.sh], .own s.A s.cs.length s.c 3 1 (s.cs.map vI)])
      (fun s => SI (num bs) n most b R (b = acc + 5) s) (fun s => s.f) ⟨most + 3, p, 2 ^ b, [], some ⟨b14, 0, none⟩, 0, sh⟩
      ⟨rfl, rfl, rfl, rfl, rfl, trivial⟩ (HSub.of [1, 0] rfl) hI0 fun ⟨f, p, left, cs, A4, c4, sh⟩ hI => ?_
    have hIr := hI.r
    have i1 := hI.f1
    have i2 := hI.f2
    have i3 := hI.p_
    have i4 := hI.le
    have i5 := hI.ln
    dsimp only at hIr i1 i2 i3 i4 i5 ⊢
    obtain ⟨f, rfl⟩ : ∃ f', f = f' + 1 := ⟨f - 1, by omega⟩
    rw [spS] at hIr
    (conv => whnf); repeat ((first | refine RngK.mk (by omega) (by omega) ?_ | refine NzK.mk (by omega) ?_ | refine NnK.mk (by omega) ?_ | refine BdK.mk (by omega) (by omega) (by omega) ?_ | refine InsK.lit (by omega) (by omega) ?_ | refine SpK.lit ?_ | refine GrdK.same ?_ | refine GrdK.tf ?_ | refine GrdK.ft ?_ | refine PickK.t ?_ | refine PickK.f ?_); (conv => whnf))
    refine Wp.cond rfl (fun h => ?_) (fun h => ?_)
    rotate_left
    · have h := dF h
      (conv => whnf); repeat ((first | refine RngK.mk (by omega) (by omega) ?_ | refine NzK.mk (by omega) ?_ | refine NnK.mk (by omega) ?_ | refine BdK.mk (by omega) (by omega) (by omega) ?_ | refine InsK.lit (by omega) (by omega) ?_ | refine SpK.lit ?_ | refine GrdK.same ?_ | refine GrdK.tf ?_ | refine GrdK.ft ?_ | refine PickK.t ?_ | refine PickK.f ?_); (conv => whnf))
      exact ⟨⟨f + 1, p, left, cs, A4, c4, sh⟩, ⟨rfl, rfl, rfl, rfl, trivial⟩, HSub.refl _, hI, by dsimp only; omega⟩
    have h := dT h
    have h0 : left ≠ 0 := by omega
    rw [if_neg h0] at hIr
    (conv => whnf); repeat ((first | refine RngK.mk (by omega) (by omega) ?_ | refine NzK.mk (by omega) ?_ | refine NnK.mk (by omega) ?_ | refine BdK.mk (by omega) (by omega) (by omega) ?_ | refine InsK.lit (by omega) (by omega) ?_ | refine SpK.lit ?_ | refine GrdK.same ?_ | refine GrdK.tf ?_ | refine GrdK.ft ?_ | refine PickK.t ?_ | refine PickK.f ?_); (conv => whnf))
    refine Wp.cond rfl (fun h1 => ?_) (fun h1 => ?_)
    · have h1 : ((cs.length : Nat) : Int) > ((most : Nat) : Int) := dT h1
      rw [if_pos (by omega)] at hIr
      (conv => whnf); repeat ((first | refine RngK.mk (by omega) (by omega) ?_ | refine NzK.mk (by omega) ?_ | refine NnK.mk (by omega) ?_ | refine BdK.mk (by omega) (by omega) (by omega) ?_ | refine InsK.lit (by omega) (by omega) ?_ | refine SpK.lit ?_ | refine GrdK.same ?_ | refine GrdK.tf ?_ | refine GrdK.ft ?_ | refine PickK.t ?_ | refine PickK.f ?_); (conv => whnf))
      refine CallK.of [0] (told_spec b12 A n c p sh false hn i3) rfl (fun _ _ => trivial) ?_
      rintro _ _ ⟨rfl, rfl⟩
      (conv => whnf); repeat ((first | refine RngK.mk (by omega) (by omega) ?_ | refine NzK.mk (by omega) ?_ | refine NnK.mk (by omega) ?_ | refine BdK.mk (by omega) (by omega) (by omega) ?_ | refine InsK.lit (by omega) (by omega) ?_ | refine SpK.lit ?_ | refine GrdK.same ?_ | refine GrdK.tf ?_ | refine GrdK.ft ?_ | refine PickK.t ?_ | refine PickK.f ?_); (conv => whnf))
      refine ⟨_, HSub.nil _, none, 0, 0, 0, 0, toldN n p sh false, rfl, ?_⟩
      unfold toldN
      by_cases hc : sh = true ∨ 8 * n < p + 32
      · rw [if_pos hc]
        exact .inr (.inr ⟨rfl, rfl⟩)
      · rw [if_neg hc, if_neg (by simp)]
        have hs : sh = false := by cases sh with | false => rfl | true => exact absurd (.inl rfl) hc
        have h2 := hIr hs
        rw [if_neg (fun h => hc (.inr h))] at h2
        exact .inr (.inl ⟨rfl, hwr h2.symm, rfl⟩)
    have h1 : ¬ ((cs.length : Nat) : Int) > ((most : Nat) : Int) := dF h1
    rw [if_neg (by omega)] at hIr
    (conv => whnf); repeat ((first | refine RngK.mk (by omega) (by omega) ?_ | refine NzK.mk (by omega) ?_ | refine NnK.mk (by omega) ?_ | refine BdK.mk (by omega) (by omega) (by omega) ?_ | refine InsK.lit (by omega) (by omega) ?_ | refine SpK.lit ?_ | refine GrdK.same ?_ | refine GrdK.tf ?_ | refine GrdK.ft ?_ | refine PickK.t ?_ | refine PickK.f ?_); (conv => whnf))
    refine CallK.of [0] (ccount_spec b12 A n c bs p left sh hn i3 (by omega) (by omega)) rfl (fun w hw => hp.pass hw) ?_
    rintro _ _ ⟨x, pl, sh', rfl, rfl, hpl, hx1, hx2⟩
    (conv => whnf); repeat ((first | refine RngK.mk (by omega) (by omega) ?_ | refine NzK.mk (by omega) ?_ | refine NnK.mk (by omega) ?_ | refine BdK.mk (by omega) (by omega) (by omega) ?_ | refine InsK.lit (by omega) (by omega) ?_ | refine SpK.lit ?_ | refine GrdK.same ?_ | refine GrdK.tf ?_ | refine GrdK.ft ?_ | refine PickK.t ?_ | refine PickK.f ?_); (conv => whnf))
    refine LdK.blk 0 rfl rfl rfl rfl ?_
    (conv => whnf); repeat ((first | refine RngK.mk (by omega) (by omega) ?_ | refine NzK.mk (by omega) ?_ | refine NnK.mk (by omega) ?_ | refine BdK.mk (by omega) (by omega) (by omega) ?_ | refine InsK.lit (by omega) (by omega) ?_ | refine SpK.lit ?_ | refine GrdK.same ?_ | refine GrdK.tf ?_ | refine GrdK.ft ?_ | refine PickK.t ?_ | refine PickK.f ?_); (conv => whnf))
    cases sh' with
    | true =>
      refine Wp.cond rfl (fun _ => ?_) (fun h => by cases h)
      (conv => whnf); repeat ((first | refine RngK.mk (by omega) (by omega) ?_ | refine NzK.mk (by omega) ?_ | refine NnK.mk (by omega) ?_ | refine BdK.mk (by omega) (by omega) (by omega) ?_ | refine InsK.lit (by omega) (by omega) ?_ | refine SpK.lit ?_ | refine GrdK.same ?_ | refine GrdK.tf ?_ | refine GrdK.ft ?_ | refine PickK.t ?_ | refine PickK.f ?_); (conv => whnf))
      exact ⟨_, HSub.nil _, none, 0, 0, 0, 0, 2, rfl, .inr (.inr ⟨rfl, rfl⟩)⟩
    | false =>
    refine Wp.cond rfl (fun h => by cases h) (fun _ => ?_)
    have hnl : ¬ 8 * n < p + (cntV (num bs) p left).2 := fun h => by have := hx2 h; cases this
    obtain ⟨rfl, rfl, hss⟩ := hx1 (by omega)
    have hIr := hIr hss.symm
    rw [if_neg hnl] at hIr
    obtain ⟨cv1, cv2, cv3⟩ := cntV_le (num bs) p left
    obtain ⟨rv1, rv2, rv3, rv4, rv5⟩ := rN_intV cv1 (by omega)
    generalize intV (cntV (num bs) p left).1 = x at *
    obtain ⟨p1, hp1⟩ : ∃ p1, p + (cntV (num bs) p left).2 = p1 := ⟨_, rfl⟩
    rw [hp1] at hIr hpl ⊢
    (conv => whnf); repeat ((first | refine RngK.mk (by omega) (by omega) ?_ | refine NzK.mk (by omega) ?_ | refine NnK.mk (by omega) ?_ | refine BdK.mk (by omega) (by omega) (by omega) ?_ | refine InsK.lit (by omega) (by omega) ?_ | refine SpK.lit ?_ | refine GrdK.same ?_ | refine GrdK.tf ?_ | refine GrdK.ft ?_ | refine PickK.t ?_ | refine PickK.f ?_); (conv => whnf))
    refine EffK.litV rfl rfl rfl rfl rfl rfl rfl rfl rfl ?_
    (conv => whnf); repeat ((first | refine RngK.mk (by omega) (by omega) ?_ | refine NzK.mk (by omega) ?_ | refine NnK.mk (by omega) ?_ | refine BdK.mk (by omega) (by omega) (by omega) ?_ | refine InsK.lit (by omega) (by omega) ?_ | refine SpK.lit ?_ | refine GrdK.same ?_ | refine GrdK.tf ?_ | refine GrdK.ft ?_ | refine PickK.t ?_ | refine PickK.f ?_); (conv => whnf))
    intro b5
    (conv => whnf); repeat ((first | refine RngK.mk (by omega) (by omega) ?_ | refine NzK.mk (by omega) ?_ | refine NnK.mk (by omega) ?_ | refine BdK.mk (by omega) (by omega) (by omega) ?_ | refine InsK.lit (by omega) (by omega) ?_ | refine SpK.lit ?_ | refine GrdK.same ?_ | refine GrdK.tf ?_ | refine GrdK.ft ?_ | refine PickK.t ?_ | refine PickK.f ?_); (conv => whnf))
    refine EffK.append 2 (news := [vI x]) rfl rfl rfl rfl rfl rfl rfl rfl (Src.ownW (k := 0) rfl rfl) (by intro u hu; rcases List.mem_singleton.1 hu with rfl; rfl) (by simp [maxLen]; omega) (by show (_ + _) * 8 ≤ _; omega) fun A5 c5 => ?_
    (conv => whnf); repeat ((first | refine RngK.mk (by omega) (by omega) ?_ | refine NzK.mk (by omega) ?_ | refine NnK.mk (by omega) ?_ | refine BdK.mk (by omega) (by omega) (by omega) ?_ | refine InsK.lit (by omega) (by omega) ?_ | refine SpK.lit ?_ | refine GrdK.same ?_ | refine GrdK.tf ?_ | refine GrdK.ft ?_ | refine PickK.t ?_ | refine PickK.f ?_); (conv => whnf))
    refine CallK.of0 (room_spec x) ?_
    rintro _ _ ⟨rfl, rfl⟩
    have er : ((left : Nat) : Int) - roomN x = ((left - rN x : Nat) : Int) := by
      have : roomN x = ((rN x : Nat) : Int) := by
        unfold roomN rN
        split <;> omega
      rw [this]
      omega
    have erb : -1 ≤ roomN x ∧ roomN x ≤ 512 := by unfold roomN; split <;> omega
    (conv => whnf); repeat ((first | refine RngK.mk (by omega) (by omega) ?_ | refine NzK.mk (by omega) ?_ | refine NnK.mk (by omega) ?_ | refine BdK.mk (by omega) (by omega) (by omega) ?_ | refine InsK.lit (by omega) (by omega) ?_ | refine SpK.lit ?_ | refine GrdK.same ?_ | refine GrdK.tf ?_ | refine GrdK.ft ?_ | refine PickK.t ?_ | refine PickK.f ?_); (conv => whnf))
    rw [er]
    obtain ⟨l2, hl2⟩ : ∃ l2, left - rN x = l2 := ⟨_, rfl⟩
    rw [hl2] at hIr ⊢
    (conv => whnf); repeat ((first | refine RngK.mk (by omega) (by omega) ?_ | refine NzK.mk (by omega) ?_ | refine NnK.mk (by omega) ?_ | refine BdK.mk (by omega) (by omega) (by omega) ?_ | refine InsK.lit (by omega) (by omega) ?_ | refine SpK.lit ?_ | refine GrdK.same ?_ | refine GrdK.tf ?_ | refine GrdK.ft ?_ | refine PickK.t ?_ | refine PickK.f ?_); (conv => whnf))
    obtain ⟨FR, hFR⟩ : ∃ FR, flagsS (num bs) n (8 * n) p1 0 = FR := ⟨_, rfl⟩
    rw [hFR] at hIr
    have hlen0 : (cs ++ [x] ++ List.replicate 0 0).length = cs.length + 1 := by simp
    refine Wp.cutEx 2 (fun s : ZS => [(2, vN most), (12, .pointer (some ⟨b12, 0, none⟩)), (13, vN b), (14, .slice s.A (cs ++ [x] ++ List.replicate s.k 0).length s.c), (15, vN l2)])
      (fun s => [.blk b12 117 [.slice A n c, vN s.p, vB s.sh], .own s.A (cs ++ [x] ++ List.replicate s.k 0).length s.c 3 1 ((cs ++ [x] ++ List.replicate s.k 0).map vI)])
      (fun s => ZI (num bs) n x p1 FR s ∧ (x ≠ 0 ∨ s.zr ≠ 3)) ?_ fun ⟨g, zr, k, p, A6, c6, sh6⟩ ⟨hZ, hzx⟩ => ?_
    · refine Wp.loop (fun s : ZS => [(2, vN most), (12, .pointer (some ⟨b12, 0, none⟩)), (13, vN b), (14, .slice s.A (cs ++ [x] ++ List.replicate s.k 0).length s.c), (15, vN l2), (16, vI x), (17, vN s.zr)])
        (fun s => [.blk b12 117 [.slice A n c, vN s.p, vB s.sh], .own s.A (cs ++ [x] ++ List.replicate s.k 0).length s.c 3 1 ((cs ++ [x] ++ List.replicate s.k 0).map vI)])
        (fun s => ZI (num bs) n x p1 FR s) (fun s => (8 * n - s.p) + (if s.zr = 3 then 1 else 0)) ⟨8 * n, 3, 0, p1, A5, c5, false⟩
        ⟨rfl, rfl, rfl, by show some (Value.slice _ _ _) = some (Value.slice _ _ _); rw [hlen0], rfl, rfl, rfl, trivial⟩ (by dsimp only; rw [List.replicate_zero, List.append_nil, List.length_append, List.map_append]; exact HSub.of [1, 1] rfl)
        ⟨fun _ _ _ => hFR, fun _ _ h => absurd rfl h, fun _ => ⟨rfl, rfl, rfl⟩, by dsimp only; omega, hpl, Nat.le_refl _, by dsimp only; omega⟩ fun ⟨g, zr, k, p, A6, c6, sh6⟩ hZ => ?_
      have z1 := hZ.r3
      have z2 := hZ.r0
      have z3 := hZ.ne
      have z4 := hZ.f1
      have z5 := hZ.p_
      have z6 := hZ.z3
      have z7 := hZ.k2
      dsimp only at z1 z2 z3 z4 z5 z6 z7 ⊢
      have hll : (cs ++ [x] ++ List.replicate k 0).length = cs.length + 1 + k := by simp; omega
      (conv => whnf); repeat ((first | refine RngK.mk (by omega) (by omega) ?_ | refine NzK.mk (by omega) ?_ | refine NnK.mk (by omega) ?_ | refine BdK.mk (by omega) (by omega) (by omega) ?_ | refine InsK.lit (by omega) (by omega) ?_ | refine SpK.lit ?_ | refine GrdK.same ?_ | refine GrdK.tf ?_ | refine GrdK.ft ?_ | refine PickK.t ?_ | refine PickK.f ?_); (conv => whnf))
      by_cases hx0 : x = 0
      · rw [show (x == (0 : Int)) = true by simpa using hx0]
        (conv => whnf); repeat ((first | refine RngK.mk (by omega) (by omega) ?_ | refine NzK.mk (by omega) ?_ | refine NnK.mk (by omega) ?_ | refine BdK.mk (by omega) (by omega) (by omega) ?_ | refine InsK.lit (by omega) (by omega) ?_ | refine SpK.lit ?_ | refine GrdK.same ?_ | refine GrdK.tf ?_ | refine GrdK.ft ?_ | refine PickK.t ?_ | refine PickK.f ?_); (conv => whnf))
        refine Wp.cond rfl (fun h => ?_) (fun h => ?_)
        rotate_left
        · have h : ((zr : Nat) : Int) ≠ 3 := eqF h
          (conv => whnf); repeat ((first | refine RngK.mk (by omega) (by omega) ?_ | refine NzK.mk (by omega) ?_ | refine NnK.mk (by omega) ?_ | refine BdK.mk (by omega) (by omega) (by omega) ?_ | refine InsK.lit (by omega) (by omega) ?_ | refine SpK.lit ?_ | refine GrdK.same ?_ | refine GrdK.tf ?_ | refine GrdK.ft ?_ | refine PickK.t ?_ | refine PickK.f ?_); (conv => whnf))
          exact ⟨⟨g, zr, k, p, A6, c6, sh6⟩, ⟨rfl, rfl, rfl, rfl, rfl, trivial⟩, HSub.refl _, hZ, .inr (by dsimp only; omega)⟩
        have h : ((zr : Nat) : Int) = 3 := eqT h
        have hzr : zr = 3 := by omega
        subst hzr
        (conv => whnf); repeat ((first | refine RngK.mk (by omega) (by omega) ?_ | refine NzK.mk (by omega) ?_ | refine NnK.mk (by omega) ?_ | refine BdK.mk (by omega) (by omega) (by omega) ?_ | refine InsK.lit (by omega) (by omega) ?_ | refine SpK.lit ?_ | refine GrdK.same ?_ | refine GrdK.tf ?_ | refine GrdK.ft ?_ | refine PickK.t ?_ | refine PickK.f ?_); (conv => whnf))
        refine CallK.of [0] (cbits_spec b12 A n c bs p 2 sh6 hn z5 (by omega)) rfl (fun w hw => hp.pass hw) ?_
        rintro _ _ (⟨y1, rfl, rfl⟩ | ⟨y1, rfl, rfl⟩)
        · (conv => whnf); repeat ((first | refine RngK.mk (by omega) (by omega) ?_ | refine NzK.mk (by omega) ?_ | refine NnK.mk (by omega) ?_ | refine BdK.mk (by omega) (by omega) (by omega) ?_ | refine InsK.lit (by omega) (by omega) ?_ | refine SpK.lit ?_ | refine GrdK.same ?_ | refine GrdK.tf ?_ | refine GrdK.ft ?_ | refine PickK.t ?_ | refine PickK.f ?_); (conv => whnf))
          refine EffK.appendZ 1 0 rfl rfl rfl rfl rfl rfl rfl rfl (by simp [maxLen]; omega) (by show (_ + _) * 8 ≤ _; rw [hll]; omega) fun A7 c7 => ?_
          (conv => whnf); repeat ((first | refine RngK.mk (by omega) (by omega) ?_ | refine NzK.mk (by omega) ?_ | refine NnK.mk (by omega) ?_ | refine BdK.mk (by omega) (by omega) (by omega) ?_ | refine InsK.lit (by omega) (by omega) ?_ | refine SpK.lit ?_ | refine GrdK.same ?_ | refine GrdK.tf ?_ | refine GrdK.ft ?_ | refine PickK.t ?_ | refine PickK.f ?_); (conv => whnf))
          exact ⟨⟨g, 0, k, p, A7, c7, true⟩, ⟨rfl, rfl, rfl, rfl, rfl, rfl, rfl, trivial⟩, by dsimp only; rw [List.replicate_zero, List.append_nil]; exact HSub.refl _,
            ⟨fun h => (by cases h), fun h => (by cases h), fun h => absurd hx0 h, z4, z5, Nat.zero_le _, z7⟩, by dsimp only; simp⟩
        · have hb2 := bitsN_lt (num bs) p 2
          obtain ⟨b2, hb2e⟩ : ∃ b2, bitsN (num bs) p 2 = b2 := ⟨_, rfl⟩
          rw [hb2e] at hb2 ⊢
          obtain ⟨g, rfl⟩ : ∃ g', g = g' + 1 := ⟨g - 1, by omega⟩
          (conv => whnf); repeat ((first | refine RngK.mk (by omega) (by omega) ?_ | refine NzK.mk (by omega) ?_ | refine NnK.mk (by omega) ?_ | refine BdK.mk (by omega) (by omega) (by omega) ?_ | refine InsK.lit (by omega) (by omega) ?_ | refine SpK.lit ?_ | refine GrdK.same ?_ | refine GrdK.tf ?_ | refine GrdK.ft ?_ | refine PickK.t ?_ | refine PickK.f ?_); (conv => whnf))
          refine EffK.appendZ 1 b2 rfl rfl rfl rfl rfl rfl rfl rfl (by simp [maxLen]; omega) (by show (_ + _) * 8 ≤ _; rw [hll]; omega) fun A7 c7 => ?_
          (conv => whnf); repeat ((first | refine RngK.mk (by omega) (by omega) ?_ | refine NzK.mk (by omega) ?_ | refine NnK.mk (by omega) ?_ | refine BdK.mk (by omega) (by omega) (by omega) ?_ | refine InsK.lit (by omega) (by omega) ?_ | refine SpK.lit ?_ | refine GrdK.same ?_ | refine GrdK.tf ?_ | refine GrdK.ft ?_ | refine PickK.t ?_ | refine PickK.f ?_); (conv => whnf))
          have hrep : cs ++ [x] ++ List.replicate k 0 ++ List.replicate b2 0 = cs ++ [x] ++ List.replicate (k + b2) 0 := by
            rw [List.append_assoc, List.replicate_append_replicate]
          have hl3 : (cs ++ [x] ++ List.replicate (k + b2) 0).length = (cs ++ [x] ++ List.replicate k 0).length + b2 := by rw [← hrep]; simp; omega
          refine ⟨⟨g, b2, k + b2, p + 2, A7, c7, sh6⟩, ⟨rfl, rfl, rfl, ?_, rfl, rfl, rfl, trivial⟩, ?_, ⟨fun h1 h2 h3 => ?_, fun h1 h2 h3 => ?_, fun h => absurd hx0 h, by dsimp only; omega, y1, by dsimp only; omega, by dsimp only; omega⟩, ?_⟩
          · show some (Value.slice A7 _ c7) = some (Value.slice A7 _ c7)
            rw [hl3]
          · dsimp only
            rw [hl3, ← hrep, List.map_append (l₂ := List.replicate b2 0), List.map_replicate]
            exact HSub.refl _
          · dsimp only at h1 h2 h3 ⊢
            have := z1 h1 hx0 rfl
            rw [flagsS, if_neg (by omega), hb2e, if_pos h3] at this
            rw [h3]
            exact this
          · dsimp only at h1 h2 h3 ⊢
            have := z1 h1 hx0 rfl
            rw [flagsS, if_neg (by omega), hb2e, if_neg h3] at this
            exact this.symm
          · dsimp only
            split <;> omega
      · rw [show (x == (0 : Int)) = false by simpa using hx0]
        (conv => whnf); repeat ((first | refine RngK.mk (by omega) (by omega) ?_ | refine NzK.mk (by omega) ?_ | refine NnK.mk (by omega) ?_ | refine BdK.mk (by omega) (by omega) (by omega) ?_ | refine InsK.lit (by omega) (by omega) ?_ | refine SpK.lit ?_ | refine GrdK.same ?_ | refine GrdK.tf ?_ | refine GrdK.ft ?_ | refine PickK.t ?_ | refine PickK.f ?_); (conv => whnf))
        refine Wp.cond rfl (fun h => by cases h) (fun _ => ?_)
        (conv => whnf); repeat ((first | refine RngK.mk (by omega) (by omega) ?_ | refine NzK.mk (by omega) ?_ | refine NnK.mk (by omega) ?_ | refine BdK.mk (by omega) (by omega) (by omega) ?_ | refine InsK.lit (by omega) (by omega) ?_ | refine SpK.lit ?_ | refine GrdK.same ?_ | refine GrdK.tf ?_ | refine GrdK.ft ?_ | refine PickK.t ?_ | refine PickK.f ?_); (conv => whnf))
        exact ⟨⟨g, zr, k, p, A6, c6, sh6⟩, ⟨rfl, rfl, rfl, rfl, rfl, trivial⟩, HSub.refl _, hZ, .inl hx0⟩
    have z1 := hZ.r3
    have z2 := hZ.r0
    have z3 := hZ.ne
    have z4 := hZ.f1
    have z5 := hZ.p_
    have z6 := hZ.z3
    have z7 := hZ.k2
    dsimp only at z1 z2 z3 z4 z5 z6 z7 hzx ⊢
    have hll : (cs ++ [x] ++ List.replicate k 0).length = cs.length + 1 + k := by simp; omega
    (conv => whnf); repeat ((first | refine RngK.mk (by omega) (by omega) ?_ | refine NzK.mk (by omega) ?_ | refine NnK.mk (by omega) ?_ | refine BdK.mk (by omega) (by omega) (by omega) ?_ | refine InsK.lit (by omega) (by omega) ?_ | refine SpK.lit ?_ | refine GrdK.same ?_ | refine GrdK.tf ?_ | refine GrdK.ft ?_ | refine PickK.t ?_ | refine PickK.f ?_); (conv => whnf))
    refine ⟨⟨f, p, l2, cs ++ [x] ++ List.replicate k 0, A6, c6, sh6⟩, ⟨rfl, rfl, rfl, rfl, rfl, trivial⟩, HSub.refl _, ⟨fun _ => hI.bq hss.symm, fun hs => ?_, by dsimp only; omega, by dsimp only; omega, z5, by dsimp only; omega, by dsimp only; omega⟩, by dsimp only; omega⟩
    dsimp only at hs ⊢
    by_cases hx0 : x = 0
    · rw [if_pos hx0] at hIr
      rw [z2 hs hx0 (hzx.resolve_left (fun h => h hx0))] at hIr
      simp only at hIr
      have : l2 = left := by rw [← hl2, rv5 hx0]; rfl
      rw [hx0, this]
      exact hIr
    · obtain ⟨y1, y2, y3⟩ := z3 hx0
      rw [if_neg hx0] at hIr
      rw [y1, y3, List.replicate_zero, List.append_nil]
      exact hIr
  · have hIr := hI.r
    have i1 := hI.f1
    have i3 := hI.p_
    have i5 := hI.ln
    dsimp only at hIr i1 i3 i5 hex ⊢
    subst hex
    obtain ⟨f, rfl⟩ : ∃ f', f = f' + 1 := ⟨f - 1, by omega⟩
    rw [spS, if_pos rfl] at hIr
    (conv => whnf); repeat ((first | refine RngK.mk (by omega) (by omega) ?_ | refine NzK.mk (by omega) ?_ | refine NnK.mk (by omega) ?_ | refine BdK.mk (by omega) (by omega) (by omega) ?_ | refine InsK.lit (by omega) (by omega) ?_ | refine SpK.lit ?_ | refine GrdK.same ?_ | refine GrdK.tf ?_ | refine GrdK.ft ?_ | refine PickK.t ?_ | refine PickK.f ?_); (conv => whnf))
    refine DrwK.ord (by kernel_rfl) [0, 1, 2, 3, 4, 5, 6, 7, 8, 9, 10, 11, 12, 13, 14, 15, 16, 17, 18] (by kernel_rfl) ?_; conv => whnf
    (conv => whnf); repeat ((first | refine RngK.mk (by omega) (by omega) ?_ | refine NzK.mk (by omega) ?_ | refine NnK.mk (by omega) ?_ | refine BdK.mk (by omega) (by omega) (by omega) ?_ | refine InsK.lit (by omega) (by omega) ?_ | refine SpK.lit ?_ | refine GrdK.same ?_ | refine GrdK.tf ?_ | refine GrdK.ft ?_ | refine PickK.t ?_ | refine PickK.f ?_); (conv => whnf))
    have ep : (((p : Nat) : Int) + 7).tdiv 8 = (((p + 7) / 8 : Nat) : Int) := rfl
    refine LdK.blk 0 rfl rfl rfl rfl ?_
    (conv => whnf); repeat ((first | refine RngK.mk (by omega) (by omega) ?_ | refine NzK.mk (by omega) ?_ | refine NnK.mk (by omega) ?_ | refine BdK.mk (by omega) (by omega) (by omega) ?_ | refine InsK.lit (by omega) (by omega) ?_ | refine SpK.lit ?_ | refine GrdK.same ?_ | refine GrdK.tf ?_ | refine GrdK.ft ?_ | refine PickK.t ?_ | refine PickK.f ?_); (conv => whnf))
    refine CallK.of [0] (told_spec b12 A n c p sh (decide (((cs.length : Nat) : Int) ≤ ((most : Nat) : Int) + 1)) hn i3) rfl (fun _ _ => trivial) ?_
    rintro _ _ ⟨rfl, rfl⟩
    (conv => whnf); repeat ((first | refine RngK.mk (by omega) (by omega) ?_ | refine NzK.mk (by omega) ?_ | refine NnK.mk (by omega) ?_ | refine BdK.mk (by omega) (by omega) (by omega) ?_ | refine InsK.lit (by omega) (by omega) ?_ | refine SpK.lit ?_ | refine GrdK.same ?_ | refine GrdK.tf ?_ | refine GrdK.ft ?_ | refine PickK.t ?_ | refine PickK.f ?_); (conv => whnf))
    refine KfK.of (LdK.blk 0 rfl rfl rfl rfl rfl) ?_
    (conv => whnf); repeat ((first | refine RngK.mk (by omega) (by omega) ?_ | refine NzK.mk (by omega) ?_ | refine NnK.mk (by omega) ?_ | refine BdK.mk (by omega) (by omega) (by omega) ?_ | refine InsK.lit (by omega) (by omega) ?_ | refine SpK.lit ?_ | refine GrdK.same ?_ | refine GrdK.tf ?_ | refine GrdK.ft ?_ | refine PickK.t ?_ | refine PickK.f ?_); (conv => whnf))
    rw [ep]
    unfold toldN
    by_cases hc : sh = true ∨ 8 * n < p + 32
    · rw [if_pos hc]
      exact ⟨_, HSub.nil _, A4, cs.length, c4, b, (p + 7) / 8, 2, rfl, .inr (.inr ⟨rfl, rfl⟩)⟩
    · rw [if_neg hc]
      have hs : sh = false := by cases sh with | false => rfl | true => exact absurd (.inl rfl) hc
      have hIr := hIr hs
      rw [if_neg (fun h => hc (.inr h))] at hIr
      by_cases hle : cs.length ≤ most + 1
      · rw [if_pos hle] at hIr
        rw [decide_eq_true (show ((cs.length : Nat) : Int) ≤ ((most : Nat) : Int) + 1 by omega), if_pos rfl]
        have hba : b = acc + 5 := hI.bq hs
        exact ⟨_, HSub.of [1] rfl, A4, cs.length, c4, b, (p + 7) / 8, 0, rfl, .inl ⟨rfl, cs, acc + 5, p, hrt' cs p (by omega) hIr.symm, rfl, hba, rfl, rfl⟩⟩
      · rw [if_neg hle] at hIr
        rw [decide_eq_false (show ¬ ((cs.length : Nat) : Int) ≤ ((most : Nat) : Int) + 1 by omega), if_neg (by simp)]
        exact ⟨_, HSub.nil _, A4, cs.length, c4, b, (p + 7) / 8, 1, rfl, .inr (.inl ⟨rfl, hwr hIr.symm, rfl⟩)⟩
end Go.Proofs.YtgdhdkjbilifiaaDoor
