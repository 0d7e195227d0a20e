/- readHuff: weights that a table of states tells. -/
import Derived.Test.YtgdhdkjbilifiaaDoorPkA
namespace Go.Proofs.YtgdhdkjbilifiaaDoor
open Go Go.Sx
set_option maxRecDepth 100000
structure PS where
  f : Nat
  a : Nat
  b : Nat
  ws : List Nat
  o : Nat
  bi : Nat
  cn : Nat
structure PI (bs : List UInt8) (st fb : Nat) (E : List St) (R : Option (List Nat)) (s : PS) : Prop where
  a_ : s.a < 2 ^ fb
  b_ : s.b < 2 ^ fb
  fl : s.f + s.ws.length = 257
  le : s.ws.length ≤ 255
  I : RbI (num bs) bs.length st s.o s.bi s.cn
  r : pkL (num bs) st E s.f s.a s.b (8 * s.o + s.cn) s.ws = R
def outP (T : Option Addr) (m mc p : Nat) (R : Option (List Nat)) (v : Value) (H : Hp) : Prop := HuffOut T m mc p (R.bind hufS) v H
set_option maxHeartbeats 8000000 in
theorem readHuffP_spec (r : Nat) (A : Option Addr) (n c : Nat) (bs : List UInt8) (e u : Addr) (off : Nat) (T : Option Addr) (m mc : Nat) (xs : List Nat) (cs0 : List Value) (hn : n ≤ 16777216) (ho : off < bs.length) (hd : bs[off].toNat < 128) (hx : xs.length = m) (hm : 2048 ≤ m) (hmm : m ≤ 1000000)
    (h60 : cs0[6]? = some (vI 0)) (h210 : cs0[44]? = some (.slice none 0 0)) :
    FnS Tryd.prog 53 [.pointer (some ⟨r, 0, none⟩), .slice A n c, vN off, .slice T m mc] [.own T m mc 109 1 (xs.map vU16), .blk r 107 cs0]
      (fun w => Bytes w (blocks [.own T m mc 109 1 (xs.map vU16), .blk r 107 cs0]) A n c bs ∧ Laid w (blocks [.own T m mc 109 1 (xs.map vU16), .blk r 107 cs0]) e u)
      (outP T m mc (off + 1 + bs[off].toNat) (pkW bs off bs[off].toNat)) := by
  refine FnS.introD Tryd.func53 rfl (by kernel_rfl) rfl fun w hH ⟨hp, hL⟩ => ?_
  obtain rfl : bs.length = n := hp.len
  have hle := hp.le
  have hT : OwnA T m mc := OwnA.of (hH.ok _ List.mem_cons_self)
  obtain ⟨R, hR⟩ : ∃ R, pkW bs off bs[off].toNat = R := ⟨_, rfl⟩
  rw [hR]
  have hRf := fun ws (h : R = some ws) => pkW_facts (hR.trans h)
  generalize hW : blocks [.own T m mc 109 1 (xs.map vU16), .blk r 107 cs0] = W at hp hL ⊢
  (conv => whnf); repeat ((first | refine RngK.mk (by omega) (by omega) ?_ | refine NzK.mk (by omega) ?_ | refine NnK.mk (by omega) ?_ | refine BdK.mk (by omega) (by omega) (by omega) ?_ | refine InsK.lit (by omega) (by omega) ?_ | refine SpK.lit ?_ | refine GrdK.same ?_ | refine GrdK.tf ?_ | refine GrdK.ft ?_ | refine PickK.t ?_ | refine PickK.f ?_); (conv => whnf))
  refine Wp.cond rfl (fun h => ?_) (fun _ => ?_)
  · have h := dT h
    omega
  (conv => whnf); repeat ((first | refine RngK.mk (by omega) (by omega) ?_ | refine NzK.mk (by omega) ?_ | refine NnK.mk (by omega) ?_ | refine BdK.mk (by omega) (by omega) (by omega) ?_ | refine InsK.lit (by omega) (by omega) ?_ | refine SpK.lit ?_ | refine GrdK.same ?_ | refine GrdK.tf ?_ | refine GrdK.ft ?_ | refine PickK.t ?_ | refine PickK.f ?_); (conv => whnf))
  refine InsK.rd hp.rd (by omega) (by omega) ?_
  (conv => whnf); repeat ((first | refine RngK.mk (by omega) (by omega) ?_ | refine NzK.mk (by omega) ?_ | refine NnK.mk (by omega) ?_ | refine BdK.mk (by omega) (by omega) (by omega) ?_ | refine InsK.lit (by omega) (by omega) ?_ | refine SpK.lit ?_ | refine GrdK.same ?_ | refine GrdK.tf ?_ | refine GrdK.ft ?_ | refine PickK.t ?_ | refine PickK.f ?_); (conv => whnf))
  refine LdK.rd (v := vU8 bs[off]) hp.rd off rfl rfl rfl (by simp [ho]) ?_
  (conv => whnf); repeat ((first | refine RngK.mk (by omega) (by omega) ?_ | refine NzK.mk (by omega) ?_ | refine NnK.mk (by omega) ?_ | refine BdK.mk (by omega) (by omega) (by omega) ?_ | refine InsK.lit (by omega) (by omega) ?_ | refine SpK.lit ?_ | refine GrdK.same ?_ | refine GrdK.tf ?_ | refine GrdK.ft ?_ | refine PickK.t ?_ | refine PickK.f ?_); (conv => whnf))
  refine NewK.rep (List.replicate 256 (vW8 0)) rfl rfl (by kernel_rfl) ?_
  intro nb
  (conv => whnf); repeat ((first | refine RngK.mk (by omega) (by omega) ?_ | refine NzK.mk (by omega) ?_ | refine NnK.mk (by omega) ?_ | refine BdK.mk (by omega) (by omega) (by omega) ?_ | refine InsK.lit (by omega) (by omega) ?_ | refine SpK.lit ?_ | refine GrdK.same ?_ | refine GrdK.tf ?_ | refine GrdK.ft ?_ | refine PickK.t ?_ | refine PickK.f ?_); (conv => whnf))
  obtain ⟨q, hq⟩ : ∃ q, bs[off].toNat = q := ⟨_, rfl⟩
  rw [hq] at hd hR hRf
  rw [hq]
  refine Wp.cut (fun t : List Nat × List Value => [(0, .pointer (some ⟨r, 0, none⟩)), (2, vN (off + 1 + q)), (3, .slice T m mc), (12, .pointer (some ⟨nb, 0, none⟩)), (13, vN t.1.length)])
    (fun t => [.blk nb 122 ((padW t.1).map vW8), .own T m mc 109 1 (xs.map vU16), .blk r 107 t.2]) (fun t => R = some t.1 ∧ t.2[6]? = some (vI 0)) ?_ fun ⟨ws, cs⟩ ⟨hRw, h6⟩ => ?_
  · unfold pkW at hR
    refine Wp.cond rfl (fun _ => ?_) (fun h => ?_)
    rotate_left
    · have h := dF h
      omega
    (conv => whnf); repeat ((first | refine RngK.mk (by omega) (by omega) ?_ | refine NzK.mk (by omega) ?_ | refine NnK.mk (by omega) ?_ | refine BdK.mk (by omega) (by omega) (by omega) ?_ | refine InsK.lit (by omega) (by omega) ?_ | refine SpK.lit ?_ | refine GrdK.same ?_ | refine GrdK.tf ?_ | refine GrdK.ft ?_ | refine PickK.t ?_ | refine PickK.f ?_); (conv => whnf))
    have hl44 := (List.getElem?_eq_some_iff.1 h210).1
    refine LdK.blk 2 (v := .slice none 0 0) rfl rfl rfl h210 ?_
    (conv => whnf); repeat ((first | refine RngK.mk (by omega) (by omega) ?_ | refine NzK.mk (by omega) ?_ | refine NnK.mk (by omega) ?_ | refine BdK.mk (by omega) (by omega) (by omega) ?_ | refine InsK.lit (by omega) (by omega) ?_ | refine SpK.lit ?_ | refine GrdK.same ?_ | refine GrdK.tf ?_ | refine GrdK.ft ?_ | refine PickK.t ?_ | refine PickK.f ?_); (conv => whnf))
    refine Wp.cond rfl (fun _ => ?_) (fun h => by cases h)
    (conv => whnf); repeat ((first | refine RngK.mk (by omega) (by omega) ?_ | refine NzK.mk (by omega) ?_ | refine NnK.mk (by omega) ?_ | refine BdK.mk (by omega) (by omega) (by omega) ?_ | refine InsK.lit (by omega) (by omega) ?_ | refine SpK.lit ?_ | refine GrdK.same ?_ | refine GrdK.tf ?_ | refine GrdK.ft ?_ | refine PickK.t ?_ | refine PickK.f ?_); (conv => whnf))
    refine EffK.made 64 rfl rfl rfl rfl (by show 4 * _ ≤ _; omega) (by simp [maxLen]) fun fs => ?_
    (conv => whnf); repeat ((first | refine RngK.mk (by omega) (by omega) ?_ | refine NzK.mk (by omega) ?_ | refine NnK.mk (by omega) ?_ | refine BdK.mk (by omega) (by omega) (by omega) ?_ | refine InsK.lit (by omega) (by omega) ?_ | refine SpK.lit ?_ | refine GrdK.same ?_ | refine GrdK.tf ?_ | refine GrdK.ft ?_ | refine PickK.t ?_ | refine PickK.f ?_); (conv => whnf))
    refine StK.blkE 3 (cs0.set 44 (.slice (some ⟨fs, 0, none⟩) 64 64)) rfl rfl rfl rfl hl44 rfl ?_
    obtain ⟨cs1, hcs1⟩ : ∃ cs1, cs0.set 44 (.slice (some ⟨fs, 0, none⟩) 64 64) = cs1 := ⟨_, rfl⟩
    have h16 : cs1[6]? = some (vI 0) := by rw [← hcs1, List.getElem?_set_ne (by omega)]; exact h60
    have h44 : cs1[44]? = some (.slice (some ⟨fs, 0, none⟩) 64 64) := by rw [← hcs1, List.getElem?_set_self hl44]
    rw [hcs1]
    (conv => whnf); repeat ((first | refine RngK.mk (by omega) (by omega) ?_ | refine NzK.mk (by omega) ?_ | refine NnK.mk (by omega) ?_ | refine BdK.mk (by omega) (by omega) (by omega) ?_ | refine InsK.lit (by omega) (by omega) ?_ | refine SpK.lit ?_ | refine GrdK.same ?_ | refine GrdK.tf ?_ | refine GrdK.ft ?_ | refine PickK.t ?_ | refine PickK.f ?_); (conv => whnf))
    refine LdK.blk 3 (v := .slice (some ⟨fs, 0, none⟩) 64 64) rfl rfl rfl h44 ?_
    (conv => whnf); repeat ((first | refine RngK.mk (by omega) (by omega) ?_ | refine NzK.mk (by omega) ?_ | refine NnK.mk (by omega) ?_ | refine BdK.mk (by omega) (by omega) (by omega) ?_ | refine InsK.lit (by omega) (by omega) ?_ | refine SpK.lit ?_ | refine GrdK.same ?_ | refine GrdK.tf ?_ | refine GrdK.ft ?_ | refine PickK.t ?_ | refine PickK.f ?_); (conv => whnf))
    have hrf := readFSE_spec r A bs.length c bs e u (off + 1) 255 6 (some ⟨fs, 0, none⟩) 64 64 hn (by omega) (by omega) (by omega) (by omega) (by omega)
    rw [← made_en_ 64] at hrf
    refine CallK.of [0] hrf rfl (fun w hw => ⟨hp.pass hw, hL.pass hw, Rd.cell6 hw 2 rfl h16⟩) ?_
    cases hrfs : rfS (num bs) bs.length (off + 1) 255 6 with
    | none =>
      rw [hrfs] at hR
      subst hR
      rintro _ _ ⟨T', x, rfl, rfl⟩
      (conv => whnf); repeat ((first | refine RngK.mk (by omega) (by omega) ?_ | refine NzK.mk (by omega) ?_ | refine NnK.mk (by omega) ?_ | refine BdK.mk (by omega) (by omega) (by omega) ?_ | refine InsK.lit (by omega) (by omega) ?_ | refine SpK.lit ?_ | refine GrdK.same ?_ | refine GrdK.tf ?_ | refine GrdK.ft ?_ | refine PickK.t ?_ | refine PickK.f ?_); (conv => whnf))
      refine ValK.neIface rfl ?_
      (conv => whnf); repeat ((first | refine RngK.mk (by omega) (by omega) ?_ | refine NzK.mk (by omega) ?_ | refine NnK.mk (by omega) ?_ | refine BdK.mk (by omega) (by omega) (by omega) ?_ | refine InsK.lit (by omega) (by omega) ?_ | refine SpK.lit ?_ | refine GrdK.same ?_ | refine GrdK.tf ?_ | refine GrdK.ft ?_ | refine PickK.t ?_ | refine PickK.f ?_); (conv => whnf))
      refine Wp.cond rfl (fun _ => ?_) (fun h => by cases h)
      (conv => whnf); repeat ((first | refine RngK.mk (by omega) (by omega) ?_ | refine NzK.mk (by omega) ?_ | refine NnK.mk (by omega) ?_ | refine BdK.mk (by omega) (by omega) (by omega) ?_ | refine InsK.lit (by omega) (by omega) ?_ | refine SpK.lit ?_ | refine GrdK.same ?_ | refine GrdK.tf ?_ | refine GrdK.ft ?_ | refine PickK.t ?_ | refine PickK.f ?_); (conv => whnf))
      exact ⟨_, HSub.of [2] rfl, xs, T', x, rfl, rfl⟩
    | some rr =>
    obtain ⟨cs, fb, p⟩ := rr
    rw [hrfs] at hR
    obtain ⟨hcc, hsum, _, hfb6, hp1, hp2⟩ := rfS_facts hrfs (by omega) (by omega)
    have hfb5 := hcc.b5
    have hE := Es.of hcc hsum hfb6
    rintro _ _ ⟨rfl, rfl⟩
    obtain ⟨E, hEe⟩ : ∃ E, buildN cs fb = E := ⟨_, rfl⟩
    dsimp only at hR
    rw [hEe] at hE hR
    rw [hEe]
    have h64 : 2 ^ fb ≤ 2 ^ 6 := Nat.pow_le_pow_right (by omega) hfb6
    have hes : ∀ k, k < 2 ^ fb → (tabE E [] (64 - 2 ^ fb))[k]? = some (entOf (enS E k)) := by
      intro k hk
      unfold tabE
      rw [List.getElem?_append_left (by rw [List.length_map, hE.len]; exact hk), List.getElem?_map, hE.at_ hk]
      rfl
    obtain ⟨es, hese⟩ : ∃ es, tabE E [] (64 - 2 ^ fb) = es := ⟨_, rfl⟩
    rw [hese] at hes
    rw [hese]
    clear hcc hsum hese hEe hrf hrfs
    obtain ⟨st, hste⟩ : ∃ st, (p + 7) / 8 = st := ⟨_, rfl⟩
    rw [hste] at hR
    rw [hste]
    (conv => whnf); repeat ((first | refine RngK.mk (by omega) (by omega) ?_ | refine NzK.mk (by omega) ?_ | refine NnK.mk (by omega) ?_ | refine BdK.mk (by omega) (by omega) (by omega) ?_ | refine InsK.lit (by omega) (by omega) ?_ | refine SpK.lit ?_ | refine GrdK.same ?_ | refine GrdK.tf ?_ | refine GrdK.ft ?_ | refine PickK.t ?_ | refine PickK.f ?_); (conv => whnf))
    refine ValK.neNil rfl ?_
    (conv => whnf); repeat ((first | refine RngK.mk (by omega) (by omega) ?_ | refine NzK.mk (by omega) ?_ | refine NnK.mk (by omega) ?_ | refine BdK.mk (by omega) (by omega) (by omega) ?_ | refine InsK.lit (by omega) (by omega) ?_ | refine SpK.lit ?_ | refine GrdK.same ?_ | refine GrdK.tf ?_ | refine GrdK.ft ?_ | refine PickK.t ?_ | refine PickK.f ?_); (conv => whnf))
    refine Wp.cond rfl (fun h => by cases h) (fun _ => ?_)
    (conv => whnf); repeat ((first | refine RngK.mk (by omega) (by omega) ?_ | refine NzK.mk (by omega) ?_ | refine NnK.mk (by omega) ?_ | refine BdK.mk (by omega) (by omega) (by omega) ?_ | refine InsK.lit (by omega) (by omega) ?_ | refine SpK.lit ?_ | refine GrdK.same ?_ | refine GrdK.tf ?_ | refine GrdK.ft ?_ | refine PickK.t ?_ | refine PickK.f ?_); (conv => whnf))
    refine LdK.blk 3 (v := .slice (some ⟨fs, 0, none⟩) 64 64) rfl rfl rfl h44 ?_
    (conv => whnf); repeat ((first | refine RngK.mk (by omega) (by omega) ?_ | refine NzK.mk (by omega) ?_ | refine NnK.mk (by omega) ?_ | refine BdK.mk (by omega) (by omega) (by omega) ?_ | refine InsK.lit (by omega) (by omega) ?_ | refine SpK.lit ?_ | refine GrdK.same ?_ | refine GrdK.tf ?_ | refine GrdK.ft ?_ | refine PickK.t ?_ | refine PickK.f ?_); (conv => whnf))
    refine Wp.cond rfl (fun h => ?_) (fun h => ?_)
    · have h := dT h
      rw [if_pos (.inl (by omega))] at hR
      subst hR
      (conv => whnf); repeat ((first | refine RngK.mk (by omega) (by omega) ?_ | refine NzK.mk (by omega) ?_ | refine NnK.mk (by omega) ?_ | refine BdK.mk (by omega) (by omega) (by omega) ?_ | refine InsK.lit (by omega) (by omega) ?_ | refine SpK.lit ?_ | refine GrdK.same ?_ | refine GrdK.tf ?_ | refine GrdK.ft ?_ | refine PickK.t ?_ | refine PickK.f ?_); (conv => whnf))
      refine CallK.of [] (eof_spec r (off + 1 : Nat) e u (by omega) (by omega)) rfl (fun w hw => ⟨hL.pass hw, Rd.cell6 hw 3 rfl h16⟩) ?_
      rintro _ _ ⟨⟨T', x, rfl⟩, rfl⟩
      (conv => whnf); repeat ((first | refine RngK.mk (by omega) (by omega) ?_ | refine NzK.mk (by omega) ?_ | refine NnK.mk (by omega) ?_ | refine BdK.mk (by omega) (by omega) (by omega) ?_ | refine InsK.lit (by omega) (by omega) ?_ | refine SpK.lit ?_ | refine GrdK.same ?_ | refine GrdK.tf ?_ | refine GrdK.ft ?_ | refine PickK.t ?_ | refine PickK.f ?_); (conv => whnf))
      exact ⟨_, HSub.of [2] rfl, xs, T', x, rfl, rfl⟩
    have h := dF h
    have eo : (off : Int) + 1 + (q : Int) - 1 = ((off + q : Nat) : Int) := by omega
    have hoq : off + q < bs.length := by omega
    have hgd : bs.getD (off + q) 0 = bs[off + q] := by simp [hoq]
    rw [hgd] at hR
    (conv => whnf); repeat ((first | refine RngK.mk (by omega) (by omega) ?_ | refine NzK.mk (by omega) ?_ | refine NnK.mk (by omega) ?_ | refine BdK.mk (by omega) (by omega) (by omega) ?_ | refine InsK.lit (by omega) (by omega) ?_ | refine SpK.lit ?_ | refine GrdK.same ?_ | refine GrdK.tf ?_ | refine GrdK.ft ?_ | refine PickK.t ?_ | refine PickK.f ?_); (conv => whnf))
    rw [hq, eo]
    refine CallK.of [] (makeReverseG_spec r A bs.length c (off + q) st bs e u hn hoq (by omega)) rfl (fun w hw => ⟨hp.pass hw, hL.pass hw, Rd.cell6 hw 3 rfl h16⟩) ?_
    rintro v _ ⟨rfl, ⟨g, csx, T', x, h6', h1, rfl⟩ | ⟨g, rfl⟩⟩
    · rw [if_pos (.inr (.inl g))] at hR
      subst hR
      (conv => whnf); repeat ((first | refine RngK.mk (by omega) (by omega) ?_ | refine NzK.mk (by omega) ?_ | refine NnK.mk (by omega) ?_ | refine BdK.mk (by omega) (by omega) (by omega) ?_ | refine InsK.lit (by omega) (by omega) ?_ | refine SpK.lit ?_ | refine GrdK.same ?_ | refine GrdK.tf ?_ | refine GrdK.ft ?_ | refine PickK.t ?_ | refine PickK.f ?_); (conv => whnf))
      refine ⟨_, _, rfl, rfl, ?_⟩
      intro rb
      (conv => whnf); repeat ((first | refine RngK.mk (by omega) (by omega) ?_ | refine NzK.mk (by omega) ?_ | refine NnK.mk (by omega) ?_ | refine BdK.mk (by omega) (by omega) (by omega) ?_ | refine InsK.lit (by omega) (by omega) ?_ | refine SpK.lit ?_ | refine GrdK.same ?_ | refine GrdK.tf ?_ | refine GrdK.ft ?_ | refine PickK.t ?_ | refine PickK.f ?_); (conv => whnf))
      refine StK.blkN 0 rfl rfl h6' (List.all_eq_true.1 h1) (by decide) ?_
      (conv => whnf); repeat ((first | refine RngK.mk (by omega) (by omega) ?_ | refine NzK.mk (by omega) ?_ | refine NnK.mk (by omega) ?_ | refine BdK.mk (by omega) (by omega) (by omega) ?_ | refine InsK.lit (by omega) (by omega) ?_ | refine SpK.lit ?_ | refine GrdK.same ?_ | refine GrdK.tf ?_ | refine GrdK.ft ?_ | refine PickK.t ?_ | refine PickK.f ?_); (conv => whnf))
      refine ValK.neIface rfl ?_
      (conv => whnf); repeat ((first | refine RngK.mk (by omega) (by omega) ?_ | refine NzK.mk (by omega) ?_ | refine NnK.mk (by omega) ?_ | refine BdK.mk (by omega) (by omega) (by omega) ?_ | refine InsK.lit (by omega) (by omega) ?_ | refine SpK.lit ?_ | refine GrdK.same ?_ | refine GrdK.tf ?_ | refine GrdK.ft ?_ | refine PickK.t ?_ | refine PickK.f ?_); (conv => whnf))
      refine Wp.cond rfl (fun _ => ?_) (fun h => by cases h)
      (conv => whnf); repeat ((first | refine RngK.mk (by omega) (by omega) ?_ | refine NzK.mk (by omega) ?_ | refine NnK.mk (by omega) ?_ | refine BdK.mk (by omega) (by omega) (by omega) ?_ | refine InsK.lit (by omega) (by omega) ?_ | refine SpK.lit ?_ | refine GrdK.same ?_ | refine GrdK.tf ?_ | refine GrdK.ft ?_ | refine PickK.t ?_ | refine PickK.f ?_); (conv => whnf))
      exact ⟨_, HSub.of [3] rfl, xs, T', x, rfl, rfl⟩
    have hw8 : wd bs[off + q].toNat ≤ 8 := wd_lt (by have := bs[off + q].toNat_lt; omega)
    have hwp := wd_pos g
    have f8 : IntKind.u8.wrap (fb : Int) = (fb : Int) := wrap_u_lt (k := .u8) rfl (by show _ < 256; omega)
    (conv => whnf); repeat ((first | refine RngK.mk (by omega) (by omega) ?_ | refine NzK.mk (by omega) ?_ | refine NnK.mk (by omega) ?_ | refine BdK.mk (by omega) (by omega) (by omega) ?_ | refine InsK.lit (by omega) (by omega) ?_ | refine SpK.lit ?_ | refine GrdK.same ?_ | refine GrdK.tf ?_ | refine GrdK.ft ?_ | refine PickK.t ?_ | refine PickK.f ?_); (conv => whnf))
    refine ⟨_, _, rfl, rfl, ?_⟩
    intro rb
    (conv => whnf); repeat ((first | refine RngK.mk (by omega) (by omega) ?_ | refine NzK.mk (by omega) ?_ | refine NnK.mk (by omega) ?_ | refine BdK.mk (by omega) (by omega) (by omega) ?_ | refine InsK.lit (by omega) (by omega) ?_ | refine SpK.lit ?_ | refine GrdK.same ?_ | refine GrdK.tf ?_ | refine GrdK.ft ?_ | refine PickK.t ?_ | refine PickK.f ?_); (conv => whnf))
    refine StK.blkNE 0 (rbc r A bs.length c (off + q) st bs[off + q].toNat (wd bs[off + q].toNat - 1)) rfl rfl rfl rfl rfl rfl ?_
    (conv => whnf); repeat ((first | refine RngK.mk (by omega) (by omega) ?_ | refine NzK.mk (by omega) ?_ | refine NnK.mk (by omega) ?_ | refine BdK.mk (by omega) (by omega) (by omega) ?_ | refine InsK.lit (by omega) (by omega) ?_ | refine SpK.lit ?_ | refine GrdK.same ?_ | refine GrdK.tf ?_ | refine GrdK.ft ?_ | refine PickK.t ?_ | refine PickK.f ?_); (conv => whnf))
    refine ValK.neNil rfl ?_
    (conv => whnf); repeat ((first | refine RngK.mk (by omega) (by omega) ?_ | refine NzK.mk (by omega) ?_ | refine NnK.mk (by omega) ?_ | refine BdK.mk (by omega) (by omega) (by omega) ?_ | refine InsK.lit (by omega) (by omega) ?_ | refine SpK.lit ?_ | refine GrdK.same ?_ | refine GrdK.tf ?_ | refine GrdK.ft ?_ | refine PickK.t ?_ | refine PickK.f ?_); (conv => whnf))
    refine Wp.cond rfl (fun h => by cases h) (fun _ => ?_)
    (conv => whnf); repeat ((first | refine RngK.mk (by omega) (by omega) ?_ | refine NzK.mk (by omega) ?_ | refine NnK.mk (by omega) ?_ | refine BdK.mk (by omega) (by omega) (by omega) ?_ | refine InsK.lit (by omega) (by omega) ?_ | refine SpK.lit ?_ | refine GrdK.same ?_ | refine GrdK.tf ?_ | refine GrdK.ft ?_ | refine PickK.t ?_ | refine PickK.f ?_); (conv => whnf))
    rw [f8]
    by_cases hst : off + q < st
    · rw [if_pos (.inr (.inr (by omega)))] at hR
      subst hR
      refine CallK.of [0] (rvalS_spec rb r A bs.length c e u (off + q) st bs[off + q].toNat (wd bs[off + q].toNat - 1) fb (by omega) (by omega) (by omega) (by omega)) rfl (fun w hw => ⟨hL.pass hw, Rd.cell6 hw 3 rfl h16⟩) ?_
      rintro v _ (⟨k1, rfl, x, rfl⟩ | ⟨k1, rfl, T', x, rfl⟩)
      · (conv => whnf); repeat ((first | refine RngK.mk (by omega) (by omega) ?_ | refine NzK.mk (by omega) ?_ | refine NnK.mk (by omega) ?_ | refine BdK.mk (by omega) (by omega) (by omega) ?_ | refine InsK.lit (by omega) (by omega) ?_ | refine SpK.lit ?_ | refine GrdK.same ?_ | refine GrdK.tf ?_ | refine GrdK.ft ?_ | refine PickK.t ?_ | refine PickK.f ?_); (conv => whnf))
        refine ValK.neNil rfl ?_
        (conv => whnf); repeat ((first | refine RngK.mk (by omega) (by omega) ?_ | refine NzK.mk (by omega) ?_ | refine NnK.mk (by omega) ?_ | refine BdK.mk (by omega) (by omega) (by omega) ?_ | refine InsK.lit (by omega) (by omega) ?_ | refine SpK.lit ?_ | refine GrdK.same ?_ | refine GrdK.tf ?_ | refine GrdK.ft ?_ | refine PickK.t ?_ | refine PickK.f ?_); (conv => whnf))
        refine Wp.cond rfl (fun h => by cases h) (fun _ => ?_)
        (conv => whnf); repeat ((first | refine RngK.mk (by omega) (by omega) ?_ | refine NzK.mk (by omega) ?_ | refine NnK.mk (by omega) ?_ | refine BdK.mk (by omega) (by omega) (by omega) ?_ | refine InsK.lit (by omega) (by omega) ?_ | refine SpK.lit ?_ | refine GrdK.same ?_ | refine GrdK.tf ?_ | refine GrdK.ft ?_ | refine PickK.t ?_ | refine PickK.f ?_); (conv => whnf))
        rw [f8]
        refine CallK.of [0] (rvalS_spec rb r A bs.length c e u (off + q) st bs[off + q].toNat (wd bs[off + q].toNat - 1 - fb) fb (by omega) (by omega) (by omega) (by omega)) rfl (fun w hw => ⟨hL.pass hw, Rd.cell6 hw 3 rfl h16⟩) ?_
        rintro v _ (⟨k2, rfl, x, rfl⟩ | ⟨k2, rfl, T', x, rfl⟩)
        · omega
        · (conv => whnf); repeat ((first | refine RngK.mk (by omega) (by omega) ?_ | refine NzK.mk (by omega) ?_ | refine NnK.mk (by omega) ?_ | refine BdK.mk (by omega) (by omega) (by omega) ?_ | refine InsK.lit (by omega) (by omega) ?_ | refine SpK.lit ?_ | refine GrdK.same ?_ | refine GrdK.tf ?_ | refine GrdK.ft ?_ | refine PickK.t ?_ | refine PickK.f ?_); (conv => whnf))
          refine ValK.neIface rfl ?_
          (conv => whnf); repeat ((first | refine RngK.mk (by omega) (by omega) ?_ | refine NzK.mk (by omega) ?_ | refine NnK.mk (by omega) ?_ | refine BdK.mk (by omega) (by omega) (by omega) ?_ | refine InsK.lit (by omega) (by omega) ?_ | refine SpK.lit ?_ | refine GrdK.same ?_ | refine GrdK.tf ?_ | refine GrdK.ft ?_ | refine PickK.t ?_ | refine PickK.f ?_); (conv => whnf))
          refine Wp.cond rfl (fun _ => ?_) (fun h => by cases h)
          (conv => whnf); repeat ((first | refine RngK.mk (by omega) (by omega) ?_ | refine NzK.mk (by omega) ?_ | refine NnK.mk (by omega) ?_ | refine BdK.mk (by omega) (by omega) (by omega) ?_ | refine InsK.lit (by omega) (by omega) ?_ | refine SpK.lit ?_ | refine GrdK.same ?_ | refine GrdK.tf ?_ | refine GrdK.ft ?_ | refine PickK.t ?_ | refine PickK.f ?_); (conv => whnf))
          exact ⟨_, HSub.of [3] rfl, xs, T', x, rfl, rfl⟩
      · (conv => whnf); repeat ((first | refine RngK.mk (by omega) (by omega) ?_ | refine NzK.mk (by omega) ?_ | refine NnK.mk (by omega) ?_ | refine BdK.mk (by omega) (by omega) (by omega) ?_ | refine InsK.lit (by omega) (by omega) ?_ | refine SpK.lit ?_ | refine GrdK.same ?_ | refine GrdK.tf ?_ | refine GrdK.ft ?_ | refine PickK.t ?_ | refine PickK.f ?_); (conv => whnf))
        refine ValK.neIface rfl ?_
        (conv => whnf); repeat ((first | refine RngK.mk (by omega) (by omega) ?_ | refine NzK.mk (by omega) ?_ | refine NnK.mk (by omega) ?_ | refine BdK.mk (by omega) (by omega) (by omega) ?_ | refine InsK.lit (by omega) (by omega) ?_ | refine SpK.lit ?_ | refine GrdK.same ?_ | refine GrdK.tf ?_ | refine GrdK.ft ?_ | refine PickK.t ?_ | refine PickK.f ?_); (conv => whnf))
        refine Wp.cond rfl (fun _ => ?_) (fun h => by cases h)
        (conv => whnf); repeat ((first | refine RngK.mk (by omega) (by omega) ?_ | refine NzK.mk (by omega) ?_ | refine NnK.mk (by omega) ?_ | refine BdK.mk (by omega) (by omega) (by omega) ?_ | refine InsK.lit (by omega) (by omega) ?_ | refine SpK.lit ?_ | refine GrdK.same ?_ | refine GrdK.tf ?_ | refine GrdK.ft ?_ | refine PickK.t ?_ | refine PickK.f ?_); (conv => whnf))
        exact ⟨_, HSub.of [3] rfl, xs, T', x, rfl, rfl⟩
    have hI := RbI.start hoq (show st ≤ off + q by omega)
    rw [if_neg (by omega)] at hR
    have hP0 : 8 * (off + q) + wd bs[off + q].toNat - 1 = 8 * (off + q) + (wd bs[off + q].toNat - 1) := Nat.add_sub_assoc hwp _
    rw [hP0] at hR
    obtain ⟨bt, hbt⟩ : ∃ t, bs[off + q].toNat = t := ⟨_, rfl⟩
    obtain ⟨cn, hcn⟩ : ∃ t, wd bs[off + q].toNat - 1 = t := ⟨_, rfl⟩
    rw [hcn, hbt] at hI
    rw [hcn] at hR
    rw [hcn, hbt]
    obtain ⟨ob, hob⟩ : ∃ t, off + q = t := ⟨_, rfl⟩
    rw [hob] at hI hR
    rw [hob]
    refine CallK.of [0] (rval_spec rb r A bs.length c bs e u ob st bt cn fb hn hI (by omega)) rfl (fun w hw => ⟨hp.pass hw, hL.pass hw, Rd.cell6 hw 3 rfl h16⟩) ?_
    rintro v _ ⟨o1, b1, c1, I1, rfl, ⟨k1, k2, rfl⟩ | ⟨k1, k2, T', x, rfl⟩⟩
    rotate_left
    · rw [if_pos (by omega)] at hR
      subst hR
      (conv => whnf); repeat ((first | refine RngK.mk (by omega) (by omega) ?_ | refine NzK.mk (by omega) ?_ | refine NnK.mk (by omega) ?_ | refine BdK.mk (by omega) (by omega) (by omega) ?_ | refine InsK.lit (by omega) (by omega) ?_ | refine SpK.lit ?_ | refine GrdK.same ?_ | refine GrdK.tf ?_ | refine GrdK.ft ?_ | refine PickK.t ?_ | refine PickK.f ?_); (conv => whnf))
      refine ValK.neIface rfl ?_
      (conv => whnf); repeat ((first | refine RngK.mk (by omega) (by omega) ?_ | refine NzK.mk (by omega) ?_ | refine NnK.mk (by omega) ?_ | refine BdK.mk (by omega) (by omega) (by omega) ?_ | refine InsK.lit (by omega) (by omega) ?_ | refine SpK.lit ?_ | refine GrdK.same ?_ | refine GrdK.tf ?_ | refine GrdK.ft ?_ | refine PickK.t ?_ | refine PickK.f ?_); (conv => whnf))
      refine Wp.cond rfl (fun _ => ?_) (fun h => by cases h)
      (conv => whnf); repeat ((first | refine RngK.mk (by omega) (by omega) ?_ | refine NzK.mk (by omega) ?_ | refine NnK.mk (by omega) ?_ | refine BdK.mk (by omega) (by omega) (by omega) ?_ | refine InsK.lit (by omega) (by omega) ?_ | refine SpK.lit ?_ | refine GrdK.same ?_ | refine GrdK.tf ?_ | refine GrdK.ft ?_ | refine PickK.t ?_ | refine PickK.f ?_); (conv => whnf))
      exact ⟨_, HSub.of [3] rfl, xs, T', x, rfl, rfl⟩
    (conv => whnf); repeat ((first | refine RngK.mk (by omega) (by omega) ?_ | refine NzK.mk (by omega) ?_ | refine NnK.mk (by omega) ?_ | refine BdK.mk (by omega) (by omega) (by omega) ?_ | refine InsK.lit (by omega) (by omega) ?_ | refine SpK.lit ?_ | refine GrdK.same ?_ | refine GrdK.tf ?_ | refine GrdK.ft ?_ | refine PickK.t ?_ | refine PickK.f ?_); (conv => whnf))
    refine ValK.neNil rfl ?_
    (conv => whnf); repeat ((first | refine RngK.mk (by omega) (by omega) ?_ | refine NzK.mk (by omega) ?_ | refine NnK.mk (by omega) ?_ | refine BdK.mk (by omega) (by omega) (by omega) ?_ | refine InsK.lit (by omega) (by omega) ?_ | refine SpK.lit ?_ | refine GrdK.same ?_ | refine GrdK.tf ?_ | refine GrdK.ft ?_ | refine PickK.t ?_ | refine PickK.f ?_); (conv => whnf))
    refine Wp.cond rfl (fun h => by cases h) (fun _ => ?_)
    (conv => whnf); repeat ((first | refine RngK.mk (by omega) (by omega) ?_ | refine NzK.mk (by omega) ?_ | refine NnK.mk (by omega) ?_ | refine BdK.mk (by omega) (by omega) (by omega) ?_ | refine InsK.lit (by omega) (by omega) ?_ | refine SpK.lit ?_ | refine GrdK.same ?_ | refine GrdK.tf ?_ | refine GrdK.ft ?_ | refine PickK.t ?_ | refine PickK.f ?_); (conv => whnf))
    rw [f8]
    refine CallK.of [0] (rval_spec rb r A bs.length c bs e u o1 st b1 c1 fb hn I1 (by omega)) rfl (fun w hw => ⟨hp.pass hw, hL.pass hw, Rd.cell6 hw 3 rfl h16⟩) ?_
    rintro v _ ⟨o2, b2, c2, I2, rfl, ⟨k3, k4, rfl⟩ | ⟨k3, k4, T', x, rfl⟩⟩
    rotate_left
    · rw [if_pos (by omega)] at hR
      subst hR
      (conv => whnf); repeat ((first | refine RngK.mk (by omega) (by omega) ?_ | refine NzK.mk (by omega) ?_ | refine NnK.mk (by omega) ?_ | refine BdK.mk (by omega) (by omega) (by omega) ?_ | refine InsK.lit (by omega) (by omega) ?_ | refine SpK.lit ?_ | refine GrdK.same ?_ | refine GrdK.tf ?_ | refine GrdK.ft ?_ | refine PickK.t ?_ | refine PickK.f ?_); (conv => whnf))
      refine ValK.neIface rfl ?_
      (conv => whnf); repeat ((first | refine RngK.mk (by omega) (by omega) ?_ | refine NzK.mk (by omega) ?_ | refine NnK.mk (by omega) ?_ | refine BdK.mk (by omega) (by omega) (by omega) ?_ | refine InsK.lit (by omega) (by omega) ?_ | refine SpK.lit ?_ | refine GrdK.same ?_ | refine GrdK.tf ?_ | refine GrdK.ft ?_ | refine PickK.t ?_ | refine PickK.f ?_); (conv => whnf))
      refine Wp.cond rfl (fun _ => ?_) (fun h => by cases h)
      (conv => whnf); repeat ((first | refine RngK.mk (by omega) (by omega) ?_ | refine NzK.mk (by omega) ?_ | refine NnK.mk (by omega) ?_ | refine BdK.mk (by omega) (by omega) (by omega) ?_ | refine InsK.lit (by omega) (by omega) ?_ | refine SpK.lit ?_ | refine GrdK.same ?_ | refine GrdK.tf ?_ | refine GrdK.ft ?_ | refine PickK.t ?_ | refine PickK.f ?_); (conv => whnf))
      exact ⟨_, HSub.of [3] rfl, xs, T', x, rfl, rfl⟩
    rw [if_neg (by omega)] at hR
    rw [show 8 * o1 + c1 - fb = 8 * ob + cn - 2 * fb by omega]
    have hs1 := bitsN_lt (num bs) (8 * ob + cn - fb) fb
    have hs2 := bitsN_lt (num bs) (8 * ob + cn - 2 * fb) fb
    obtain ⟨n1, hn1⟩ : ∃ k, bitsN (num bs) (8 * ob + cn - fb) fb = k := ⟨_, rfl⟩
    obtain ⟨n2, hn2⟩ : ∃ k, bitsN (num bs) (8 * ob + cn - 2 * fb) fb = k := ⟨_, rfl⟩
    rw [hn1] at hs1 hR
    rw [hn2] at hs2 hR
    rw [hn1, hn2]
    rw [show 8 * ob + cn - 2 * fb = 8 * o2 + c2 by omega] at hR
    have hpad0 : List.replicate 256 (vW8 0) = (padW []).map vW8 := by
      unfold padW
      rw [List.nil_append, List.map_replicate]
      rfl
    rw [hpad0]
    (conv => whnf); repeat ((first | refine RngK.mk (by omega) (by omega) ?_ | refine NzK.mk (by omega) ?_ | refine NnK.mk (by omega) ?_ | refine BdK.mk (by omega) (by omega) (by omega) ?_ | refine InsK.lit (by omega) (by omega) ?_ | refine SpK.lit ?_ | refine GrdK.same ?_ | refine GrdK.tf ?_ | refine GrdK.ft ?_ | refine PickK.t ?_ | refine PickK.f ?_); (conv => whnf))
    refine ValK.neNil rfl ?_
    (conv => whnf); repeat ((first | refine RngK.mk (by omega) (by omega) ?_ | refine NzK.mk (by omega) ?_ | refine NnK.mk (by omega) ?_ | refine BdK.mk (by omega) (by omega) (by omega) ?_ | refine InsK.lit (by omega) (by omega) ?_ | refine SpK.lit ?_ | refine GrdK.same ?_ | refine GrdK.tf ?_ | refine GrdK.ft ?_ | refine PickK.t ?_ | refine PickK.f ?_); (conv => whnf))
    refine Wp.cond rfl (fun h => by cases h) (fun _ => ?_)
    (conv => whnf); repeat ((first | refine RngK.mk (by omega) (by omega) ?_ | refine NzK.mk (by omega) ?_ | refine NnK.mk (by omega) ?_ | refine BdK.mk (by omega) (by omega) (by omega) ?_ | refine InsK.lit (by omega) (by omega) ?_ | refine SpK.lit ?_ | refine GrdK.same ?_ | refine GrdK.tf ?_ | refine GrdK.ft ?_ | refine PickK.t ?_ | refine PickK.f ?_); (conv => whnf))
    refine Wp.cutEx 0 (fun ws : List Nat => [(0, .pointer (some ⟨r, 0, none⟩)), (2, vN (off + 1)), (3, .slice T m mc), (11, vU8 bs[off]), (12, .pointer (some ⟨nb, 0, none⟩)), (13, vN ws.length)])
      (fun ws => [.blk nb 122 ((padW ws).map vW8), .own T m mc 109 1 (xs.map vU16), .blk r 107 cs1]) (fun ws => R = some ws) ?_ fun ws hRw => ?_
    rotate_left
    · (conv => whnf); repeat ((first | refine RngK.mk (by omega) (by omega) ?_ | refine NzK.mk (by omega) ?_ | refine NnK.mk (by omega) ?_ | refine BdK.mk (by omega) (by omega) (by omega) ?_ | refine InsK.lit (by omega) (by omega) ?_ | refine SpK.lit ?_ | refine GrdK.same ?_ | refine GrdK.tf ?_ | refine GrdK.ft ?_ | refine PickK.t ?_ | refine PickK.f ?_); (conv => whnf))
      rw [hq]
      exact ⟨(ws, cs1), ⟨rfl, rfl, rfl, rfl, rfl, trivial⟩, HSub.refl _, hRw, h16⟩
    refine Wp.loop (fun s : PS => [(0, .pointer (some ⟨r, 0, none⟩)), (2, vN (off + 1)), (3, .slice T m mc), (11, vU8 bs[off]), (12, .pointer (some ⟨nb, 0, none⟩)), (13, vN s.ws.length), (17, .slice (some ⟨fs, 0, none⟩) 64 64), (18, .pointer (some ⟨rb, 0, none⟩)), (19, .int .u32 (s.a : Int)), (20, .int .u32 (s.b : Int))])
      (fun s => [.blk rb 125 (rbc r A bs.length c s.o st s.bi s.cn), .blk nb 122 ((padW s.ws).map vW8), .own T m mc 109 1 (xs.map vU16), .blk r 107 cs1, .own (some ⟨fs, 0, none⟩) 64 64 132 3 (flE es)])
      (PI bs st fb E R) (fun s => s.f) ⟨257, n1, n2, [], o2, b2, c2⟩
      ⟨rfl, rfl, rfl, rfl, rfl, rfl, rfl, rfl, rfl, rfl, trivial⟩ (HSub.of [0, 1, 1, 1, 0] rfl) ⟨hs1, hs2, rfl, Nat.zero_le _, I2, hR⟩ fun ⟨f, a, b, ws, o, bi, cn⟩ ⟨ha, hb, hfl, hwl, hI, hR⟩ => ?_
    dsimp only at ha hb hfl hwl hI hR ⊢
    clear hs1 hs2 hn1 hn2 k1 k2 k3 k4 I1 I2
    (conv => whnf); repeat ((first | refine RngK.mk (by omega) (by omega) ?_ | refine NzK.mk (by omega) ?_ | refine NnK.mk (by omega) ?_ | refine BdK.mk (by omega) (by omega) (by omega) ?_ | refine InsK.lit (by omega) (by omega) ?_ | refine SpK.lit ?_ | refine GrdK.same ?_ | refine GrdK.tf ?_ | refine GrdK.ft ?_ | refine PickK.t ?_ | refine PickK.f ?_); (conv => whnf))
    obtain ⟨f1, hf1⟩ : ∃ g, f = g + 1 := ⟨f - 1, by omega⟩
    rw [hf1, pkL_step] at hR
    obtain ⟨en1, en21, en31, en41⟩ := hE.ent ha
    have eo1 := (hE.ent hb).1
    have x01 : (flE es)[a * 3 + 0]? = some (.int .u8 ((enS E a).1 : Int)) := flE_at (hes a ha) rfl
    have x11 : (flE es)[a * 3 + 1]? = some (.int .u8 ((enS E a).2.1 : Int)) := flE_at (hes a ha) rfl
    have x21 : (flE es)[a * 3 + 2]? = some (.int .u16 ((enS E a).2.2.toNat : Int)) := flE_at (hes a ha) rfl
    have y01 : (flE es)[b * 3 + 0]? = some (.int .u8 ((enS E b).1 : Int)) := flE_at (hes b hb) rfl
    have hnx1 := fun P => hE.next (N := num bs) (p := P) ha
    obtain ⟨x1, hx1⟩ : ∃ x, enS E a = x := ⟨_, rfl⟩
    obtain ⟨y1, hy1⟩ : ∃ y, enS E b = y := ⟨_, rfl⟩
    rw [hx1] at hR en1 en21 en31 en41 x01 x11 x21 hnx1
    rw [hy1] at eo1 y01
    refine LdK.own 4 (a * 3 + 1) rfl rfl rfl rfl x11 ?_
    (conv => whnf); repeat ((first | refine RngK.mk (by omega) (by omega) ?_ | refine NzK.mk (by omega) ?_ | refine NnK.mk (by omega) ?_ | refine BdK.mk (by omega) (by omega) (by omega) ?_ | refine InsK.lit (by omega) (by omega) ?_ | refine SpK.lit ?_ | refine GrdK.same ?_ | refine GrdK.tf ?_ | refine GrdK.ft ?_ | refine PickK.t ?_ | refine PickK.f ?_); (conv => whnf))
    refine CallK.of [0] (fetch_spec rb r A bs.length c bs o st bi cn x1.2.1 hn hI (by omega)) rfl (fun w hw => hp.pass hw) ?_
    rintro v _ ⟨o11, b11, c11, g11, I11, rfl, hv⟩
    rcases hv with ⟨rfl, g31, g41⟩ | ⟨rfl, g31⟩
    rotate_left
    · rw [if_pos (by omega)] at hR
      (conv => whnf); repeat ((first | refine RngK.mk (by omega) (by omega) ?_ | refine NzK.mk (by omega) ?_ | refine NnK.mk (by omega) ?_ | refine BdK.mk (by omega) (by omega) (by omega) ?_ | refine InsK.lit (by omega) (by omega) ?_ | refine SpK.lit ?_ | refine GrdK.same ?_ | refine GrdK.tf ?_ | refine GrdK.ft ?_ | refine PickK.t ?_ | refine PickK.f ?_); (conv => whnf))
      refine Wp.cond rfl (fun _ => ?_) (fun h => by cases h)
      (conv => whnf); repeat ((first | refine RngK.mk (by omega) (by omega) ?_ | refine NzK.mk (by omega) ?_ | refine NnK.mk (by omega) ?_ | refine BdK.mk (by omega) (by omega) (by omega) ?_ | refine InsK.lit (by omega) (by omega) ?_ | refine SpK.lit ?_ | refine GrdK.same ?_ | refine GrdK.tf ?_ | refine GrdK.ft ?_ | refine PickK.t ?_ | refine PickK.f ?_); (conv => whnf))
      refine Wp.cond rfl (fun h => ?_) (fun h => ?_)
      · have h := dT h
        rw [if_pos (by omega)] at hR
        subst hR
        (conv => whnf); repeat ((first | refine RngK.mk (by omega) (by omega) ?_ | refine NzK.mk (by omega) ?_ | refine NnK.mk (by omega) ?_ | refine BdK.mk (by omega) (by omega) (by omega) ?_ | refine InsK.lit (by omega) (by omega) ?_ | refine SpK.lit ?_ | refine GrdK.same ?_ | refine GrdK.tf ?_ | refine GrdK.ft ?_ | refine PickK.t ?_ | refine PickK.f ?_); (conv => whnf))
        refine CallK.of [0] (rbErr_spec rb r A bs.length c o11 st b11 c11 _ e u (by have := I11.on; omega)) rfl (fun w hw => ⟨hL.pass hw, Rd.cell6 hw 2 rfl h16⟩) ?_
        rintro _ _ ⟨⟨T', x, rfl⟩, rfl⟩
        (conv => whnf); repeat ((first | refine RngK.mk (by omega) (by omega) ?_ | refine NzK.mk (by omega) ?_ | refine NnK.mk (by omega) ?_ | refine BdK.mk (by omega) (by omega) (by omega) ?_ | refine InsK.lit (by omega) (by omega) ?_ | refine SpK.lit ?_ | refine GrdK.same ?_ | refine GrdK.tf ?_ | refine GrdK.ft ?_ | refine PickK.t ?_ | refine PickK.f ?_); (conv => whnf))
        exact ⟨_, HSub.of [2] rfl, xs, T', x, rfl, rfl⟩
      have h := dF h
      rw [if_neg (by omega), hy1] at hR
      have w1 := padW_set (l := ws) (k := 0 + (ws).length) (Nat.zero_add _) (by omega) x1.1
      have w2 := padW_set (l := ws ++ [x1.1]) (k := 0 + ((ws).length + 1)) (by rw [List.length_append, List.length_singleton, Nat.zero_add]) (by rw [List.length_append, List.length_singleton]; omega) y1.1
      have wl1 := padW_len (l := ws) (by omega)
      have wl2 := padW_len (l := ws ++ [x1.1]) (by rw [List.length_append, List.length_singleton]; omega)
      (conv => whnf); repeat ((first | refine RngK.mk (by omega) (by omega) ?_ | refine NzK.mk (by omega) ?_ | refine NnK.mk (by omega) ?_ | refine BdK.mk (by omega) (by omega) (by omega) ?_ | refine InsK.lit (by omega) (by omega) ?_ | refine SpK.lit ?_ | refine GrdK.same ?_ | refine GrdK.tf ?_ | refine GrdK.ft ?_ | refine PickK.t ?_ | refine PickK.f ?_); (conv => whnf))
      refine LdK.own 4 (a * 3 + 0) rfl rfl rfl rfl x01 ?_
      (conv => whnf); repeat ((first | refine RngK.mk (by omega) (by omega) ?_ | refine NzK.mk (by omega) ?_ | refine NnK.mk (by omega) ?_ | refine BdK.mk (by omega) (by omega) (by omega) ?_ | refine InsK.lit (by omega) (by omega) ?_ | refine SpK.lit ?_ | refine GrdK.same ?_ | refine GrdK.tf ?_ | refine GrdK.ft ?_ | refine PickK.t ?_ | refine PickK.f ?_); (conv => whnf))
      refine StK.blkE 1 ((padW (ws ++ [x1.1])).map vW8) rfl rfl rfl rfl (by rw [List.length_map, wl1]; show 0 + (ws).length < 256; omega) (map_set' w1) ?_
      (conv => whnf); repeat ((first | refine RngK.mk (by omega) (by omega) ?_ | refine NzK.mk (by omega) ?_ | refine NnK.mk (by omega) ?_ | refine BdK.mk (by omega) (by omega) (by omega) ?_ | refine InsK.lit (by omega) (by omega) ?_ | refine SpK.lit ?_ | refine GrdK.same ?_ | refine GrdK.tf ?_ | refine GrdK.ft ?_ | refine PickK.t ?_ | refine PickK.f ?_); (conv => whnf))
      refine LdK.own 4 (b * 3 + 0) rfl rfl rfl rfl y01 ?_
      (conv => whnf); repeat ((first | refine RngK.mk (by omega) (by omega) ?_ | refine NzK.mk (by omega) ?_ | refine NnK.mk (by omega) ?_ | refine BdK.mk (by omega) (by omega) (by omega) ?_ | refine InsK.lit (by omega) (by omega) ?_ | refine SpK.lit ?_ | refine GrdK.same ?_ | refine GrdK.tf ?_ | refine GrdK.ft ?_ | refine PickK.t ?_ | refine PickK.f ?_); (conv => whnf))
      refine StK.blkE 1 ((padW (ws ++ [x1.1] ++ [y1.1])).map vW8) rfl rfl rfl rfl (by rw [List.length_map, wl2]; show 0 + ((ws).length + 1) < 256; omega) (map_set' w2) ?_
      (conv => whnf); repeat ((first | refine RngK.mk (by omega) (by omega) ?_ | refine NzK.mk (by omega) ?_ | refine NnK.mk (by omega) ?_ | refine BdK.mk (by omega) (by omega) (by omega) ?_ | refine InsK.lit (by omega) (by omega) ?_ | refine SpK.lit ?_ | refine GrdK.same ?_ | refine GrdK.tf ?_ | refine GrdK.ft ?_ | refine PickK.t ?_ | refine PickK.f ?_); (conv => whnf))
      refine ⟨ws ++ [x1.1] ++ [y1.1], ⟨rfl, rfl, rfl, rfl, rfl, ?_, trivial⟩, HSub.of [1, 1, 1] rfl, ?_⟩
      · show some (vI _) = some (vI ((ws ++ [x1.1] ++ [y1.1]).length : Nat))
        rw [List.length_append, List.length_append, List.length_singleton, List.length_singleton]
        congr 2
      · rw [← hR, List.append_assoc]
        rfl
    rw [if_neg (by omega)] at hR
    (conv => whnf); repeat ((first | refine RngK.mk (by omega) (by omega) ?_ | refine NzK.mk (by omega) ?_ | refine NnK.mk (by omega) ?_ | refine BdK.mk (by omega) (by omega) (by omega) ?_ | refine InsK.lit (by omega) (by omega) ?_ | refine SpK.lit ?_ | refine GrdK.same ?_ | refine GrdK.tf ?_ | refine GrdK.ft ?_ | refine PickK.t ?_ | refine PickK.f ?_); (conv => whnf))
    refine Wp.cond rfl (fun h => by cases h) (fun _ => ?_)
    (conv => whnf); repeat ((first | refine RngK.mk (by omega) (by omega) ?_ | refine NzK.mk (by omega) ?_ | refine NnK.mk (by omega) ?_ | refine BdK.mk (by omega) (by omega) (by omega) ?_ | refine InsK.lit (by omega) (by omega) ?_ | refine SpK.lit ?_ | refine GrdK.same ?_ | refine GrdK.tf ?_ | refine GrdK.ft ?_ | refine PickK.t ?_ | refine PickK.f ?_); (conv => whnf))
    refine LdK.own 4 (a * 3 + 1) rfl rfl rfl rfl x11 ?_
    (conv => whnf); repeat ((first | refine RngK.mk (by omega) (by omega) ?_ | refine NzK.mk (by omega) ?_ | refine NnK.mk (by omega) ?_ | refine BdK.mk (by omega) (by omega) (by omega) ?_ | refine InsK.lit (by omega) (by omega) ?_ | refine SpK.lit ?_ | refine GrdK.same ?_ | refine GrdK.tf ?_ | refine GrdK.ft ?_ | refine PickK.t ?_ | refine PickK.f ?_); (conv => whnf))
    refine CallK.of [0] (rval_spec rb r A bs.length c bs e u o11 st b11 c11 x1.2.1 hn I11 (by omega)) rfl (fun w hw => ⟨hp.pass hw, hL.pass hw, Rd.cell6 hw 2 rfl h16⟩) ?_
    rintro v _ ⟨o21, b21, c21, I21, rfl, ⟨g51, g61, rfl⟩ | ⟨g51, g61, T', x, rfl⟩⟩
    rotate_left
    · omega
    rw [g11]
    have hnb1 := hnx1 (8 * o + cn - x1.2.1)
    (conv => whnf); repeat ((first | refine RngK.mk (by omega) (by omega) ?_ | refine NzK.mk (by omega) ?_ | refine NnK.mk (by omega) ?_ | refine BdK.mk (by omega) (by omega) (by omega) ?_ | refine InsK.lit (by omega) (by omega) ?_ | refine SpK.lit ?_ | refine GrdK.same ?_ | refine GrdK.tf ?_ | refine GrdK.ft ?_ | refine PickK.t ?_ | refine PickK.f ?_); (conv => whnf))
    refine ValK.neNil rfl ?_
    (conv => whnf); repeat ((first | refine RngK.mk (by omega) (by omega) ?_ | refine NzK.mk (by omega) ?_ | refine NnK.mk (by omega) ?_ | refine BdK.mk (by omega) (by omega) (by omega) ?_ | refine InsK.lit (by omega) (by omega) ?_ | refine SpK.lit ?_ | refine GrdK.same ?_ | refine GrdK.tf ?_ | refine GrdK.ft ?_ | refine PickK.t ?_ | refine PickK.f ?_); (conv => whnf))
    refine Wp.cond rfl (fun h => by cases h) (fun _ => ?_)
    (conv => whnf); repeat ((first | refine RngK.mk (by omega) (by omega) ?_ | refine NzK.mk (by omega) ?_ | refine NnK.mk (by omega) ?_ | refine BdK.mk (by omega) (by omega) (by omega) ?_ | refine InsK.lit (by omega) (by omega) ?_ | refine SpK.lit ?_ | refine GrdK.same ?_ | refine GrdK.tf ?_ | refine GrdK.ft ?_ | refine PickK.t ?_ | refine PickK.f ?_); (conv => whnf))
    refine LdK.own 4 (a * 3 + 2) rfl rfl rfl rfl x21 ?_
    (conv => whnf); repeat ((first | refine RngK.mk (by omega) (by omega) ?_ | refine NzK.mk (by omega) ?_ | refine NnK.mk (by omega) ?_ | refine BdK.mk (by omega) (by omega) (by omega) ?_ | refine InsK.lit (by omega) (by omega) ?_ | refine SpK.lit ?_ | refine GrdK.same ?_ | refine GrdK.tf ?_ | refine GrdK.ft ?_ | refine PickK.t ?_ | refine PickK.f ?_); (conv => whnf))
    have eb11 : IntKind.u32.wrap (x1.2.2.toNat : Int) = (x1.2.2.toNat : Int) := IntWalk.u32_in _ (by omega)
    have eb21 : IntKind.u32.wrap ((x1.2.2.toNat : Int) + ((bitsN (num bs) (8 * o + cn - x1.2.1) x1.2.1 : Nat) : Int)) = ((x1.2.2.toNat + bitsN (num bs) (8 * o + cn - x1.2.1) x1.2.1 : Nat) : Int) := IntWalk.u32_in _ (by omega)
    rw [eb11, eb21]
    obtain ⟨nx1, hnxe1⟩ : ∃ k, x1.2.2.toNat + bitsN (num bs) (8 * o + cn - x1.2.1) x1.2.1 = k := ⟨_, rfl⟩
    rw [hnxe1] at hR hnb1
    rw [hnxe1]
    refine Wp.cond rfl (fun h => ?_) (fun h => ?_)
    · have h := dT h
      rw [if_pos (by omega)] at hR
      subst hR
      (conv => whnf); repeat ((first | refine RngK.mk (by omega) (by omega) ?_ | refine NzK.mk (by omega) ?_ | refine NnK.mk (by omega) ?_ | refine BdK.mk (by omega) (by omega) (by omega) ?_ | refine InsK.lit (by omega) (by omega) ?_ | refine SpK.lit ?_ | refine GrdK.same ?_ | refine GrdK.tf ?_ | refine GrdK.ft ?_ | refine PickK.t ?_ | refine PickK.f ?_); (conv => whnf))
      refine CallK.of [0] (rbErr_spec rb r A bs.length c o21 st b21 c21 _ e u (by have := I21.on; omega)) rfl (fun w hw => ⟨hL.pass hw, Rd.cell6 hw 2 rfl h16⟩) ?_
      rintro _ _ ⟨⟨T', x, rfl⟩, rfl⟩
      (conv => whnf); repeat ((first | refine RngK.mk (by omega) (by omega) ?_ | refine NzK.mk (by omega) ?_ | refine NnK.mk (by omega) ?_ | refine BdK.mk (by omega) (by omega) (by omega) ?_ | refine InsK.lit (by omega) (by omega) ?_ | refine SpK.lit ?_ | refine GrdK.same ?_ | refine GrdK.tf ?_ | refine GrdK.ft ?_ | refine PickK.t ?_ | refine PickK.f ?_); (conv => whnf))
      exact ⟨_, HSub.of [2] rfl, xs, T', x, rfl, rfl⟩
    have h := dF h
    rw [if_neg (by omega)] at hR
    have w11 := padW_set (l := ws) (k := 0 + (ws).length) (Nat.zero_add _) (by omega) x1.1
    have wl11 := padW_len (l := ws) (by omega)
    (conv => whnf); repeat ((first | refine RngK.mk (by omega) (by omega) ?_ | refine NzK.mk (by omega) ?_ | refine NnK.mk (by omega) ?_ | refine BdK.mk (by omega) (by omega) (by omega) ?_ | refine InsK.lit (by omega) (by omega) ?_ | refine SpK.lit ?_ | refine GrdK.same ?_ | refine GrdK.tf ?_ | refine GrdK.ft ?_ | refine PickK.t ?_ | refine PickK.f ?_); (conv => whnf))
    refine LdK.own 4 (a * 3 + 0) rfl rfl rfl rfl x01 ?_
    (conv => whnf); repeat ((first | refine RngK.mk (by omega) (by omega) ?_ | refine NzK.mk (by omega) ?_ | refine NnK.mk (by omega) ?_ | refine BdK.mk (by omega) (by omega) (by omega) ?_ | refine InsK.lit (by omega) (by omega) ?_ | refine SpK.lit ?_ | refine GrdK.same ?_ | refine GrdK.tf ?_ | refine GrdK.ft ?_ | refine PickK.t ?_ | refine PickK.f ?_); (conv => whnf))
    refine StK.blkE 1 ((padW (ws ++ [x1.1])).map vW8) rfl rfl rfl rfl (by rw [List.length_map, wl11]; show 0 + (ws).length < 256; omega) (map_set' w11) ?_
    (conv => whnf); repeat ((first | refine RngK.mk (by omega) (by omega) ?_ | refine NzK.mk (by omega) ?_ | refine NnK.mk (by omega) ?_ | refine BdK.mk (by omega) (by omega) (by omega) ?_ | refine InsK.lit (by omega) (by omega) ?_ | refine SpK.lit ?_ | refine GrdK.same ?_ | refine GrdK.tf ?_ | refine GrdK.ft ?_ | refine PickK.t ?_ | refine PickK.f ?_); (conv => whnf))
    rw [show 8 * o + cn - x1.2.1 = 8 * o21 + c21 by omega] at hR
    have hlen1 : (ws ++ [x1.1]).length = (ws).length + 1 := by rw [List.length_append, List.length_singleton]
    rw [show (((ws).length : Nat) : Int) + 1 = (((ws ++ [x1.1]).length : Nat) : Int) by rw [hlen1]; rfl]
    obtain ⟨wn1, hwn1⟩ : ∃ l, ws ++ [x1.1] = l := ⟨_, rfl⟩
    rw [hwn1] at hR hlen1
    rw [hwn1]
    obtain ⟨f2, hf2⟩ : ∃ g, f1 = g + 1 := ⟨f1 - 1, by omega⟩
    rw [hf2, pkL_step] at hR
    obtain ⟨en2, en22, en32, en42⟩ := hE.ent hb
    have eo2 := (hE.ent hnb1).1
    have x02 : (flE es)[b * 3 + 0]? = some (.int .u8 ((enS E b).1 : Int)) := flE_at (hes b hb) rfl
    have x12 : (flE es)[b * 3 + 1]? = some (.int .u8 ((enS E b).2.1 : Int)) := flE_at (hes b hb) rfl
    have x22 : (flE es)[b * 3 + 2]? = some (.int .u16 ((enS E b).2.2.toNat : Int)) := flE_at (hes b hb) rfl
    have y02 : (flE es)[nx1 * 3 + 0]? = some (.int .u8 ((enS E nx1).1 : Int)) := flE_at (hes nx1 hnb1) rfl
    have hnx2 := fun P => hE.next (N := num bs) (p := P) hb
    obtain ⟨x2, hx2⟩ : ∃ x, enS E b = x := ⟨_, rfl⟩
    obtain ⟨y2, hy2⟩ : ∃ y, enS E nx1 = y := ⟨_, rfl⟩
    rw [hx2] at hR en2 en22 en32 en42 x02 x12 x22 hnx2
    rw [hy2] at eo2 y02
    refine LdK.own 4 (b * 3 + 1) rfl rfl rfl rfl x12 ?_
    (conv => whnf); repeat ((first | refine RngK.mk (by omega) (by omega) ?_ | refine NzK.mk (by omega) ?_ | refine NnK.mk (by omega) ?_ | refine BdK.mk (by omega) (by omega) (by omega) ?_ | refine InsK.lit (by omega) (by omega) ?_ | refine SpK.lit ?_ | refine GrdK.same ?_ | refine GrdK.tf ?_ | refine GrdK.ft ?_ | refine PickK.t ?_ | refine PickK.f ?_); (conv => whnf))
    refine CallK.of [0] (fetch_spec rb r A bs.length c bs o21 st b21 c21 x2.2.1 hn I21 (by omega)) rfl (fun w hw => hp.pass hw) ?_
    rintro v _ ⟨o12, b12, c12, g12, I12, rfl, hv⟩
    rcases hv with ⟨rfl, g32, g42⟩ | ⟨rfl, g32⟩
    rotate_left
    · rw [if_pos (by omega)] at hR
      (conv => whnf); repeat ((first | refine RngK.mk (by omega) (by omega) ?_ | refine NzK.mk (by omega) ?_ | refine NnK.mk (by omega) ?_ | refine BdK.mk (by omega) (by omega) (by omega) ?_ | refine InsK.lit (by omega) (by omega) ?_ | refine SpK.lit ?_ | refine GrdK.same ?_ | refine GrdK.tf ?_ | refine GrdK.ft ?_ | refine PickK.t ?_ | refine PickK.f ?_); (conv => whnf))
      refine Wp.cond rfl (fun _ => ?_) (fun h => by cases h)
      (conv => whnf); repeat ((first | refine RngK.mk (by omega) (by omega) ?_ | refine NzK.mk (by omega) ?_ | refine NnK.mk (by omega) ?_ | refine BdK.mk (by omega) (by omega) (by omega) ?_ | refine InsK.lit (by omega) (by omega) ?_ | refine SpK.lit ?_ | refine GrdK.same ?_ | refine GrdK.tf ?_ | refine GrdK.ft ?_ | refine PickK.t ?_ | refine PickK.f ?_); (conv => whnf))
      refine Wp.cond rfl (fun h => ?_) (fun h => ?_)
      · have h := dT h
        rw [if_pos (by omega)] at hR
        subst hR
        (conv => whnf); repeat ((first | refine RngK.mk (by omega) (by omega) ?_ | refine NzK.mk (by omega) ?_ | refine NnK.mk (by omega) ?_ | refine BdK.mk (by omega) (by omega) (by omega) ?_ | refine InsK.lit (by omega) (by omega) ?_ | refine SpK.lit ?_ | refine GrdK.same ?_ | refine GrdK.tf ?_ | refine GrdK.ft ?_ | refine PickK.t ?_ | refine PickK.f ?_); (conv => whnf))
        refine CallK.of [0] (rbErr_spec rb r A bs.length c o12 st b12 c12 _ e u (by have := I12.on; omega)) rfl (fun w hw => ⟨hL.pass hw, Rd.cell6 hw 2 rfl h16⟩) ?_
        rintro _ _ ⟨⟨T', x, rfl⟩, rfl⟩
        (conv => whnf); repeat ((first | refine RngK.mk (by omega) (by omega) ?_ | refine NzK.mk (by omega) ?_ | refine NnK.mk (by omega) ?_ | refine BdK.mk (by omega) (by omega) (by omega) ?_ | refine InsK.lit (by omega) (by omega) ?_ | refine SpK.lit ?_ | refine GrdK.same ?_ | refine GrdK.tf ?_ | refine GrdK.ft ?_ | refine PickK.t ?_ | refine PickK.f ?_); (conv => whnf))
        exact ⟨_, HSub.of [2] rfl, xs, T', x, rfl, rfl⟩
      have h := dF h
      rw [if_neg (by omega), hy2] at hR
      have w1 := padW_set (l := wn1) (k := 0 + (wn1).length) (Nat.zero_add _) (by omega) x2.1
      have w2 := padW_set (l := wn1 ++ [x2.1]) (k := 0 + ((wn1).length + 1)) (by rw [List.length_append, List.length_singleton, Nat.zero_add]) (by rw [List.length_append, List.length_singleton]; omega) y2.1
      have wl1 := padW_len (l := wn1) (by omega)
      have wl2 := padW_len (l := wn1 ++ [x2.1]) (by rw [List.length_append, List.length_singleton]; omega)
      (conv => whnf); repeat ((first | refine RngK.mk (by omega) (by omega) ?_ | refine NzK.mk (by omega) ?_ | refine NnK.mk (by omega) ?_ | refine BdK.mk (by omega) (by omega) (by omega) ?_ | refine InsK.lit (by omega) (by omega) ?_ | refine SpK.lit ?_ | refine GrdK.same ?_ | refine GrdK.tf ?_ | refine GrdK.ft ?_ | refine PickK.t ?_ | refine PickK.f ?_); (conv => whnf))
      refine LdK.own 4 (b * 3 + 0) rfl rfl rfl rfl x02 ?_
      (conv => whnf); repeat ((first | refine RngK.mk (by omega) (by omega) ?_ | refine NzK.mk (by omega) ?_ | refine NnK.mk (by omega) ?_ | refine BdK.mk (by omega) (by omega) (by omega) ?_ | refine InsK.lit (by omega) (by omega) ?_ | refine SpK.lit ?_ | refine GrdK.same ?_ | refine GrdK.tf ?_ | refine GrdK.ft ?_ | refine PickK.t ?_ | refine PickK.f ?_); (conv => whnf))
      refine StK.blkE 1 ((padW (wn1 ++ [x2.1])).map vW8) rfl rfl rfl rfl (by rw [List.length_map, wl1]; show 0 + (wn1).length < 256; omega) (map_set' w1) ?_
      (conv => whnf); repeat ((first | refine RngK.mk (by omega) (by omega) ?_ | refine NzK.mk (by omega) ?_ | refine NnK.mk (by omega) ?_ | refine BdK.mk (by omega) (by omega) (by omega) ?_ | refine InsK.lit (by omega) (by omega) ?_ | refine SpK.lit ?_ | refine GrdK.same ?_ | refine GrdK.tf ?_ | refine GrdK.ft ?_ | refine PickK.t ?_ | refine PickK.f ?_); (conv => whnf))
      refine LdK.own 4 (nx1 * 3 + 0) rfl rfl rfl rfl y02 ?_
      (conv => whnf); repeat ((first | refine RngK.mk (by omega) (by omega) ?_ | refine NzK.mk (by omega) ?_ | refine NnK.mk (by omega) ?_ | refine BdK.mk (by omega) (by omega) (by omega) ?_ | refine InsK.lit (by omega) (by omega) ?_ | refine SpK.lit ?_ | refine GrdK.same ?_ | refine GrdK.tf ?_ | refine GrdK.ft ?_ | refine PickK.t ?_ | refine PickK.f ?_); (conv => whnf))
      refine StK.blkE 1 ((padW (wn1 ++ [x2.1] ++ [y2.1])).map vW8) rfl rfl rfl rfl (by rw [List.length_map, wl2]; show 0 + ((wn1).length + 1) < 256; omega) (map_set' w2) ?_
      (conv => whnf); repeat ((first | refine RngK.mk (by omega) (by omega) ?_ | refine NzK.mk (by omega) ?_ | refine NnK.mk (by omega) ?_ | refine BdK.mk (by omega) (by omega) (by omega) ?_ | refine InsK.lit (by omega) (by omega) ?_ | refine SpK.lit ?_ | refine GrdK.same ?_ | refine GrdK.tf ?_ | refine GrdK.ft ?_ | refine PickK.t ?_ | refine PickK.f ?_); (conv => whnf))
      refine ⟨wn1 ++ [x2.1] ++ [y2.1], ⟨rfl, rfl, rfl, rfl, rfl, ?_, trivial⟩, HSub.of [1, 1, 1] rfl, ?_⟩
      · show some (vI _) = some (vI ((wn1 ++ [x2.1] ++ [y2.1]).length : Nat))
        rw [List.length_append, List.length_append, List.length_singleton, List.length_singleton]
        congr 2
      · rw [← hR, List.append_assoc]
        rfl
    rw [if_neg (by omega)] at hR
    (conv => whnf); repeat ((first | refine RngK.mk (by omega) (by omega) ?_ | refine NzK.mk (by omega) ?_ | refine NnK.mk (by omega) ?_ | refine BdK.mk (by omega) (by omega) (by omega) ?_ | refine InsK.lit (by omega) (by omega) ?_ | refine SpK.lit ?_ | refine GrdK.same ?_ | refine GrdK.tf ?_ | refine GrdK.ft ?_ | refine PickK.t ?_ | refine PickK.f ?_); (conv => whnf))
    refine Wp.cond rfl (fun h => by cases h) (fun _ => ?_)
    (conv => whnf); repeat ((first | refine RngK.mk (by omega) (by omega) ?_ | refine NzK.mk (by omega) ?_ | refine NnK.mk (by omega) ?_ | refine BdK.mk (by omega) (by omega) (by omega) ?_ | refine InsK.lit (by omega) (by omega) ?_ | refine SpK.lit ?_ | refine GrdK.same ?_ | refine GrdK.tf ?_ | refine GrdK.ft ?_ | refine PickK.t ?_ | refine PickK.f ?_); (conv => whnf))
    refine LdK.own 4 (b * 3 + 1) rfl rfl rfl rfl x12 ?_
    (conv => whnf); repeat ((first | refine RngK.mk (by omega) (by omega) ?_ | refine NzK.mk (by omega) ?_ | refine NnK.mk (by omega) ?_ | refine BdK.mk (by omega) (by omega) (by omega) ?_ | refine InsK.lit (by omega) (by omega) ?_ | refine SpK.lit ?_ | refine GrdK.same ?_ | refine GrdK.tf ?_ | refine GrdK.ft ?_ | refine PickK.t ?_ | refine PickK.f ?_); (conv => whnf))
    refine CallK.of [0] (rval_spec rb r A bs.length c bs e u o12 st b12 c12 x2.2.1 hn I12 (by omega)) rfl (fun w hw => ⟨hp.pass hw, hL.pass hw, Rd.cell6 hw 2 rfl h16⟩) ?_
    rintro v _ ⟨o22, b22, c22, I22, rfl, ⟨g52, g62, rfl⟩ | ⟨g52, g62, T', x, rfl⟩⟩
    rotate_left
    · omega
    rw [g12]
    have hnb2 := hnx2 (8 * o21 + c21 - x2.2.1)
    (conv => whnf); repeat ((first | refine RngK.mk (by omega) (by omega) ?_ | refine NzK.mk (by omega) ?_ | refine NnK.mk (by omega) ?_ | refine BdK.mk (by omega) (by omega) (by omega) ?_ | refine InsK.lit (by omega) (by omega) ?_ | refine SpK.lit ?_ | refine GrdK.same ?_ | refine GrdK.tf ?_ | refine GrdK.ft ?_ | refine PickK.t ?_ | refine PickK.f ?_); (conv => whnf))
    refine ValK.neNil rfl ?_
    (conv => whnf); repeat ((first | refine RngK.mk (by omega) (by omega) ?_ | refine NzK.mk (by omega) ?_ | refine NnK.mk (by omega) ?_ | refine BdK.mk (by omega) (by omega) (by omega) ?_ | refine InsK.lit (by omega) (by omega) ?_ | refine SpK.lit ?_ | refine GrdK.same ?_ | refine GrdK.tf ?_ | refine GrdK.ft ?_ | refine PickK.t ?_ | refine PickK.f ?_); (conv => whnf))
    refine Wp.cond rfl (fun h => by cases h) (fun _ => ?_)
    (conv => whnf); repeat ((first | refine RngK.mk (by omega) (by omega) ?_ | refine NzK.mk (by omega) ?_ | refine NnK.mk (by omega) ?_ | refine BdK.mk (by omega) (by omega) (by omega) ?_ | refine InsK.lit (by omega) (by omega) ?_ | refine SpK.lit ?_ | refine GrdK.same ?_ | refine GrdK.tf ?_ | refine GrdK.ft ?_ | refine PickK.t ?_ | refine PickK.f ?_); (conv => whnf))
    refine LdK.own 4 (b * 3 + 2) rfl rfl rfl rfl x22 ?_
    (conv => whnf); repeat ((first | refine RngK.mk (by omega) (by omega) ?_ | refine NzK.mk (by omega) ?_ | refine NnK.mk (by omega) ?_ | refine BdK.mk (by omega) (by omega) (by omega) ?_ | refine InsK.lit (by omega) (by omega) ?_ | refine SpK.lit ?_ | refine GrdK.same ?_ | refine GrdK.tf ?_ | refine GrdK.ft ?_ | refine PickK.t ?_ | refine PickK.f ?_); (conv => whnf))
    have eb12 : IntKind.u32.wrap (x2.2.2.toNat : Int) = (x2.2.2.toNat : Int) := IntWalk.u32_in _ (by omega)
    have eb22 : IntKind.u32.wrap ((x2.2.2.toNat : Int) + ((bitsN (num bs) (8 * o21 + c21 - x2.2.1) x2.2.1 : Nat) : Int)) = ((x2.2.2.toNat + bitsN (num bs) (8 * o21 + c21 - x2.2.1) x2.2.1 : Nat) : Int) := IntWalk.u32_in _ (by omega)
    rw [eb12, eb22]
    obtain ⟨nx2, hnxe2⟩ : ∃ k, x2.2.2.toNat + bitsN (num bs) (8 * o21 + c21 - x2.2.1) x2.2.1 = k := ⟨_, rfl⟩
    rw [hnxe2] at hR hnb2
    rw [hnxe2]
    refine Wp.cond rfl (fun h => ?_) (fun h => ?_)
    · have h := dT h
      rw [if_pos (by omega)] at hR
      subst hR
      (conv => whnf); repeat ((first | refine RngK.mk (by omega) (by omega) ?_ | refine NzK.mk (by omega) ?_ | refine NnK.mk (by omega) ?_ | refine BdK.mk (by omega) (by omega) (by omega) ?_ | refine InsK.lit (by omega) (by omega) ?_ | refine SpK.lit ?_ | refine GrdK.same ?_ | refine GrdK.tf ?_ | refine GrdK.ft ?_ | refine PickK.t ?_ | refine PickK.f ?_); (conv => whnf))
      refine CallK.of [0] (rbErr_spec rb r A bs.length c o22 st b22 c22 _ e u (by have := I22.on; omega)) rfl (fun w hw => ⟨hL.pass hw, Rd.cell6 hw 2 rfl h16⟩) ?_
      rintro _ _ ⟨⟨T', x, rfl⟩, rfl⟩
      (conv => whnf); repeat ((first | refine RngK.mk (by omega) (by omega) ?_ | refine NzK.mk (by omega) ?_ | refine NnK.mk (by omega) ?_ | refine BdK.mk (by omega) (by omega) (by omega) ?_ | refine InsK.lit (by omega) (by omega) ?_ | refine SpK.lit ?_ | refine GrdK.same ?_ | refine GrdK.tf ?_ | refine GrdK.ft ?_ | refine PickK.t ?_ | refine PickK.f ?_); (conv => whnf))
      exact ⟨_, HSub.of [2] rfl, xs, T', x, rfl, rfl⟩
    have h := dF h
    rw [if_neg (by omega)] at hR
    have w12 := padW_set (l := wn1) (k := 0 + (wn1).length) (Nat.zero_add _) (by omega) x2.1
    have wl12 := padW_len (l := wn1) (by omega)
    (conv => whnf); repeat ((first | refine RngK.mk (by omega) (by omega) ?_ | refine NzK.mk (by omega) ?_ | refine NnK.mk (by omega) ?_ | refine BdK.mk (by omega) (by omega) (by omega) ?_ | refine InsK.lit (by omega) (by omega) ?_ | refine SpK.lit ?_ | refine GrdK.same ?_ | refine GrdK.tf ?_ | refine GrdK.ft ?_ | refine PickK.t ?_ | refine PickK.f ?_); (conv => whnf))
    refine LdK.own 4 (b * 3 + 0) rfl rfl rfl rfl x02 ?_
    (conv => whnf); repeat ((first | refine RngK.mk (by omega) (by omega) ?_ | refine NzK.mk (by omega) ?_ | refine NnK.mk (by omega) ?_ | refine BdK.mk (by omega) (by omega) (by omega) ?_ | refine InsK.lit (by omega) (by omega) ?_ | refine SpK.lit ?_ | refine GrdK.same ?_ | refine GrdK.tf ?_ | refine GrdK.ft ?_ | refine PickK.t ?_ | refine PickK.f ?_); (conv => whnf))
    refine StK.blkE 1 ((padW (wn1 ++ [x2.1])).map vW8) rfl rfl rfl rfl (by rw [List.length_map, wl12]; show 0 + (wn1).length < 256; omega) (map_set' w12) ?_
    (conv => whnf); repeat ((first | refine RngK.mk (by omega) (by omega) ?_ | refine NzK.mk (by omega) ?_ | refine NnK.mk (by omega) ?_ | refine BdK.mk (by omega) (by omega) (by omega) ?_ | refine InsK.lit (by omega) (by omega) ?_ | refine SpK.lit ?_ | refine GrdK.same ?_ | refine GrdK.tf ?_ | refine GrdK.ft ?_ | refine PickK.t ?_ | refine PickK.f ?_); (conv => whnf))
    rw [show 8 * o21 + c21 - x2.2.1 = 8 * o22 + c22 by omega] at hR
    have hlen2 : (wn1 ++ [x2.1]).length = (wn1).length + 1 := by rw [List.length_append, List.length_singleton]
    rw [show (((wn1).length : Nat) : Int) + 1 = (((wn1 ++ [x2.1]).length : Nat) : Int) by rw [hlen2]; rfl]
    obtain ⟨wn2, hwn2⟩ : ∃ l, wn1 ++ [x2.1] = l := ⟨_, rfl⟩
    rw [hwn2] at hR hlen2
    rw [hwn2]
    exact ⟨⟨f2, nx1, nx2, wn2, o22, b22, c22⟩, ⟨rfl, rfl, rfl, rfl, rfl, rfl, rfl, rfl, rfl, rfl, trivial⟩, HSub.refl _, ⟨hnb1, hnb2, by show f2 + wn2.length = 257; omega, by show wn2.length ≤ 255; omega, I22, hR⟩, by show f2 < f; omega⟩
  dsimp only at hRw h6 ⊢
  subst hRw
  rw [show outP T m mc (off + 1 + q) (some ws) = HuffOut T m mc (off + 1 + q) (hufS ws) from rfl]
  obtain ⟨hws255, hws1', hw256, hroff⟩ := hRf ws rfl
  have hwl := padW_len (l := ws) (by omega)
  obtain ⟨wl, hwe⟩ : ∃ wl, padW ws = wl := ⟨_, rfl⟩
  have htk : wl.take ws.length = ws := by rw [← hwe, padW_take (Nat.le_refl _), List.take_length]
  obtain ⟨cnt, hce⟩ : ∃ cnt, ws.length = cnt := ⟨_, rfl⟩
  obtain ⟨roff, hre⟩ : ∃ roff, off + 1 + q = roff := ⟨_, rfl⟩
  have hw8 : ∀ w ∈ wl, w < 256 := by
    rw [← hwe]
    intro w hw
    simp only [padW, List.mem_append, List.mem_replicate] at hw
    rcases hw with hw | ⟨_, rfl⟩
    · exact hw256 w hw
    · omega
  rw [hwe] at hwl
  rw [hce] at htk hws255
  rw [hwe, hce]
  rw [hre] at hroff ⊢
  have hws1 : ws.length = cnt := hce
  have hcnt : cnt ≤ 255 := hws255
  (conv => whnf); repeat ((first | refine RngK.mk (by omega) (by omega) ?_ | refine NzK.mk (by omega) ?_ | refine NnK.mk (by omega) ?_ | refine BdK.mk (by omega) (by omega) (by omega) ?_ | refine InsK.lit (by omega) (by omega) ?_ | refine SpK.lit ?_ | refine GrdK.same ?_ | refine GrdK.tf ?_ | refine GrdK.ft ?_ | refine PickK.t ?_ | refine PickK.f ?_); (conv => whnf))
  refine NewK.rep ((rg fun _ => 0).map vW32) rfl rfl (by kernel_rfl) ?_
  intro mb
  (conv => whnf); repeat ((first | refine RngK.mk (by omega) (by omega) ?_ | refine NzK.mk (by omega) ?_ | refine NnK.mk (by omega) ?_ | refine BdK.mk (by omega) (by omega) (by omega) ?_ | refine InsK.lit (by omega) (by omega) ?_ | refine SpK.lit ?_ | refine GrdK.same ?_ | refine GrdK.tf ?_ | refine GrdK.ft ?_ | refine PickK.t ?_ | refine PickK.f ?_); (conv => whnf))
  refine Wp.cutEx 4 (fun _ : Unit => [(0, .pointer (some ⟨r, 0, none⟩)), (2, vN roff), (3, .slice T m mc), (12, .pointer (some ⟨nb, 0, none⟩)), (13, vN cnt), (26, .pointer (some ⟨mb, 0, none⟩)), (27, vW32 (wsum ws))])
    (fun _ => [.blk mb 135 ((rg fun w => ws.count w).map vW32), .blk nb 122 (wl.map vW8), .own T m mc 109 1 (xs.map vU16), .blk r 107 cs]) (fun _ => ∀ w ∈ ws, w ≤ 12) ?_ fun _ h12 => ?_
  · refine Wp.loop (fun i : Nat => [(0, .pointer (some ⟨r, 0, none⟩)), (2, vN roff), (3, .slice T m mc), (12, .pointer (some ⟨nb, 0, none⟩)), (13, vN cnt), (26, .pointer (some ⟨mb, 0, none⟩)), (27, vW32 (wsum (ws.take i))), (279, .slice (some ⟨nb, 0, none⟩) cnt 256), (280, vN cnt), (281, vN i)])
      (fun i => [.blk mb 135 ((rg fun w => (ws.take i).count w).map vW32), .blk nb 122 (wl.map vW8), .own T m mc 109 1 (xs.map vU16), .blk r 107 cs]) (fun i => i ≤ cnt ∧ ∀ w ∈ ws.take i, w ≤ 12) (fun i => cnt - i) 0
      ⟨rfl, rfl, rfl, rfl, rfl, rfl, rfl, rfl, rfl, rfl, trivial⟩ (HSub.refl _) ⟨Nat.zero_le _, by simp⟩ fun i ⟨hi, hi12⟩ => ?_
    (conv => whnf); repeat ((first | refine RngK.mk (by omega) (by omega) ?_ | refine NzK.mk (by omega) ?_ | refine NnK.mk (by omega) ?_ | refine BdK.mk (by omega) (by omega) (by omega) ?_ | refine InsK.lit (by omega) (by omega) ?_ | refine SpK.lit ?_ | refine GrdK.same ?_ | refine GrdK.tf ?_ | refine GrdK.ft ?_ | refine PickK.t ?_ | refine PickK.f ?_); (conv => whnf))
    refine Wp.cond rfl (fun h => ?_) (fun h => ?_)
    · have h := dT h
      have hi2 : i < cnt := by omega
      have hi3 : i < ws.length := by omega
      have hi4 : i < wl.length := by omega
      have hwi : wl[i] = ws[i] := by subst htk; simp
      have hmem : ws[i] ∈ ws := List.getElem_mem hi3
      have htn := take_snoc hi3
      have hw8 := hw8 _ (List.getElem_mem hi4)
      have hcl : ∀ w, (ws.take i).count w ≤ 256 := fun w => Nat.le_trans List.count_le_length (by rw [List.length_take]; omega)
      have hwsl := wsum_le hi12
      rw [List.length_take, Nat.min_eq_left (by omega)] at hwsl
      (conv => whnf); repeat ((first | refine RngK.mk (by omega) (by omega) ?_ | refine NzK.mk (by omega) ?_ | refine NnK.mk (by omega) ?_ | refine BdK.mk (by omega) (by omega) (by omega) ?_ | refine InsK.lit (by omega) (by omega) ?_ | refine SpK.lit ?_ | refine GrdK.same ?_ | refine GrdK.tf ?_ | refine GrdK.ft ?_ | refine PickK.t ?_ | refine PickK.f ?_); (conv => whnf))
      refine LdK.blk 1 (v := vW8 wl[i]) rfl rfl rfl (by show (wl.map vW8)[0 + i]? = _; simp [hi4]) ?_
      rw [hwi] at hw8 ⊢
      obtain ⟨x, hxx⟩ : ∃ x, ws[i] = x := ⟨_, rfl⟩
      rw [hxx] at htn hw8 hmem ⊢
      (conv => whnf); repeat ((first | refine RngK.mk (by omega) (by omega) ?_ | refine NzK.mk (by omega) ?_ | refine NnK.mk (by omega) ?_ | refine BdK.mk (by omega) (by omega) (by omega) ?_ | refine InsK.lit (by omega) (by omega) ?_ | refine SpK.lit ?_ | refine GrdK.same ?_ | refine GrdK.tf ?_ | refine GrdK.ft ?_ | refine PickK.t ?_ | refine PickK.f ?_); (conv => whnf))
      refine Wp.cond rfl (fun h => ?_) (fun h => ?_)
      · have h := dT h
        rw [hufS_none (fun h => by have := h.1 x hmem; omega)]
        (conv => whnf); repeat ((first | refine RngK.mk (by omega) (by omega) ?_ | refine NzK.mk (by omega) ?_ | refine NnK.mk (by omega) ?_ | refine BdK.mk (by omega) (by omega) (by omega) ?_ | refine InsK.lit (by omega) (by omega) ?_ | refine SpK.lit ?_ | refine GrdK.same ?_ | refine GrdK.tf ?_ | refine GrdK.ft ?_ | refine PickK.t ?_ | refine PickK.f ?_); (conv => whnf))
        refine CallK.of [] (err_spec r roff _ e u (by omega) (by omega)) rfl (fun w hw => ⟨hL.pass hw, Rd.cell6 hw 3 rfl h6⟩) ?_
        rintro _ _ ⟨⟨T0, x0, rfl⟩, rfl⟩
        (conv => whnf); repeat ((first | refine RngK.mk (by omega) (by omega) ?_ | refine NzK.mk (by omega) ?_ | refine NnK.mk (by omega) ?_ | refine BdK.mk (by omega) (by omega) (by omega) ?_ | refine InsK.lit (by omega) (by omega) ?_ | refine SpK.lit ?_ | refine GrdK.same ?_ | refine GrdK.tf ?_ | refine GrdK.ft ?_ | refine PickK.t ?_ | refine PickK.f ?_); (conv => whnf))
        exact ⟨_, HSub.of [2] rfl, xs, _, _, rfl, rfl⟩
      have h' : ¬ (x : Int) > 12 := dF h
      clear h
      have hx12 : x < 13 := by omega
      have hall : ∀ w ∈ ws.take (i + 1), w ≤ 12 := by
        intro w hw
        rw [htn] at hw
        simp only [List.mem_append, List.mem_singleton] at hw
        rcases hw with hw | rfl
        · exact hi12 w hw
        · omega
      have hcx := hcl x
      obtain ⟨c0, hc0⟩ : ∃ c0, (ws.take i).count x = c0 := ⟨_, rfl⟩
      have hset := cnt_set (ws.take i) (k := 0 + x) (Nat.zero_add x) hc0
      rw [← htn] at hset
      rw [hc0] at hcx
      have ec0 : IntKind.u32.wrap ((c0 : Int) + 1) = ((c0 + 1 : Nat) : Int) := IntWalk.u32_in _ (by omega)
      have hws' := wsum_snoc (ws.take i) x
      rw [← htn] at hws'
      have hiq : i * 2 ^ (12 - 1) ≤ 256 * 2 ^ 11 := Nat.mul_le_mul_right _ (by omega)
      (conv => whnf); repeat ((first | refine RngK.mk (by omega) (by omega) ?_ | refine NzK.mk (by omega) ?_ | refine NnK.mk (by omega) ?_ | refine BdK.mk (by omega) (by omega) (by omega) ?_ | refine InsK.lit (by omega) (by omega) ?_ | refine SpK.lit ?_ | refine GrdK.same ?_ | refine GrdK.tf ?_ | refine GrdK.ft ?_ | refine PickK.t ?_ | refine PickK.f ?_); (conv => whnf))
      refine LdK.blk 0 (v := vW32 c0) rfl rfl rfl (by show ((rg _).map vW32)[0 + x]? = _; rw [List.getElem?_map, Nat.zero_add, rg_get _ hx12, hc0]; rfl) ?_
      (conv => whnf); repeat ((first | refine RngK.mk (by omega) (by omega) ?_ | refine NzK.mk (by omega) ?_ | refine NnK.mk (by omega) ?_ | refine BdK.mk (by omega) (by omega) (by omega) ?_ | refine InsK.lit (by omega) (by omega) ?_ | refine SpK.lit ?_ | refine GrdK.same ?_ | refine GrdK.tf ?_ | refine GrdK.ft ?_ | refine PickK.t ?_ | refine PickK.f ?_); (conv => whnf))
      rw [ec0]
      refine StK.blkE 0 ((rg fun w => (ws.take (i + 1)).count w).map vW32) rfl rfl rfl rfl (by rw [List.length_map, rg_len]; show 0 + x < 13; omega) (map_set' hset) ?_
      (conv => whnf); repeat ((first | refine RngK.mk (by omega) (by omega) ?_ | refine NzK.mk (by omega) ?_ | refine NnK.mk (by omega) ?_ | refine BdK.mk (by omega) (by omega) (by omega) ?_ | refine InsK.lit (by omega) (by omega) ?_ | refine SpK.lit ?_ | refine GrdK.same ?_ | refine GrdK.tf ?_ | refine GrdK.ft ?_ | refine PickK.t ?_ | refine PickK.f ?_); (conv => whnf))
      refine Wp.cond rfl (fun h => ?_) (fun h => ?_)
      · have h := dT h
        have e1 : IntKind.u8.wrap ((x : Int) - 1) = ((x - 1 : Nat) : Int) := by
          rw [← wrap_u_lt (k := .u8) rfl (n := x - 1) (by show _ < 256; omega)]
          congr 1; omega
        have e2 : ishl .u32 1 ((x - 1 : Nat) : Int) = ((2 ^ (x - 1) : Nat) : Int) := by
          have h2p : 2 ^ (x - 1) ≤ 2 ^ 11 := Nat.pow_le_pow_right (by omega) (by omega)
          have := ishl_u (k := .u32) rfl 1 (n := x - 1) (by show _ ≤ 32; omega)
          rw [Nat.one_mul, Nat.mod_eq_of_lt (by show _ < 2 ^ 32; omega)] at this
          exact this
        have h2p : 2 ^ (x - 1) ≤ 2 ^ 11 := Nat.pow_le_pow_right (by omega) (by omega)
        have hwt : wt x = 2 ^ (x - 1) := if_neg (by omega)
        rw [hwt] at hws'
        have e3 : IntKind.u32.wrap ((wsum (ws.take i) : Int) + ((2 ^ (x - 1) : Nat) : Int)) = ((wsum (ws.take (i + 1)) : Nat) : Int) := by
          rw [hws', IntWalk.u32_in _ (by omega)]; omega
        (conv => whnf); repeat ((first | refine RngK.mk (by omega) (by omega) ?_ | refine NzK.mk (by omega) ?_ | refine NnK.mk (by omega) ?_ | refine BdK.mk (by omega) (by omega) (by omega) ?_ | refine InsK.lit (by omega) (by omega) ?_ | refine SpK.lit ?_ | refine GrdK.same ?_ | refine GrdK.tf ?_ | refine GrdK.ft ?_ | refine PickK.t ?_ | refine PickK.f ?_); (conv => whnf))
        rw [e1, e2, e3]
        (conv => whnf); repeat ((first | refine RngK.mk (by omega) (by omega) ?_ | refine NzK.mk (by omega) ?_ | refine NnK.mk (by omega) ?_ | refine BdK.mk (by omega) (by omega) (by omega) ?_ | refine InsK.lit (by omega) (by omega) ?_ | refine SpK.lit ?_ | refine GrdK.same ?_ | refine GrdK.tf ?_ | refine GrdK.ft ?_ | refine PickK.t ?_ | refine PickK.f ?_); (conv => whnf))
        exact ⟨i + 1, ⟨rfl, rfl, rfl, rfl, rfl, rfl, rfl, rfl, rfl, rfl, trivial⟩, HSub.refl _, ⟨by omega, hall⟩, by omega⟩
      · have h : ¬ (x : Int) > 0 := dF h
        have hwt : wt x = 0 := if_pos (by omega)
        rw [hwt, Nat.add_zero] at hws'
        (conv => whnf); repeat ((first | refine RngK.mk (by omega) (by omega) ?_ | refine NzK.mk (by omega) ?_ | refine NnK.mk (by omega) ?_ | refine BdK.mk (by omega) (by omega) (by omega) ?_ | refine InsK.lit (by omega) (by omega) ?_ | refine SpK.lit ?_ | refine GrdK.same ?_ | refine GrdK.tf ?_ | refine GrdK.ft ?_ | refine PickK.t ?_ | refine PickK.f ?_); (conv => whnf))
        exact ⟨i + 1, ⟨rfl, rfl, rfl, rfl, rfl, rfl, by show some (vW32 _) = some (vW32 _); rw [hws']; rfl, rfl, rfl, rfl, trivial⟩, HSub.refl _, ⟨by omega, hall⟩, by omega⟩
    · have h := dF h
      have hic : i = ws.length := by omega
      subst hic
      rw [List.take_length] at *
      (conv => whnf); repeat ((first | refine RngK.mk (by omega) (by omega) ?_ | refine NzK.mk (by omega) ?_ | refine NnK.mk (by omega) ?_ | refine BdK.mk (by omega) (by omega) (by omega) ?_ | refine InsK.lit (by omega) (by omega) ?_ | refine SpK.lit ?_ | refine GrdK.same ?_ | refine GrdK.tf ?_ | refine GrdK.ft ?_ | refine PickK.t ?_ | refine PickK.f ?_); (conv => whnf))
      exact ⟨(), ⟨rfl, rfl, rfl, rfl, rfl, rfl, rfl, trivial⟩, HSub.refl _, hi12⟩
  have hlt := wsum_le h12
  have hlt2 : ws.length * 2 ^ (12 - 1) ≤ 256 * 2 ^ 11 := Nat.mul_le_mul_right _ (by omega)
  obtain ⟨sm, hsm⟩ : ∃ sm, wsum ws = sm := ⟨_, rfl⟩
  rw [hsm] at hlt ⊢
  (conv => whnf); repeat ((first | refine RngK.mk (by omega) (by omega) ?_ | refine NzK.mk (by omega) ?_ | refine NnK.mk (by omega) ?_ | refine BdK.mk (by omega) (by omega) (by omega) ?_ | refine InsK.lit (by omega) (by omega) ?_ | refine SpK.lit ?_ | refine GrdK.same ?_ | refine GrdK.tf ?_ | refine GrdK.ft ?_ | refine PickK.t ?_ | refine PickK.f ?_); (conv => whnf))
  refine Wp.cond rfl (fun h => ?_) (fun h => ?_)
  · have h : (sm : Int) = 0 := eqT h
    rw [hufS_none (fun h => by have := h.2.1; omega)]
    (conv => whnf); repeat ((first | refine RngK.mk (by omega) (by omega) ?_ | refine NzK.mk (by omega) ?_ | refine NnK.mk (by omega) ?_ | refine BdK.mk (by omega) (by omega) (by omega) ?_ | refine InsK.lit (by omega) (by omega) ?_ | refine SpK.lit ?_ | refine GrdK.same ?_ | refine GrdK.tf ?_ | refine GrdK.ft ?_ | refine PickK.t ?_ | refine PickK.f ?_); (conv => whnf))
    refine CallK.of [] (err_spec r roff _ e u (by omega) (by omega)) rfl (fun w hw => ⟨hL.pass hw, Rd.cell6 hw 3 rfl h6⟩) ?_
    rintro _ _ ⟨⟨T0, x0, rfl⟩, rfl⟩
    (conv => whnf); repeat ((first | refine RngK.mk (by omega) (by omega) ?_ | refine NzK.mk (by omega) ?_ | refine NnK.mk (by omega) ?_ | refine BdK.mk (by omega) (by omega) (by omega) ?_ | refine InsK.lit (by omega) (by omega) ?_ | refine SpK.lit ?_ | refine GrdK.same ?_ | refine GrdK.tf ?_ | refine GrdK.ft ?_ | refine PickK.t ?_ | refine PickK.f ?_); (conv => whnf))
    exact ⟨_, HSub.of [2] rfl, xs, _, _, rfl, rfl⟩
  have hs0 : (sm : Int) ≠ 0 := eqF h
  clear h
  (conv => whnf); repeat ((first | refine RngK.mk (by omega) (by omega) ?_ | refine NzK.mk (by omega) ?_ | refine NnK.mk (by omega) ?_ | refine BdK.mk (by omega) (by omega) (by omega) ?_ | refine InsK.lit (by omega) (by omega) ?_ | refine SpK.lit ?_ | refine GrdK.same ?_ | refine GrdK.tf ?_ | refine GrdK.ft ?_ | refine PickK.t ?_ | refine PickK.f ?_); (conv => whnf))
  refine CallK.of0 (lz32_spec sm (by omega)) ?_
  rintro _ _ ⟨rfl, rfl⟩
  have hw20 : wd sm ≤ 20 := wd_lt (by omega)
  have hw1 : 0 < wd sm := wd_pos (by omega)
  have eb : (32 : Int) - ((32 - wd sm : Nat) : Int) = ((wd sm : Nat) : Int) := by omega
  obtain ⟨b, hb⟩ : ∃ b, wd sm = b := ⟨_, rfl⟩
  rw [hb] at hw20 hw1 eb ⊢
  (conv => whnf); repeat ((first | refine RngK.mk (by omega) (by omega) ?_ | refine NzK.mk (by omega) ?_ | refine NnK.mk (by omega) ?_ | refine BdK.mk (by omega) (by omega) (by omega) ?_ | refine InsK.lit (by omega) (by omega) ?_ | refine SpK.lit ?_ | refine GrdK.same ?_ | refine GrdK.tf ?_ | refine GrdK.ft ?_ | refine PickK.t ?_ | refine PickK.f ?_); (conv => whnf))
  rw [eb]
  refine Wp.cond rfl (fun h => ?_) (fun h => ?_)
  · have h := dT h
    rw [hufS_none (fun h => by have := h.2.2.1; rw [hsm, hb] at this; omega)]
    (conv => whnf); repeat ((first | refine RngK.mk (by omega) (by omega) ?_ | refine NzK.mk (by omega) ?_ | refine NnK.mk (by omega) ?_ | refine BdK.mk (by omega) (by omega) (by omega) ?_ | refine InsK.lit (by omega) (by omega) ?_ | refine SpK.lit ?_ | refine GrdK.same ?_ | refine GrdK.tf ?_ | refine GrdK.ft ?_ | refine PickK.t ?_ | refine PickK.f ?_); (conv => whnf))
    refine CallK.of [] (err_spec r roff _ e u (by omega) (by omega)) rfl (fun w hw => ⟨hL.pass hw, Rd.cell6 hw 3 rfl h6⟩) ?_
    rintro _ _ ⟨⟨T0, x0, rfl⟩, rfl⟩
    (conv => whnf); repeat ((first | refine RngK.mk (by omega) (by omega) ?_ | refine NzK.mk (by omega) ?_ | refine NnK.mk (by omega) ?_ | refine BdK.mk (by omega) (by omega) (by omega) ?_ | refine InsK.lit (by omega) (by omega) ?_ | refine SpK.lit ?_ | refine GrdK.same ?_ | refine GrdK.tf ?_ | refine GrdK.ft ?_ | refine PickK.t ?_ | refine PickK.f ?_); (conv => whnf))
    exact ⟨_, HSub.of [2] rfl, xs, _, _, rfl, rfl⟩
  have hb11 : ¬ (b : Int) > 11 := dF h
  clear h
  have h2b : 2 ^ b ≤ 2 ^ 11 := Nat.pow_le_pow_right (by omega) (by omega)
  have e1 : ishl .i64 1 (b : Int) = ((2 ^ b : Nat) : Int) := by
    have := ishl_i64 (x := 1) (n := b) (by omega) (by omega)
    rw [Nat.one_mul] at this
    exact this
  have e2 : ishl .u32 1 (b : Int) = ((2 ^ b : Nat) : Int) := by
    have := ishl_u (k := .u32) rfl 1 (n := b) (by show _ ≤ 32; omega)
    rw [Nat.one_mul, Nat.mod_eq_of_lt (by show _ < 2 ^ 32; omega)] at this
    exact this
  (conv => whnf); repeat ((first | refine RngK.mk (by omega) (by omega) ?_ | refine NzK.mk (by omega) ?_ | refine NnK.mk (by omega) ?_ | refine BdK.mk (by omega) (by omega) (by omega) ?_ | refine InsK.lit (by omega) (by omega) ?_ | refine SpK.lit ?_ | refine GrdK.same ?_ | refine GrdK.tf ?_ | refine GrdK.ft ?_ | refine PickK.t ?_ | refine PickK.f ?_); (conv => whnf))
  rw [e1]
  refine Wp.cond rfl (fun h => ?_) (fun h => ?_)
  · have h := dT h
    omega
  clear h
  have hsb := lt_wd sm
  rw [hb] at hsb
  have e3 : IntKind.u32.wrap (((2 ^ b : Nat) : Int) - sm) = ((2 ^ b - sm : Nat) : Int) := by
    rw [IntWalk.u32_in _ (by omega)]; omega
  (conv => whnf); repeat ((first | refine RngK.mk (by omega) (by omega) ?_ | refine NzK.mk (by omega) ?_ | refine NnK.mk (by omega) ?_ | refine BdK.mk (by omega) (by omega) (by omega) ?_ | refine InsK.lit (by omega) (by omega) ?_ | refine SpK.lit ?_ | refine GrdK.same ?_ | refine GrdK.tf ?_ | refine GrdK.ft ?_ | refine PickK.t ?_ | refine PickK.f ?_); (conv => whnf))
  rw [e2, e3]
  obtain ⟨lf, hlf⟩ : ∃ lf, 2 ^ b - sm = lf := ⟨_, rfl⟩
  rw [hlf]
  refine Wp.cond rfl (fun h => ?_) (fun h => ?_)
  · have h : (lf : Int) = 0 := eqT h
    omega
  clear h
  (conv => whnf); repeat ((first | refine RngK.mk (by omega) (by omega) ?_ | refine NzK.mk (by omega) ?_ | refine NnK.mk (by omega) ?_ | refine BdK.mk (by omega) (by omega) (by omega) ?_ | refine InsK.lit (by omega) (by omega) ?_ | refine SpK.lit ?_ | refine GrdK.same ?_ | refine GrdK.tf ?_ | refine GrdK.ft ?_ | refine PickK.t ?_ | refine PickK.f ?_); (conv => whnf))
  refine CallK.of0 (lz32_spec lf (by omega)) ?_
  rintro _ _ ⟨rfl, rfl⟩
  have hl11 : wd lf ≤ b := wd_lt (by omega)
  have hl1 : 0 < wd lf := wd_pos (by omega)
  have el : (31 : Int) - ((32 - wd lf : Nat) : Int) = ((wd lf - 1 : Nat) : Int) := by omega
  obtain ⟨hb1, hhb⟩ : ∃ hb1, wd lf = hb1 + 1 := ⟨wd lf - 1, by omega⟩
  rw [hhb] at hl11 hl1 el ⊢
  rw [Nat.add_sub_cancel] at el
  have e4 : ishl .u32 1 (hb1 : Int) = ((2 ^ hb1 : Nat) : Int) := by
    have h2p : 2 ^ hb1 ≤ 2 ^ 11 := Nat.pow_le_pow_right (by omega) (by omega)
    have := ishl_u (k := .u32) rfl 1 (n := hb1) (by show _ ≤ 32; omega)
    rw [Nat.one_mul, Nat.mod_eq_of_lt (by show _ < 2 ^ 32; omega)] at this
    exact this
  (conv => whnf); repeat ((first | refine RngK.mk (by omega) (by omega) ?_ | refine NzK.mk (by omega) ?_ | refine NnK.mk (by omega) ?_ | refine BdK.mk (by omega) (by omega) (by omega) ?_ | refine InsK.lit (by omega) (by omega) ?_ | refine SpK.lit ?_ | refine GrdK.same ?_ | refine GrdK.tf ?_ | refine GrdK.ft ?_ | refine PickK.t ?_ | refine PickK.f ?_); (conv => whnf))
  rw [el]
  (conv => whnf); repeat ((first | refine RngK.mk (by omega) (by omega) ?_ | refine NzK.mk (by omega) ?_ | refine NnK.mk (by omega) ?_ | refine BdK.mk (by omega) (by omega) (by omega) ?_ | refine InsK.lit (by omega) (by omega) ?_ | refine SpK.lit ?_ | refine GrdK.same ?_ | refine GrdK.tf ?_ | refine GrdK.ft ?_ | refine PickK.t ?_ | refine PickK.f ?_); (conv => whnf))
  rw [e4]
  refine Wp.cond rfl (fun h => ?_) (fun h => ?_)
  · have h : ((2 ^ hb1 : Nat) : Int) ≠ lf := neT h
    rw [hufS_none (fun h => by have := h.2.2.2; rw [hsm, hb, hlf, hhb, Nat.add_sub_cancel] at this; omega)]
    (conv => whnf); repeat ((first | refine RngK.mk (by omega) (by omega) ?_ | refine NzK.mk (by omega) ?_ | refine NnK.mk (by omega) ?_ | refine BdK.mk (by omega) (by omega) (by omega) ?_ | refine InsK.lit (by omega) (by omega) ?_ | refine SpK.lit ?_ | refine GrdK.same ?_ | refine GrdK.tf ?_ | refine GrdK.ft ?_ | refine PickK.t ?_ | refine PickK.f ?_); (conv => whnf))
    refine CallK.of [] (err_spec r roff _ e u (by omega) (by omega)) rfl (fun w hw => ⟨hL.pass hw, Rd.cell6 hw 3 rfl h6⟩) ?_
    rintro _ _ ⟨⟨T0, x0, rfl⟩, rfl⟩
    (conv => whnf); repeat ((first | refine RngK.mk (by omega) (by omega) ?_ | refine NzK.mk (by omega) ?_ | refine NnK.mk (by omega) ?_ | refine BdK.mk (by omega) (by omega) (by omega) ?_ | refine InsK.lit (by omega) (by omega) ?_ | refine SpK.lit ?_ | refine GrdK.same ?_ | refine GrdK.tf ?_ | refine GrdK.ft ?_ | refine PickK.t ?_ | refine PickK.f ?_); (conv => whnf))
    exact ⟨_, HSub.of [2] rfl, xs, _, _, rfl, rfl⟩
  have h2f : ((2 ^ hb1 : Nat) : Int) = lf := neF h
  clear h
  have hwh : wholeN ws = some (ws ++ [hb1 + 1], b) := by
    unfold wholeN
    rw [hsm, hb, hlf, hhb, Nat.add_sub_cancel, if_pos]
    exact ⟨le11 (by rw [hsm, hb]; omega), by omega, by omega, by omega⟩
  have hW2 := wholeN_facts hwh
  have hst := cnt_set ws (k := 0 + (hb1 + 1)) (x := hb1 + 1) (Nat.zero_add _) rfl
  have hcl : ws.count (hb1 + 1) ≤ 256 := Nat.le_trans List.count_le_length (by omega)
  have hhuf : hufS ws = if (ws ++ [hb1 + 1]).count 1 < 2 then none else some (tabC (ws ++ [hb1 + 1]) b b, b) := by unfold hufS; rw [hwh]
  have hal : (ws ++ [hb1 + 1]).length = cnt + 1 := by rw [List.length_append, hws1]; rfl
  have hta : (wl.set cnt (hb1 + 1)).take (cnt + 1) = ws ++ [hb1 + 1] := by
    rw [take_snoc (by rw [List.length_set]; omega), List.take_set_of_le (Nat.le_refl _), htk]
    simp
  have hwl' : (wl.set (0 + cnt) (hb1 + 1)).length = 256 := by rw [List.length_set, hwl]
  rw [hhuf]
  obtain ⟨c0, hc0⟩ : ∃ c0, ws.count (hb1 + 1) = c0 := ⟨_, rfl⟩
  rw [hc0] at hst hcl
  obtain ⟨all, hall⟩ : ∃ all, ws ++ [hb1 + 1] = all := ⟨_, rfl⟩
  rw [hall] at hst hwh hW2 hal hta ⊢
  obtain ⟨wl', hwe⟩ : ∃ wl', wl.set (0 + cnt) (hb1 + 1) = wl' := ⟨_, rfl⟩
  have hwm := map_set' (f := vW8) hwe
  rw [Nat.zero_add] at hwe
  rw [hwe] at hta
  rw [Nat.zero_add, hwe] at hwl'
  have e5 : IntKind.u8.wrap ((hb1 : Int) + 1) = ((hb1 + 1 : Nat) : Int) := wrap_u_lt (k := .u8) rfl (n := hb1 + 1) (by show _ < 256; omega)
  have e6 : IntKind.u32.wrap ((c0 : Int) + 1) = ((c0 + 1 : Nat) : Int) := IntWalk.u32_in _ (by omega)
  (conv => whnf); repeat ((first | refine RngK.mk (by omega) (by omega) ?_ | refine NzK.mk (by omega) ?_ | refine NnK.mk (by omega) ?_ | refine BdK.mk (by omega) (by omega) (by omega) ?_ | refine InsK.lit (by omega) (by omega) ?_ | refine SpK.lit ?_ | refine GrdK.same ?_ | refine GrdK.tf ?_ | refine GrdK.ft ?_ | refine PickK.t ?_ | refine PickK.f ?_); (conv => whnf))
  refine Wp.cond rfl (fun h => ?_) (fun h => ?_)
  · have h := dT h
    omega
  clear h
  (conv => whnf); repeat ((first | refine RngK.mk (by omega) (by omega) ?_ | refine NzK.mk (by omega) ?_ | refine NnK.mk (by omega) ?_ | refine BdK.mk (by omega) (by omega) (by omega) ?_ | refine InsK.lit (by omega) (by omega) ?_ | refine SpK.lit ?_ | refine GrdK.same ?_ | refine GrdK.tf ?_ | refine GrdK.ft ?_ | refine PickK.t ?_ | refine PickK.f ?_); (conv => whnf))
  rw [e5]
  refine StK.blkE 1 (wl'.map vW8) rfl rfl rfl rfl (by rw [List.length_map, hwl]; show 0 + cnt < 256; omega) hwm ?_
  (conv => whnf); repeat ((first | refine RngK.mk (by omega) (by omega) ?_ | refine NzK.mk (by omega) ?_ | refine NnK.mk (by omega) ?_ | refine BdK.mk (by omega) (by omega) (by omega) ?_ | refine InsK.lit (by omega) (by omega) ?_ | refine SpK.lit ?_ | refine GrdK.same ?_ | refine GrdK.tf ?_ | refine GrdK.ft ?_ | refine PickK.t ?_ | refine PickK.f ?_); (conv => whnf))
  refine LdK.blk 0 (v := vW32 c0) rfl rfl rfl (by show ((rg _).map vW32)[0 + (hb1 + 1)]? = _; rw [List.getElem?_map, Nat.zero_add, rg_get _ (by omega), hc0]; rfl) ?_
  (conv => whnf); repeat ((first | refine RngK.mk (by omega) (by omega) ?_ | refine NzK.mk (by omega) ?_ | refine NnK.mk (by omega) ?_ | refine BdK.mk (by omega) (by omega) (by omega) ?_ | refine InsK.lit (by omega) (by omega) ?_ | refine SpK.lit ?_ | refine GrdK.same ?_ | refine GrdK.tf ?_ | refine GrdK.ft ?_ | refine PickK.t ?_ | refine PickK.f ?_); (conv => whnf))
  rw [e6]
  refine StK.blkE 0 ((rg fun w => all.count w).map vW32) rfl rfl rfl rfl (by rw [List.length_map, rg_len]; show 0 + (hb1 + 1) < 13; omega) (map_set' hst) ?_
  have hev := hW2.even
  have hc1l : all.count 1 ≤ 256 := Nat.le_trans List.count_le_length (by omega)
  have eand : iand .u32 ((all.count 1 : Nat) : Int) 1 = ((all.count 1 % 2 : Nat) : Int) := by
    have := iand_u (k := .u32) rfl (x := all.count 1) (y := 1) (by show _ < 2 ^ 32; omega) (by decide)
    rw [show (1 : Nat) = 2 ^ 1 - 1 by rfl, Nat.and_two_pow_sub_one_eq_mod] at this
    exact this
  have hc1g : (((rg fun w => all.count w).map vW32)[1]?) = some (vW32 (all.count 1)) := by rw [List.getElem?_map, rg_get _ (by omega)]; rfl
  obtain ⟨c1, hc1⟩ : ∃ c1, all.count 1 = c1 := ⟨_, rfl⟩
  rw [hc1] at hev hc1l eand hc1g ⊢
  (conv => whnf); repeat ((first | refine RngK.mk (by omega) (by omega) ?_ | refine NzK.mk (by omega) ?_ | refine NnK.mk (by omega) ?_ | refine BdK.mk (by omega) (by omega) (by omega) ?_ | refine InsK.lit (by omega) (by omega) ?_ | refine SpK.lit ?_ | refine GrdK.same ?_ | refine GrdK.tf ?_ | refine GrdK.ft ?_ | refine PickK.t ?_ | refine PickK.f ?_); (conv => whnf))
  refine LdK.blk 0 (v := vW32 c1) rfl rfl rfl hc1g ?_
  (conv => whnf); repeat ((first | refine RngK.mk (by omega) (by omega) ?_ | refine NzK.mk (by omega) ?_ | refine NnK.mk (by omega) ?_ | refine BdK.mk (by omega) (by omega) (by omega) ?_ | refine InsK.lit (by omega) (by omega) ?_ | refine SpK.lit ?_ | refine GrdK.same ?_ | refine GrdK.tf ?_ | refine GrdK.ft ?_ | refine PickK.t ?_ | refine PickK.f ?_); (conv => whnf))
  by_cases hc2 : c1 < 2
  · rw [decide_eq_true (show (c1 : Int) < 2 by omega), if_pos hc2]
    (conv => whnf); repeat ((first | refine RngK.mk (by omega) (by omega) ?_ | refine NzK.mk (by omega) ?_ | refine NnK.mk (by omega) ?_ | refine BdK.mk (by omega) (by omega) (by omega) ?_ | refine InsK.lit (by omega) (by omega) ?_ | refine SpK.lit ?_ | refine GrdK.same ?_ | refine GrdK.tf ?_ | refine GrdK.ft ?_ | refine PickK.t ?_ | refine PickK.f ?_); (conv => whnf))
    refine Wp.cond rfl (fun _ => ?_) (fun h => by cases h)
    (conv => whnf); repeat ((first | refine RngK.mk (by omega) (by omega) ?_ | refine NzK.mk (by omega) ?_ | refine NnK.mk (by omega) ?_ | refine BdK.mk (by omega) (by omega) (by omega) ?_ | refine InsK.lit (by omega) (by omega) ?_ | refine SpK.lit ?_ | refine GrdK.same ?_ | refine GrdK.tf ?_ | refine GrdK.ft ?_ | refine PickK.t ?_ | refine PickK.f ?_); (conv => whnf))
    refine CallK.of [] (err_spec r roff _ e u (by omega) (by omega)) rfl (fun w hw => ⟨hL.pass hw, Rd.cell6 hw 3 rfl h6⟩) ?_
    rintro _ _ ⟨⟨T0, x0, rfl⟩, rfl⟩
    (conv => whnf); repeat ((first | refine RngK.mk (by omega) (by omega) ?_ | refine NzK.mk (by omega) ?_ | refine NnK.mk (by omega) ?_ | refine BdK.mk (by omega) (by omega) (by omega) ?_ | refine InsK.lit (by omega) (by omega) ?_ | refine SpK.lit ?_ | refine GrdK.same ?_ | refine GrdK.tf ?_ | refine GrdK.ft ?_ | refine PickK.t ?_ | refine PickK.f ?_); (conv => whnf))
    exact ⟨_, HSub.of [2] rfl, xs, _, _, rfl, rfl⟩
  rw [decide_eq_false (show ¬ (c1 : Int) < 2 by omega), if_neg hc2]
  (conv => whnf); repeat ((first | refine RngK.mk (by omega) (by omega) ?_ | refine NzK.mk (by omega) ?_ | refine NnK.mk (by omega) ?_ | refine BdK.mk (by omega) (by omega) (by omega) ?_ | refine InsK.lit (by omega) (by omega) ?_ | refine SpK.lit ?_ | refine GrdK.same ?_ | refine GrdK.tf ?_ | refine GrdK.ft ?_ | refine PickK.t ?_ | refine PickK.f ?_); (conv => whnf))
  refine LdK.blk 0 (v := vW32 c1) rfl rfl rfl hc1g ?_
  (conv => whnf); repeat ((first | refine RngK.mk (by omega) (by omega) ?_ | refine NzK.mk (by omega) ?_ | refine NnK.mk (by omega) ?_ | refine BdK.mk (by omega) (by omega) (by omega) ?_ | refine InsK.lit (by omega) (by omega) ?_ | refine SpK.lit ?_ | refine GrdK.same ?_ | refine GrdK.tf ?_ | refine GrdK.ft ?_ | refine PickK.t ?_ | refine PickK.f ?_); (conv => whnf))
  rw [eand, hev]
  (conv => whnf); repeat ((first | refine RngK.mk (by omega) (by omega) ?_ | refine NzK.mk (by omega) ?_ | refine NnK.mk (by omega) ?_ | refine BdK.mk (by omega) (by omega) (by omega) ?_ | refine InsK.lit (by omega) (by omega) ?_ | refine SpK.lit ?_ | refine GrdK.same ?_ | refine GrdK.tf ?_ | refine GrdK.ft ?_ | refine PickK.t ?_ | refine PickK.f ?_); (conv => whnf))
  refine Wp.cond rfl (fun h => by cases h) (fun _ => ?_)
  rw [markB_zero]
  clear hcl hc0 hst hwm e5 e6 hc1g eand hev hc1l hc2 h2f e4 el e1 e2 e3
  (conv => whnf); repeat ((first | refine RngK.mk (by omega) (by omega) ?_ | refine NzK.mk (by omega) ?_ | refine NnK.mk (by omega) ?_ | refine BdK.mk (by omega) (by omega) (by omega) ?_ | refine InsK.lit (by omega) (by omega) ?_ | refine SpK.lit ?_ | refine GrdK.same ?_ | refine GrdK.tf ?_ | refine GrdK.ft ?_ | refine PickK.t ?_ | refine PickK.f ?_); (conv => whnf))
  have hbase := hW2.base
  have hb13 : b ≤ 11 := hW2.b1
  refine Wp.cutEx 6 (fun _ : Unit => [(0, .pointer (some ⟨r, 0, none⟩)), (2, vN roff), (3, .slice T m mc), (8, vN b), (12, .pointer (some ⟨nb, 0, none⟩)), (13, vN (cnt + 1)), (26, .pointer (some ⟨mb, 0, none⟩))])
    (fun _ => [.blk mb 135 ((rg (markB all b)).map vW32), .blk nb 122 (wl'.map vW8), .own T m mc 109 1 (xs.map vU16), .blk r 107 cs]) (fun _ => True) ?_ fun _ _ => ?_
  · refine Wp.loop (fun i : Nat => [(0, .pointer (some ⟨r, 0, none⟩)), (2, vN roff), (3, .slice T m mc), (8, vN b), (12, .pointer (some ⟨nb, 0, none⟩)), (13, vN (cnt + 1)), (26, .pointer (some ⟨mb, 0, none⟩)), (32, vW32 (baseC all i)), (33, vN i)])
      (fun i => [.blk mb 135 ((rg (markB all i)).map vW32), .blk nb 122 (wl'.map vW8), .own T m mc 109 1 (xs.map vU16), .blk r 107 cs]) (fun i => i ≤ b) (fun i => b - i) 0
      ⟨rfl, rfl, rfl, rfl, rfl, rfl, rfl, rfl, rfl, trivial⟩ (HSub.refl _) (Nat.zero_le _) fun i hi => ?_
    (conv => whnf); repeat ((first | refine RngK.mk (by omega) (by omega) ?_ | refine NzK.mk (by omega) ?_ | refine NnK.mk (by omega) ?_ | refine BdK.mk (by omega) (by omega) (by omega) ?_ | refine InsK.lit (by omega) (by omega) ?_ | refine SpK.lit ?_ | refine GrdK.same ?_ | refine GrdK.tf ?_ | refine GrdK.ft ?_ | refine PickK.t ?_ | refine PickK.f ?_); (conv => whnf))
    refine Wp.cond rfl (fun h => ?_) (fun h => ?_)
    · have h := dT h
      have hi2 : i < b := by omega
      have hm1 := baseC_mono all (show i + 1 ≤ b by omega)
      have hbn : baseC all (i + 1) = baseC all i + all.count (i + 1) * 2 ^ i := rfl
      have hset := markB_next all (i := i) (k := 0 + (i + 1)) (Nat.zero_add _)
      have hge : ((rg (markB all i)).map vW32)[0 + (i + 1)]? = some (vW32 (all.count (i + 1))) := by
        rw [List.getElem?_map, Nat.zero_add, rg_get _ (by omega)]
        show some (vW32 _) = _
        unfold markB
        rw [if_neg (by omega)]
      obtain ⟨cc, hcc⟩ : ∃ cc, all.count (i + 1) = cc := ⟨_, rfl⟩
      rw [hcc] at hbn hge
      obtain ⟨pp, hpp⟩ : ∃ pp, cc * 2 ^ i = pp := ⟨_, rfl⟩
      rw [hpp] at hbn
      have esh : ishl .u32 (cc : Int) (i : Int) = ((pp : Nat) : Int) := by
        have := ishl_u (k := .u32) rfl cc (n := i) (by show _ ≤ 32; omega)
        rw [hpp, Nat.mod_eq_of_lt (by show _ < 2 ^ 32; omega)] at this
        exact this
      have ead : IntKind.u32.wrap (((baseC all i : Nat) : Int) + (pp : Int)) = ((baseC all (i + 1) : Nat) : Int) := by
        rw [hbn, IntWalk.u32_in _ (by omega)]; omega
      (conv => whnf); repeat ((first | refine RngK.mk (by omega) (by omega) ?_ | refine NzK.mk (by omega) ?_ | refine NnK.mk (by omega) ?_ | refine BdK.mk (by omega) (by omega) (by omega) ?_ | refine InsK.lit (by omega) (by omega) ?_ | refine SpK.lit ?_ | refine GrdK.same ?_ | refine GrdK.tf ?_ | refine GrdK.ft ?_ | refine PickK.t ?_ | refine PickK.f ?_); (conv => whnf))
      refine LdK.blk 0 (v := vW32 cc) rfl rfl rfl hge ?_
      (conv => whnf); repeat ((first | refine RngK.mk (by omega) (by omega) ?_ | refine NzK.mk (by omega) ?_ | refine NnK.mk (by omega) ?_ | refine BdK.mk (by omega) (by omega) (by omega) ?_ | refine InsK.lit (by omega) (by omega) ?_ | refine SpK.lit ?_ | refine GrdK.same ?_ | refine GrdK.tf ?_ | refine GrdK.ft ?_ | refine PickK.t ?_ | refine PickK.f ?_); (conv => whnf))
      rw [esh, ead]
      (conv => whnf); repeat ((first | refine RngK.mk (by omega) (by omega) ?_ | refine NzK.mk (by omega) ?_ | refine NnK.mk (by omega) ?_ | refine BdK.mk (by omega) (by omega) (by omega) ?_ | refine InsK.lit (by omega) (by omega) ?_ | refine SpK.lit ?_ | refine GrdK.same ?_ | refine GrdK.tf ?_ | refine GrdK.ft ?_ | refine PickK.t ?_ | refine PickK.f ?_); (conv => whnf))
      refine StK.blkE 0 ((rg (markB all (i + 1))).map vW32) rfl rfl rfl rfl (by rw [List.length_map, rg_len]; show 0 + (i + 1) < 13; omega) (map_set' hset) ?_
      (conv => whnf); repeat ((first | refine RngK.mk (by omega) (by omega) ?_ | refine NzK.mk (by omega) ?_ | refine NnK.mk (by omega) ?_ | refine BdK.mk (by omega) (by omega) (by omega) ?_ | refine InsK.lit (by omega) (by omega) ?_ | refine SpK.lit ?_ | refine GrdK.same ?_ | refine GrdK.tf ?_ | refine GrdK.ft ?_ | refine PickK.t ?_ | refine PickK.f ?_); (conv => whnf))
      exact ⟨i + 1, ⟨rfl, rfl, rfl, rfl, rfl, rfl, rfl, rfl, rfl, trivial⟩, HSub.refl _, by omega, by omega⟩
    · have h := dF h
      have hib : i = b := by omega
      subst hib
      (conv => whnf); repeat ((first | refine RngK.mk (by omega) (by omega) ?_ | refine NzK.mk (by omega) ?_ | refine NnK.mk (by omega) ?_ | refine BdK.mk (by omega) (by omega) (by omega) ?_ | refine InsK.lit (by omega) (by omega) ?_ | refine SpK.lit ?_ | refine GrdK.same ?_ | refine GrdK.tf ?_ | refine GrdK.ft ?_ | refine PickK.t ?_ | refine PickK.f ?_); (conv => whnf))
      exact ⟨(), ⟨rfl, rfl, rfl, rfl, rfl, rfl, rfl, trivial⟩, HSub.refl _, trivial⟩
  rw [markC_zero]
  (conv => whnf); repeat ((first | refine RngK.mk (by omega) (by omega) ?_ | refine NzK.mk (by omega) ?_ | refine NnK.mk (by omega) ?_ | refine BdK.mk (by omega) (by omega) (by omega) ?_ | refine InsK.lit (by omega) (by omega) ?_ | refine SpK.lit ?_ | refine GrdK.same ?_ | refine GrdK.tf ?_ | refine GrdK.ft ?_ | refine PickK.t ?_ | refine PickK.f ?_); (conv => whnf))
  refine Wp.cutEx 8 (fun _ : List Nat => [(0, .pointer (some ⟨r, 0, none⟩)), (2, vN roff), (8, vN b)])
    (fun ys => [.own T m mc 109 1 (ys.map vU16)]) (fun ys => Fl all b ys all.length ∧ ys.length = m) ?_ fun ys ⟨hfl, hyl⟩ => ?_
  · refine Wp.loop (fun t : Nat × List Nat => [(0, .pointer (some ⟨r, 0, none⟩)), (2, vN roff), (3, .slice T m mc), (8, vN b), (26, .pointer (some ⟨mb, 0, none⟩)), (392, .slice (some ⟨nb, 0, none⟩) (cnt + 1) 256), (393, vN (cnt + 1)), (394, vN t.1)])
      (fun t => [.blk mb 135 ((rg (markC all b t.1)).map vW32), .blk nb 122 (wl'.map vW8), .own T m mc 109 1 (t.2.map vU16), .blk r 107 cs]) (fun t => t.1 ≤ cnt + 1 ∧ Fl all b t.2 t.1 ∧ t.2.length = m) (fun t => cnt + 1 - t.1) (0, xs)
      ⟨rfl, rfl, rfl, rfl, rfl, rfl, rfl, rfl, trivial⟩ (HSub.refl _) ⟨Nat.zero_le _, Fl.zero _ _ _, hx⟩ fun ⟨i, ys⟩ ⟨hi, hfl, hyl⟩ => ?_
    dsimp only at hi hfl hyl ⊢
    (conv => whnf); repeat ((first | refine RngK.mk (by omega) (by omega) ?_ | refine NzK.mk (by omega) ?_ | refine NnK.mk (by omega) ?_ | refine BdK.mk (by omega) (by omega) (by omega) ?_ | refine InsK.lit (by omega) (by omega) ?_ | refine SpK.lit ?_ | refine GrdK.same ?_ | refine GrdK.tf ?_ | refine GrdK.ft ?_ | refine PickK.t ?_ | refine PickK.f ?_); (conv => whnf))
    refine Wp.cond rfl (fun h => ?_) (fun h => ?_)
    · have h := dT h
      have hi2 : i < all.length := by omega
      have hi3 : i < wl'.length := by omega
      have hwi : wl'[i] = all[i] := by subst hta; simp
      have hle := hW2.le _ (List.getElem_mem hi2)
      (conv => whnf); repeat ((first | refine RngK.mk (by omega) (by omega) ?_ | refine NzK.mk (by omega) ?_ | refine NnK.mk (by omega) ?_ | refine BdK.mk (by omega) (by omega) (by omega) ?_ | refine InsK.lit (by omega) (by omega) ?_ | refine SpK.lit ?_ | refine GrdK.same ?_ | refine GrdK.tf ?_ | refine GrdK.ft ?_ | refine PickK.t ?_ | refine PickK.f ?_); (conv => whnf))
      refine LdK.blk 1 (v := vW8 wl'[i]) rfl rfl rfl (by show (wl'.map vW8)[0 + i]? = _; simp [hi3]) ?_
      rw [hwi]
      obtain ⟨x, hxx⟩ : ∃ x, all[i] = x := ⟨_, rfl⟩
      rw [hxx] at hle ⊢
      (conv => whnf); repeat ((first | refine RngK.mk (by omega) (by omega) ?_ | refine NzK.mk (by omega) ?_ | refine NnK.mk (by omega) ?_ | refine BdK.mk (by omega) (by omega) (by omega) ?_ | refine InsK.lit (by omega) (by omega) ?_ | refine SpK.lit ?_ | refine GrdK.same ?_ | refine GrdK.tf ?_ | refine GrdK.ft ?_ | refine PickK.t ?_ | refine PickK.f ?_); (conv => whnf))
      refine Wp.cond rfl (fun h => ?_) (fun h => ?_)
      · have h : (x : Int) = 0 := eqT h
        have h0 : all[i] = 0 := by omega
        (conv => whnf); repeat ((first | refine RngK.mk (by omega) (by omega) ?_ | refine NzK.mk (by omega) ?_ | refine NnK.mk (by omega) ?_ | refine BdK.mk (by omega) (by omega) (by omega) ?_ | refine InsK.lit (by omega) (by omega) ?_ | refine SpK.lit ?_ | refine GrdK.same ?_ | refine GrdK.tf ?_ | refine GrdK.ft ?_ | refine PickK.t ?_ | refine PickK.f ?_); (conv => whnf))
        rw [markC_skip hi2 h0]
        exact ⟨(i + 1, ys), ⟨rfl, rfl, rfl, rfl, rfl, rfl, rfl, rfl, trivial⟩, HSub.refl _, ⟨by simp only; omega, hfl.skip hi2 h0, hyl⟩, by simp only; omega⟩
      · have h : (x : Int) ≠ 0 := eqF h
        obtain ⟨k, rfl⟩ : ∃ k, x = k + 1 := ⟨x - 1, by omega⟩
        have h2k : 2 ^ k ≤ 2 ^ 11 := Nat.pow_le_pow_right (by omega) (by omega)
        have e7 : IntKind.u8.wrap (((k + 1 : Nat) : Int) - 1) = ((k : Nat) : Int) := by
          rw [← wrap_u_lt (k := .u8) rfl (n := k) (by show _ < 256; omega)]
          congr 1; omega
        have e8 : ishl .u32 1 ((k : Nat) : Int) = ((2 ^ k : Nat) : Int) := by
          have := ishl_u (k := .u32) rfl 1 (n := k) (by show _ ≤ 32; omega)
          rw [Nat.one_mul, Nat.mod_eq_of_lt (by show _ < 2 ^ 32; omega)] at this
          exact this
        (conv => whnf); repeat ((first | refine RngK.mk (by omega) (by omega) ?_ | refine NzK.mk (by omega) ?_ | refine NnK.mk (by omega) ?_ | refine BdK.mk (by omega) (by omega) (by omega) ?_ | refine InsK.lit (by omega) (by omega) ?_ | refine SpK.lit ?_ | refine GrdK.same ?_ | refine GrdK.tf ?_ | refine GrdK.ft ?_ | refine PickK.t ?_ | refine PickK.f ?_); (conv => whnf))
        rw [e7]
        (conv => whnf); repeat ((first | refine RngK.mk (by omega) (by omega) ?_ | refine NzK.mk (by omega) ?_ | refine NnK.mk (by omega) ?_ | refine BdK.mk (by omega) (by omega) (by omega) ?_ | refine InsK.lit (by omega) (by omega) ?_ | refine SpK.lit ?_ | refine GrdK.same ?_ | refine GrdK.tf ?_ | refine GrdK.ft ?_ | refine PickK.t ?_ | refine PickK.f ?_); (conv => whnf))
        rw [e8]
        have hroom := seg_room all b k (i + 1)
        have hsl := congrArg List.length (seg_next (b := b) hi2 k)
        rw [if_pos hxx, List.length_append, List.length_replicate] at hsl
        have hmk := baseC_mono all (show k + 1 ≤ b by omega)
        obtain ⟨st, hst⟩ : ∃ st, baseC all k + (segC b (k + 1) 0 (all.take i)).length = st := ⟨_, rfl⟩
        have hfs := hfl.step hi2 hxx (by omega) (by rw [hbase]; omega)
        rw [hst] at hfs
        have hmn := markC_next hi2 hxx (show k < b by omega) (p := 0 + (k + 1)) (Nat.zero_add _) hst
        have hge : ((rg (markC all b i)).map vW32)[0 + (k + 1)]? = some (vW32 st) := by
          rw [List.getElem?_map, Nat.zero_add, rg_get _ (by omega), markC_at (by omega), hst]; rfl
        (conv => whnf); repeat ((first | refine RngK.mk (by omega) (by omega) ?_ | refine NzK.mk (by omega) ?_ | refine NnK.mk (by omega) ?_ | refine BdK.mk (by omega) (by omega) (by omega) ?_ | refine InsK.lit (by omega) (by omega) ?_ | refine SpK.lit ?_ | refine GrdK.same ?_ | refine GrdK.tf ?_ | refine GrdK.ft ?_ | refine PickK.t ?_ | refine PickK.f ?_); (conv => whnf))
        refine LdK.blk 0 (v := vW32 st) rfl rfl rfl hge ?_
        (conv => whnf); repeat ((first | refine RngK.mk (by omega) (by omega) ?_ | refine NzK.mk (by omega) ?_ | refine NnK.mk (by omega) ?_ | refine BdK.mk (by omega) (by omega) (by omega) ?_ | refine InsK.lit (by omega) (by omega) ?_ | refine SpK.lit ?_ | refine GrdK.same ?_ | refine GrdK.tf ?_ | refine GrdK.ft ?_ | refine PickK.t ?_ | refine PickK.f ?_); (conv => whnf))
        have e38' := e38 (i := i) (b := b) (k := k) (by omega) (by omega) (by omega)
        obtain ⟨tv, htv⟩ : ∃ tv, pk (i, b - k) = tv := ⟨_, rfl⟩
        rw [htv] at hfs e38'
        refine Wp.cutEx 10 (fun _ : Unit => [(0, .pointer (some ⟨r, 0, none⟩)), (2, vN roff), (3, .slice T m mc), (8, vN b), (26, .pointer (some ⟨mb, 0, none⟩)), (36, vW8 (k + 1)), (37, vW32 (2 ^ k)), (392, .slice (some ⟨nb, 0, none⟩) (cnt + 1) 256), (393, vN (cnt + 1)), (394, vN i)])
          (fun _ => [.blk mb 135 ((rg (markC all b i)).map vW32), .blk nb 122 (wl'.map vW8), .own T m mc 109 1 ((wrN ys st tv (2 ^ k)).map vU16), .blk r 107 cs]) (fun _ => True) ?_ fun _ _ => ?_
        · refine Wp.loop (fun j : Nat => [(0, .pointer (some ⟨r, 0, none⟩)), (2, vN roff), (3, .slice T m mc), (8, vN b), (26, .pointer (some ⟨mb, 0, none⟩)), (36, vW8 (k + 1)), (37, vW32 (2 ^ k)), (38, vU16 tv), (39, vW32 st), (40, vW32 j), (392, .slice (some ⟨nb, 0, none⟩) (cnt + 1) 256), (393, vN (cnt + 1)), (394, vN i)])
            (fun j => [.blk mb 135 ((rg (markC all b i)).map vW32), .blk nb 122 (wl'.map vW8), .own T m mc 109 1 ((wrN ys st tv j).map vU16), .blk r 107 cs]) (fun j => j ≤ 2 ^ k) (fun j => 2 ^ k - j) 0
            ⟨rfl, rfl, rfl, rfl, rfl, rfl, rfl, by show some (Value.int .u16 _) = some (Value.int .u16 _); rw [e38'], rfl, rfl, rfl, rfl, rfl, trivial⟩ (HSub.refl _) (Nat.zero_le _) fun j hj => ?_
          (conv => whnf); repeat ((first | refine RngK.mk (by omega) (by omega) ?_ | refine NzK.mk (by omega) ?_ | refine NnK.mk (by omega) ?_ | refine BdK.mk (by omega) (by omega) (by omega) ?_ | refine InsK.lit (by omega) (by omega) ?_ | refine SpK.lit ?_ | refine GrdK.same ?_ | refine GrdK.tf ?_ | refine GrdK.ft ?_ | refine PickK.t ?_ | refine PickK.f ?_); (conv => whnf))
          refine Wp.cond rfl (fun h => ?_) (fun h => ?_)
          · have h := dT h
            have hj2 : j < 2 ^ k := by omega
            have hwl2 := wrN_len ys st tv j
            have esj : IntKind.u32.wrap ((st : Int) + (j : Int)) = ((st + j : Nat) : Int) := by rw [IntWalk.u32_in _ (by omega)]; omega
            (conv => whnf); repeat ((first | refine RngK.mk (by omega) (by omega) ?_ | refine NzK.mk (by omega) ?_ | refine NnK.mk (by omega) ?_ | refine BdK.mk (by omega) (by omega) (by omega) ?_ | refine InsK.lit (by omega) (by omega) ?_ | refine SpK.lit ?_ | refine GrdK.same ?_ | refine GrdK.tf ?_ | refine GrdK.ft ?_ | refine PickK.t ?_ | refine PickK.f ?_); (conv => whnf))
            rw [esj]
            refine InsK.own hT (by omega) (by omega) ?_
            (conv => whnf); repeat ((first | refine RngK.mk (by omega) (by omega) ?_ | refine NzK.mk (by omega) ?_ | refine NnK.mk (by omega) ?_ | refine BdK.mk (by omega) (by omega) (by omega) ?_ | refine InsK.lit (by omega) (by omega) ?_ | refine SpK.lit ?_ | refine GrdK.same ?_ | refine GrdK.tf ?_ | refine GrdK.ft ?_ | refine PickK.t ?_ | refine PickK.f ?_); (conv => whnf))
            refine StK.own 2 (st + j) rfl (hT.ad (by omega)) rfl rfl rfl rfl (by rw [List.length_map]; omega) ?_
            have ej : IntKind.u32.wrap ((j : Int) + 1) = ((j + 1 : Nat) : Int) := by rw [IntWalk.u32_in _ (by omega)]; omega
            have hwset : ((wrN ys st tv j).map vU16).set (st + j) (vU16 tv) = (wrN ys st tv (j + 1)).map vU16 := by rw [wrN, List.map_set]
            (conv => whnf); repeat ((first | refine RngK.mk (by omega) (by omega) ?_ | refine NzK.mk (by omega) ?_ | refine NnK.mk (by omega) ?_ | refine BdK.mk (by omega) (by omega) (by omega) ?_ | refine InsK.lit (by omega) (by omega) ?_ | refine SpK.lit ?_ | refine GrdK.same ?_ | refine GrdK.tf ?_ | refine GrdK.ft ?_ | refine PickK.t ?_ | refine PickK.f ?_); (conv => whnf))
            rw [ej, hwset]
            exact ⟨j + 1, ⟨rfl, rfl, rfl, rfl, rfl, rfl, rfl, rfl, rfl, rfl, rfl, rfl, rfl, trivial⟩, HSub.refl _, by omega, by omega⟩
          · have h := dF h
            have hjk : j = 2 ^ k := by omega
            subst hjk
            (conv => whnf); repeat ((first | refine RngK.mk (by omega) (by omega) ?_ | refine NzK.mk (by omega) ?_ | refine NnK.mk (by omega) ?_ | refine BdK.mk (by omega) (by omega) (by omega) ?_ | refine InsK.lit (by omega) (by omega) ?_ | refine SpK.lit ?_ | refine GrdK.same ?_ | refine GrdK.tf ?_ | refine GrdK.ft ?_ | refine PickK.t ?_ | refine PickK.f ?_); (conv => whnf))
            exact ⟨(), ⟨rfl, rfl, rfl, rfl, rfl, rfl, rfl, rfl, rfl, rfl, trivial⟩, HSub.refl _, trivial⟩
        have est : IntKind.u32.wrap ((st : Int) + ((2 ^ k : Nat) : Int)) = ((st + 2 ^ k : Nat) : Int) := by rw [IntWalk.u32_in _ (by omega)]; omega
        (conv => whnf); repeat ((first | refine RngK.mk (by omega) (by omega) ?_ | refine NzK.mk (by omega) ?_ | refine NnK.mk (by omega) ?_ | refine BdK.mk (by omega) (by omega) (by omega) ?_ | refine InsK.lit (by omega) (by omega) ?_ | refine SpK.lit ?_ | refine GrdK.same ?_ | refine GrdK.tf ?_ | refine GrdK.ft ?_ | refine PickK.t ?_ | refine PickK.f ?_); (conv => whnf))
        refine LdK.blk 0 (v := vW32 st) rfl rfl rfl hge ?_
        (conv => whnf); repeat ((first | refine RngK.mk (by omega) (by omega) ?_ | refine NzK.mk (by omega) ?_ | refine NnK.mk (by omega) ?_ | refine BdK.mk (by omega) (by omega) (by omega) ?_ | refine InsK.lit (by omega) (by omega) ?_ | refine SpK.lit ?_ | refine GrdK.same ?_ | refine GrdK.tf ?_ | refine GrdK.ft ?_ | refine PickK.t ?_ | refine PickK.f ?_); (conv => whnf))
        rw [est]
        refine StK.blkE 0 ((rg (markC all b (i + 1))).map vW32) rfl rfl rfl rfl (by rw [List.length_map, rg_len]; show 0 + (k + 1) < 13; omega) (map_set' hmn) ?_
        (conv => whnf); repeat ((first | refine RngK.mk (by omega) (by omega) ?_ | refine NzK.mk (by omega) ?_ | refine NnK.mk (by omega) ?_ | refine BdK.mk (by omega) (by omega) (by omega) ?_ | refine InsK.lit (by omega) (by omega) ?_ | refine SpK.lit ?_ | refine GrdK.same ?_ | refine GrdK.tf ?_ | refine GrdK.ft ?_ | refine PickK.t ?_ | refine PickK.f ?_); (conv => whnf))
        exact ⟨(i + 1, wrN ys st tv (2 ^ k)), ⟨rfl, rfl, rfl, rfl, rfl, rfl, rfl, rfl, trivial⟩, HSub.refl _, ⟨by simp only; omega, hfs, by rw [wrN_len]; exact hyl⟩, by simp only; omega⟩
    · have h := dF h
      have hib : i = all.length := by omega
      subst hib
      (conv => whnf); repeat ((first | refine RngK.mk (by omega) (by omega) ?_ | refine NzK.mk (by omega) ?_ | refine NnK.mk (by omega) ?_ | refine BdK.mk (by omega) (by omega) (by omega) ?_ | refine InsK.lit (by omega) (by omega) ?_ | refine SpK.lit ?_ | refine GrdK.same ?_ | refine GrdK.tf ?_ | refine GrdK.ft ?_ | refine PickK.t ?_ | refine PickK.f ?_); (conv => whnf))
      exact ⟨ys, ⟨rfl, rfl, rfl, trivial⟩, HSub.of [2] rfl, hfl, hyl⟩
  have hdone := hfl.done (by rw [hbase]; omega)
  rw [hbase] at hdone
  (conv => whnf); repeat ((first | refine RngK.mk (by omega) (by omega) ?_ | refine NzK.mk (by omega) ?_ | refine NnK.mk (by omega) ?_ | refine BdK.mk (by omega) (by omega) (by omega) ?_ | refine InsK.lit (by omega) (by omega) ?_ | refine SpK.lit ?_ | refine GrdK.same ?_ | refine GrdK.tf ?_ | refine GrdK.ft ?_ | refine PickK.t ?_ | refine PickK.f ?_); (conv => whnf))
  exact ⟨_, HSub.of [0] rfl, ys, hyl, hdone, rfl, rfl⟩
end Go.Proofs.YtgdhdkjbilifiaaDoor
