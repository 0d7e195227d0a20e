/- Tables of codes as the package takes them, and a Reader that has one. A Reader that has a table of codes. The reader of all kinds of literals, where they have no codes; the law FnSectionRaw: it returns true. -/
import Derived.Test.YtgdhdkjbilifiaaDoorCdD
namespace Go.Proofs.YtgdhdkjbilifiaaDoor
open Go Go.Sx
set_option maxRecDepth 100000
theorem cdE_at {l : List Cd} {k : Nat} (hk : k < l.length) : ∀ q v, (cdC l[k])[q]? = some v → (cdE l)[k * 2 + q]? = some v := by
  induction l generalizing k with
  | nil => simp at hk
  | cons x l ih =>
    intro q v hv
    cases k with
    | zero =>
      have hq : q < 2 := by
        have := (List.getElem?_eq_some_iff.1 hv).1
        simpa [cdC] using this
      show ((cdC x) ++ cdE l)[0 * 2 + q]? = some v
      rw [Nat.zero_mul, Nat.zero_add, List.getElem?_append_left (by simpa [cdC] using hq)]
      exact hv
    | succ k =>
      show ((cdC x) ++ cdE l)[(k + 1) * 2 + q]? = some v
      have : (cdC x).length = 2 := rfl
      rw [List.getElem?_append_right (by omega), this, show (k + 1) * 2 + q - 2 = k * 2 + q by omega]
      exact ih (by simpa using hk) q v hv
theorem pairsOf_spec (A : Option Addr) (n c : Nat) (l : List Cd) (hn : n ≤ 1000000) (hl : l.length = n) (hx : ∀ x ∈ l, x.1 < 256 ∧ x.2 < 256) : FnS Tryd.prog 42 [.slice A n c] [] (fun w => Rd w (blocks []) A n 2 (cdE l))
    (fun v H => ∃ A1 c1, v = .slice A1 l.length c1 ∧ H = [.own A1 l.length c1 109 1 ((l.map pk).map vU16)]) := by
  refine FnS.introD Tryd.func42 rfl (by kernel_rfl) rfl fun w hH hp => ?_
  (conv => whnf); repeat ((first | refine RngK.mk (by omega) (by omega) ?_ | refine NzK.mk (by omega) ?_ | refine NnK.mk (by omega) ?_ | refine BdK.mk (by omega) (by omega) (by omega) ?_ | refine InsK.lit (by omega) (by omega) ?_ | refine SpK.lit ?_ | refine GrdK.same ?_ | refine GrdK.tf ?_ | refine GrdK.ft ?_ | refine PickK.t ?_ | refine PickK.f ?_); (conv => whnf))
  refine EffK.lit0 rfl rfl fun b => ?_
  (conv => whnf); repeat ((first | refine RngK.mk (by omega) (by omega) ?_ | refine NzK.mk (by omega) ?_ | refine NnK.mk (by omega) ?_ | refine BdK.mk (by omega) (by omega) (by omega) ?_ | refine InsK.lit (by omega) (by omega) ?_ | refine SpK.lit ?_ | refine GrdK.same ?_ | refine GrdK.tf ?_ | refine GrdK.ft ?_ | refine PickK.t ?_ | refine PickK.f ?_); (conv => whnf))
  refine Wp.loop (fun t : Nat × Option Addr × Nat => [(7, .slice A n c), (8, vN n), (9, vN t.1), (3, .slice t.2.1 (l.take t.1).length t.2.2)]) (fun t => [.own t.2.1 (l.take t.1).length t.2.2 109 1 (((l.take t.1).map pk).map vU16)])
    (fun t => t.1 ≤ n) (fun t => n - t.1) (0, some ⟨b, 0, none⟩, 0) ⟨rfl, rfl, rfl, rfl, trivial⟩ (HSub.refl _) (Nat.zero_le _) fun ⟨k, A1, c1⟩ hk => ?_
  dsimp only at hk ⊢
  (conv => whnf); repeat ((first | refine RngK.mk (by omega) (by omega) ?_ | refine NzK.mk (by omega) ?_ | refine NnK.mk (by omega) ?_ | refine BdK.mk (by omega) (by omega) (by omega) ?_ | refine InsK.lit (by omega) (by omega) ?_ | refine SpK.lit ?_ | refine GrdK.same ?_ | refine GrdK.tf ?_ | refine GrdK.ft ?_ | refine PickK.t ?_ | refine PickK.f ?_); (conv => whnf))
  refine Wp.cond rfl (fun h => ?_) (fun h => ?_)
  · have h := dT h
    have hk' : k < l.length := by omega
    have hcell := cdE_at hk'
    have htk := List.take_succ_eq_append_getElem hk'
    have htl : (l.take k).length = k := by simp; omega
    obtain ⟨x1, x2⟩ := hx _ (List.getElem_mem hk')
    obtain ⟨x, hxx⟩ : ∃ x, l[k] = x := ⟨_, rfl⟩
    rw [hxx] at hcell htk x1 x2
    have e1 : ishl .i64 (x.1 : Int) 8 = ((x.1 * 256 : Nat) : Int) := ishl_i64 (x := x.1) (n := 8) (by omega) (by omega)
    have e2 : ior .i64 ((x.1 * 256 : Nat) : Int) (x.2 : Int) = ((pk x : Nat) : Int) := by
      rw [ior_i64 (by omega) (by omega), Nat.or_comm]
      have := or_add (x := x.2) (y := x.1) (i := 8) (by omega)
      rw [show x.1 * 256 = x.1 * 2 ^ 8 by rfl, this]
      unfold pk
      omega
    have hpk : pk x < 65536 := by unfold pk; omega
    have e3 : IntKind.u16.wrap ((pk x : Nat) : Int) = ((pk x : Nat) : Int) := wrap_u_lt rfl (by show _ < 65536; omega)
    (conv => whnf); repeat ((first | refine RngK.mk (by omega) (by omega) ?_ | refine NzK.mk (by omega) ?_ | refine NnK.mk (by omega) ?_ | refine BdK.mk (by omega) (by omega) (by omega) ?_ | refine InsK.lit (by omega) (by omega) ?_ | refine SpK.lit ?_ | refine GrdK.same ?_ | refine GrdK.tf ?_ | refine GrdK.ft ?_ | refine PickK.t ?_ | refine PickK.f ?_); (conv => whnf))
    refine InsK.rd hp (by omega) (by omega) ?_
    (conv => whnf); repeat ((first | refine RngK.mk (by omega) (by omega) ?_ | refine NzK.mk (by omega) ?_ | refine NnK.mk (by omega) ?_ | refine BdK.mk (by omega) (by omega) (by omega) ?_ | refine InsK.lit (by omega) (by omega) ?_ | refine SpK.lit ?_ | refine GrdK.same ?_ | refine GrdK.tf ?_ | refine GrdK.ft ?_ | refine PickK.t ?_ | refine PickK.f ?_); (conv => whnf))
    refine LdK.rdN (cs := cdC x) hp (k * 2) rfl rfl rfl rfl rfl rfl hcell ?_
    (conv => whnf); repeat ((first | refine RngK.mk (by omega) (by omega) ?_ | refine NzK.mk (by omega) ?_ | refine NnK.mk (by omega) ?_ | refine BdK.mk (by omega) (by omega) (by omega) ?_ | refine InsK.lit (by omega) (by omega) ?_ | refine SpK.lit ?_ | refine GrdK.same ?_ | refine GrdK.tf ?_ | refine GrdK.ft ?_ | refine PickK.t ?_ | refine PickK.f ?_); (conv => whnf))
    refine ⟨_, _, rfl, rfl, ?_⟩
    intro b8
    (conv => whnf); repeat ((first | refine RngK.mk (by omega) (by omega) ?_ | refine NzK.mk (by omega) ?_ | refine NnK.mk (by omega) ?_ | refine BdK.mk (by omega) (by omega) (by omega) ?_ | refine InsK.lit (by omega) (by omega) ?_ | refine SpK.lit ?_ | refine GrdK.same ?_ | refine GrdK.tf ?_ | refine GrdK.ft ?_ | refine PickK.t ?_ | refine PickK.f ?_); (conv => whnf))
    refine StK.blkNE 0 (cdC x) rfl rfl rfl rfl rfl rfl ?_
    (conv => whnf); repeat ((first | refine RngK.mk (by omega) (by omega) ?_ | refine NzK.mk (by omega) ?_ | refine NnK.mk (by omega) ?_ | refine BdK.mk (by omega) (by omega) (by omega) ?_ | refine InsK.lit (by omega) (by omega) ?_ | refine SpK.lit ?_ | refine GrdK.same ?_ | refine GrdK.tf ?_ | refine GrdK.ft ?_ | refine PickK.t ?_ | refine PickK.f ?_); (conv => whnf))
    refine LdK.blk 0 rfl rfl rfl rfl ?_
    (conv => whnf); repeat ((first | refine RngK.mk (by omega) (by omega) ?_ | refine NzK.mk (by omega) ?_ | refine NnK.mk (by omega) ?_ | refine BdK.mk (by omega) (by omega) (by omega) ?_ | refine InsK.lit (by omega) (by omega) ?_ | refine SpK.lit ?_ | refine GrdK.same ?_ | refine GrdK.tf ?_ | refine GrdK.ft ?_ | refine PickK.t ?_ | refine PickK.f ?_); (conv => whnf))
    refine LdK.blk 0 rfl rfl rfl rfl ?_
    (conv => whnf); repeat ((first | refine RngK.mk (by omega) (by omega) ?_ | refine NzK.mk (by omega) ?_ | refine NnK.mk (by omega) ?_ | refine BdK.mk (by omega) (by omega) (by omega) ?_ | refine InsK.lit (by omega) (by omega) ?_ | refine SpK.lit ?_ | refine GrdK.same ?_ | refine GrdK.tf ?_ | refine GrdK.ft ?_ | refine PickK.t ?_ | refine PickK.f ?_); (conv => whnf))
    rw [e1, e2, e3]
    refine EffK.litV rfl rfl rfl rfl rfl rfl rfl rfl rfl ?_
    (conv => whnf); repeat ((first | refine RngK.mk (by omega) (by omega) ?_ | refine NzK.mk (by omega) ?_ | refine NnK.mk (by omega) ?_ | refine BdK.mk (by omega) (by omega) (by omega) ?_ | refine InsK.lit (by omega) (by omega) ?_ | refine SpK.lit ?_ | refine GrdK.same ?_ | refine GrdK.tf ?_ | refine GrdK.ft ?_ | refine PickK.t ?_ | refine PickK.f ?_); (conv => whnf))
    intro b3
    (conv => whnf); repeat ((first | refine RngK.mk (by omega) (by omega) ?_ | refine NzK.mk (by omega) ?_ | refine NnK.mk (by omega) ?_ | refine BdK.mk (by omega) (by omega) (by omega) ?_ | refine InsK.lit (by omega) (by omega) ?_ | refine SpK.lit ?_ | refine GrdK.same ?_ | refine GrdK.tf ?_ | refine GrdK.ft ?_ | refine PickK.t ?_ | refine PickK.f ?_); (conv => whnf))
    refine EffK.append 2 (news := [vU16 (pk x)]) rfl rfl rfl rfl rfl rfl rfl rfl (Src.ownW (k := 0) rfl rfl) (by intro u hu; rcases List.mem_singleton.1 hu with rfl; rfl) (by simp [maxLen]; omega) (by show (_ + _) * 2 ≤ _; omega) fun A' cap' => ?_
    (conv => whnf); repeat ((first | refine RngK.mk (by omega) (by omega) ?_ | refine NzK.mk (by omega) ?_ | refine NnK.mk (by omega) ?_ | refine BdK.mk (by omega) (by omega) (by omega) ?_ | refine InsK.lit (by omega) (by omega) ?_ | refine SpK.lit ?_ | refine GrdK.same ?_ | refine GrdK.tf ?_ | refine GrdK.ft ?_ | refine PickK.t ?_ | refine PickK.f ?_); (conv => whnf))
    refine ⟨(k + 1, A', cap'), ⟨rfl, rfl, rfl, ?_, trivial⟩, ?_, by simp only; omega, by simp only; omega⟩
    · show some _ = some _
      rw [htk]
      simp
    · dsimp only
      rw [htk, List.length_append, List.map_append, List.map_append]
      exact HSub.of [2] rfl
  · have h := dF h
    rw [List.take_of_length_le (by omega)]
    (conv => whnf); repeat ((first | refine RngK.mk (by omega) (by omega) ?_ | refine NzK.mk (by omega) ?_ | refine NnK.mk (by omega) ?_ | refine BdK.mk (by omega) (by omega) (by omega) ?_ | refine InsK.lit (by omega) (by omega) ?_ | refine SpK.lit ?_ | refine GrdK.same ?_ | refine GrdK.tf ?_ | refine GrdK.ft ?_ | refine PickK.t ?_ | refine PickK.f ?_); (conv => whnf))
    exact ⟨_, HSub.refl _, A1, c1, rfl, rfl⟩
end Go.Proofs.YtgdhdkjbilifiaaDoor
namespace Go.Proofs.YtgdhdkjbilifiaaDoor
open Go Go.Sx
set_option maxRecDepth 100000
theorem zzReader_spec (A : Option Addr) (n c : Nat) (ts : List Nat) (b : Nat) (hl : ts.length = n) (hn : n ≤ 2048) : FnS Tryd.prog 54 [.slice A n c, vN b] [] (fun w => Rd w (blocks []) A n 1 (ts.map vU16))
    (fun v H => ∃ rb tb cs, H = [.blk rb 107 cs, .own (some ⟨tb, 0, none⟩) 2048 2048 109 1 ((ts ++ List.replicate (2048 - ts.length) 0).map vU16)] ∧ v = .pointer (some ⟨rb, 0, none⟩) ∧ cs[6]? = some (vI 0) ∧ cs[12]? = some (.slice (some ⟨tb, 0, none⟩) 2048 2048) ∧ cs[13]? = some (vN b)) := by
  refine FnS.introD Tryd.func54 rfl (by kernel_rfl) rfl fun w hH hp => ?_
  (conv => whnf); repeat ((first | refine RngK.mk (by omega) (by omega) ?_ | refine NzK.mk (by omega) ?_ | refine NnK.mk (by omega) ?_ | refine BdK.mk (by omega) (by omega) (by omega) ?_ | refine InsK.lit (by omega) (by omega) ?_ | refine SpK.lit ?_ | refine GrdK.same ?_ | refine GrdK.tf ?_ | refine GrdK.ft ?_ | refine PickK.t ?_ | refine PickK.f ?_); (conv => whnf))
  refine EffK.made1 2048 rfl rfl rfl rfl rfl rfl (by show 2 * _ ≤ _; omega) (by simp [maxLen]) fun b1 => ?_
  (conv => whnf); repeat ((first | refine RngK.mk (by omega) (by omega) ?_ | refine NzK.mk (by omega) ?_ | refine NnK.mk (by omega) ?_ | refine BdK.mk (by omega) (by omega) (by omega) ?_ | refine InsK.lit (by omega) (by omega) ?_ | refine SpK.lit ?_ | refine GrdK.same ?_ | refine GrdK.tf ?_ | refine GrdK.ft ?_ | refine PickK.t ?_ | refine PickK.f ?_); (conv => whnf))
  refine ValK.build rfl ?_
  (conv => whnf); repeat ((first | refine RngK.mk (by omega) (by omega) ?_ | refine NzK.mk (by omega) ?_ | refine NnK.mk (by omega) ?_ | refine BdK.mk (by omega) (by omega) (by omega) ?_ | refine InsK.lit (by omega) (by omega) ?_ | refine SpK.lit ?_ | refine GrdK.same ?_ | refine GrdK.tf ?_ | refine GrdK.ft ?_ | refine PickK.t ?_ | refine PickK.f ?_); (conv => whnf))
  intro b2
  (conv => whnf); repeat ((first | refine RngK.mk (by omega) (by omega) ?_ | refine NzK.mk (by omega) ?_ | refine NnK.mk (by omega) ?_ | refine BdK.mk (by omega) (by omega) (by omega) ?_ | refine InsK.lit (by omega) (by omega) ?_ | refine SpK.lit ?_ | refine GrdK.same ?_ | refine GrdK.tf ?_ | refine GrdK.ft ?_ | refine PickK.t ?_ | refine PickK.f ?_); (conv => whnf))
  refine LdK.blk 0 rfl rfl rfl rfl ?_
  (conv => whnf); repeat ((first | refine RngK.mk (by omega) (by omega) ?_ | refine NzK.mk (by omega) ?_ | refine NnK.mk (by omega) ?_ | refine BdK.mk (by omega) (by omega) (by omega) ?_ | refine InsK.lit (by omega) (by omega) ?_ | refine SpK.lit ?_ | refine GrdK.same ?_ | refine GrdK.tf ?_ | refine GrdK.ft ?_ | refine PickK.t ?_ | refine PickK.f ?_); (conv => whnf))
  by_cases h0 : n = 0
  · subst h0
    obtain rfl : ts = [] := List.length_eq_zero_iff.1 hl
    refine EffK.copy0 rfl rfl (by omega) ?_
    (conv => whnf); repeat ((first | refine RngK.mk (by omega) (by omega) ?_ | refine NzK.mk (by omega) ?_ | refine NnK.mk (by omega) ?_ | refine BdK.mk (by omega) (by omega) (by omega) ?_ | refine InsK.lit (by omega) (by omega) ?_ | refine SpK.lit ?_ | refine GrdK.same ?_ | refine GrdK.tf ?_ | refine GrdK.ft ?_ | refine PickK.t ?_ | refine PickK.f ?_); (conv => whnf))
    have hx : List.replicate 2048 (Value.int .u16 0) = (([] : List Nat) ++ List.replicate (2048 - ([] : List Nat).length) 0).map vU16 := by rw [List.nil_append, List.map_replicate]; rfl
    rw [hx]
    exact ⟨_, HSub.of [0, 0] rfl, b2, b1, _, rfl, rfl, rfl, rfl, rfl⟩
  refine EffK.copyOwn (news := ts.map vU16) 1 n rfl ⟨b1, rfl⟩ (o := 0) rfl rfl rfl rfl (by omega) (by omega) (Src.rd hp) (by intro u hu; obtain ⟨z, _, rfl⟩ := List.mem_map.1 hu; rfl) (by simp; omega) ?_
  (conv => whnf); repeat ((first | refine RngK.mk (by omega) (by omega) ?_ | refine NzK.mk (by omega) ?_ | refine NnK.mk (by omega) ?_ | refine BdK.mk (by omega) (by omega) (by omega) ?_ | refine InsK.lit (by omega) (by omega) ?_ | refine SpK.lit ?_ | refine GrdK.same ?_ | refine GrdK.tf ?_ | refine GrdK.ft ?_ | refine PickK.t ?_ | refine PickK.f ?_); (conv => whnf))
  have hx : (List.replicate 2048 (Value.int .u16 0)).take 0 ++ ts.map vU16 ++ (List.replicate 2048 (Value.int .u16 0)).drop (0 + n) = (ts ++ List.replicate (2048 - ts.length) 0).map vU16 := by
    rw [List.take_zero, List.nil_append, List.drop_replicate, List.map_append, List.map_replicate, Nat.zero_add, hl]
    rfl
  rw [hx]
  exact ⟨_, HSub.of [0, 0] rfl, b2, b1, _, rfl, rfl, rfl, rfl, rfl⟩
end Go.Proofs.YtgdhdkjbilifiaaDoor
namespace Go.Proofs.YtgdhdkjbilifiaaDoor
open Go Go.Sx
set_option maxRecDepth 100000
set_option maxHeartbeats 1000000 in
theorem readLitRaw_spec (r : Nat) (A : Option Addr) (n c : Nat) (bs : List UInt8) (e u : Addr) (off : Nat) (hn : n ≤ 16777216) (ho : off < bs.length) (h1 : bs[off].toNat % 4 ≤ 1) :
    FnS Tryd.prog 58 [.pointer (some ⟨r, 0, none⟩), .slice A n c, vN off, .slice none 0 0] [] (fun w => BrPre w (blocks []) r A n c bs e u)
      (fun v H => match rawM bs (off + 1) bs[off].toNat with
        | .right l p => ∃ A1 c1, v = .tuple #[vN p, .slice A1 l.length c1, .nilIface] ∧ H = [.own A1 l.length c1 5 1 (l.map vU8)]
        | _ => ∃ T' x, v = .tuple #[vI 0, .slice none 0 0, .iface T' x] ∧ H = []) := by
  refine FnS.introD Tryd.func58 rfl (by kernel_rfl) rfl fun w hH hp => ?_
  obtain rfl : bs.length = n := hp.by_.len
  have hrf := readRaw_spec r A bs.length c bs e u (off + 1) bs[off] hn (by omega)
  have hq := bs[off].toNat_lt
  obtain ⟨R, hR⟩ : ∃ R, rawM bs (off + 1) bs[off].toNat = R := ⟨_, rfl⟩
  rw [hR] at hrf ⊢
  have e3 : iand .u8 (bs[off].toNat : Int) 3 = ((bs[off].toNat % 4 : Nat) : Int) := by
    have := iand_u (k := .u8) rfl (x := bs[off].toNat) (y := 3) hq (by decide)
    rw [show (3 : Nat) = 2 ^ 2 - 1 by rfl, Nat.and_two_pow_sub_one_eq_mod] at this
    exact this
  (conv => whnf); repeat ((first | refine RngK.mk (by omega) (by omega) ?_ | refine NzK.mk (by omega) ?_ | refine NnK.mk (by omega) ?_ | refine BdK.mk (by omega) (by omega) (by omega) ?_ | refine InsK.lit (by omega) (by omega) ?_ | refine SpK.lit ?_ | refine GrdK.same ?_ | refine GrdK.tf ?_ | refine GrdK.ft ?_ | refine PickK.t ?_ | refine PickK.f ?_); (conv => whnf))
  refine Wp.cond rfl (fun g => ?_) (fun _ => ?_)
  · have g := dT g
    omega
  (conv => whnf); repeat ((first | refine RngK.mk (by omega) (by omega) ?_ | refine NzK.mk (by omega) ?_ | refine NnK.mk (by omega) ?_ | refine BdK.mk (by omega) (by omega) (by omega) ?_ | refine InsK.lit (by omega) (by omega) ?_ | refine SpK.lit ?_ | refine GrdK.same ?_ | refine GrdK.tf ?_ | refine GrdK.ft ?_ | refine PickK.t ?_ | refine PickK.f ?_); (conv => whnf))
  refine InsK.rd hp.by_.rd (by omega) (by omega) ?_
  (conv => whnf); repeat ((first | refine RngK.mk (by omega) (by omega) ?_ | refine NzK.mk (by omega) ?_ | refine NnK.mk (by omega) ?_ | refine BdK.mk (by omega) (by omega) (by omega) ?_ | refine InsK.lit (by omega) (by omega) ?_ | refine SpK.lit ?_ | refine GrdK.same ?_ | refine GrdK.tf ?_ | refine GrdK.ft ?_ | refine PickK.t ?_ | refine PickK.f ?_); (conv => whnf))
  refine LdK.rd (v := vU8 bs[off]) hp.by_.rd off rfl rfl rfl (by simp [ho]) ?_
  (conv => whnf); repeat ((first | refine RngK.mk (by omega) (by omega) ?_ | refine NzK.mk (by omega) ?_ | refine NnK.mk (by omega) ?_ | refine BdK.mk (by omega) (by omega) (by omega) ?_ | refine InsK.lit (by omega) (by omega) ?_ | refine SpK.lit ?_ | refine GrdK.same ?_ | refine GrdK.tf ?_ | refine GrdK.ft ?_ | refine PickK.t ?_ | refine PickK.f ?_); (conv => whnf))
  rw [e3]
  rcases (show bs[off].toNat % 4 = 0 ∨ bs[off].toNat % 4 = 1 by omega) with hz | hz
  · rw [hz]
    (conv => whnf); repeat ((first | refine RngK.mk (by omega) (by omega) ?_ | refine NzK.mk (by omega) ?_ | refine NnK.mk (by omega) ?_ | refine BdK.mk (by omega) (by omega) (by omega) ?_ | refine InsK.lit (by omega) (by omega) ?_ | refine SpK.lit ?_ | refine GrdK.same ?_ | refine GrdK.tf ?_ | refine GrdK.ft ?_ | refine PickK.t ?_ | refine PickK.f ?_); (conv => whnf))
    refine Wp.cond rfl (fun _ => ?_) (fun h => by cases h)
    (conv => whnf); repeat ((first | refine RngK.mk (by omega) (by omega) ?_ | refine NzK.mk (by omega) ?_ | refine NnK.mk (by omega) ?_ | refine BdK.mk (by omega) (by omega) (by omega) ?_ | refine InsK.lit (by omega) (by omega) ?_ | refine SpK.lit ?_ | refine GrdK.same ?_ | refine GrdK.tf ?_ | refine GrdK.ft ?_ | refine PickK.t ?_ | refine PickK.f ?_); (conv => whnf))
    refine CallK.of [] hrf rfl (fun w hw => hp.pass hw) ?_
    cases hRR : R with
    | right l p =>
      rintro _ _ ⟨A1, c1, rfl, rfl⟩
      (conv => whnf); repeat ((first | refine RngK.mk (by omega) (by omega) ?_ | refine NzK.mk (by omega) ?_ | refine NnK.mk (by omega) ?_ | refine BdK.mk (by omega) (by omega) (by omega) ?_ | refine InsK.lit (by omega) (by omega) ?_ | refine SpK.lit ?_ | refine GrdK.same ?_ | refine GrdK.tf ?_ | refine GrdK.ft ?_ | refine PickK.t ?_ | refine PickK.f ?_); (conv => whnf))
      exact ⟨_, HSub.of [0] rfl, A1, c1, rfl, rfl⟩
    | wrong =>
      rintro _ _ ⟨T', x, rfl, rfl⟩
      (conv => whnf); repeat ((first | refine RngK.mk (by omega) (by omega) ?_ | refine NzK.mk (by omega) ?_ | refine NnK.mk (by omega) ?_ | refine BdK.mk (by omega) (by omega) (by omega) ?_ | refine InsK.lit (by omega) (by omega) ?_ | refine SpK.lit ?_ | refine GrdK.same ?_ | refine GrdK.tf ?_ | refine GrdK.ft ?_ | refine PickK.t ?_ | refine PickK.f ?_); (conv => whnf))
      exact ⟨_, HSub.nil _, T', x, rfl, rfl⟩
    | unsaid =>
      rintro _ _ ⟨T', x, rfl, rfl⟩
      (conv => whnf); repeat ((first | refine RngK.mk (by omega) (by omega) ?_ | refine NzK.mk (by omega) ?_ | refine NnK.mk (by omega) ?_ | refine BdK.mk (by omega) (by omega) (by omega) ?_ | refine InsK.lit (by omega) (by omega) ?_ | refine SpK.lit ?_ | refine GrdK.same ?_ | refine GrdK.tf ?_ | refine GrdK.ft ?_ | refine PickK.t ?_ | refine PickK.f ?_); (conv => whnf))
      exact ⟨_, HSub.nil _, T', x, rfl, rfl⟩
  · rw [hz]
    (conv => whnf); repeat ((first | refine RngK.mk (by omega) (by omega) ?_ | refine NzK.mk (by omega) ?_ | refine NnK.mk (by omega) ?_ | refine BdK.mk (by omega) (by omega) (by omega) ?_ | refine InsK.lit (by omega) (by omega) ?_ | refine SpK.lit ?_ | refine GrdK.same ?_ | refine GrdK.tf ?_ | refine GrdK.ft ?_ | refine PickK.t ?_ | refine PickK.f ?_); (conv => whnf))
    rw [e3, hz]
    (conv => whnf); repeat ((first | refine RngK.mk (by omega) (by omega) ?_ | refine NzK.mk (by omega) ?_ | refine NnK.mk (by omega) ?_ | refine BdK.mk (by omega) (by omega) (by omega) ?_ | refine InsK.lit (by omega) (by omega) ?_ | refine SpK.lit ?_ | refine GrdK.same ?_ | refine GrdK.tf ?_ | refine GrdK.ft ?_ | refine PickK.t ?_ | refine PickK.f ?_); (conv => whnf))
    refine Wp.cond rfl (fun _ => ?_) (fun h => by cases h)
    (conv => whnf); repeat ((first | refine RngK.mk (by omega) (by omega) ?_ | refine NzK.mk (by omega) ?_ | refine NnK.mk (by omega) ?_ | refine BdK.mk (by omega) (by omega) (by omega) ?_ | refine InsK.lit (by omega) (by omega) ?_ | refine SpK.lit ?_ | refine GrdK.same ?_ | refine GrdK.tf ?_ | refine GrdK.ft ?_ | refine PickK.t ?_ | refine PickK.f ?_); (conv => whnf))
    refine CallK.of [] hrf rfl (fun w hw => hp.pass hw) ?_
    cases hRR : R with
    | right l p =>
      rintro _ _ ⟨A1, c1, rfl, rfl⟩
      (conv => whnf); repeat ((first | refine RngK.mk (by omega) (by omega) ?_ | refine NzK.mk (by omega) ?_ | refine NnK.mk (by omega) ?_ | refine BdK.mk (by omega) (by omega) (by omega) ?_ | refine InsK.lit (by omega) (by omega) ?_ | refine SpK.lit ?_ | refine GrdK.same ?_ | refine GrdK.tf ?_ | refine GrdK.ft ?_ | refine PickK.t ?_ | refine PickK.f ?_); (conv => whnf))
      exact ⟨_, HSub.of [0] rfl, A1, c1, rfl, rfl⟩
    | wrong =>
      rintro _ _ ⟨T', x, rfl, rfl⟩
      (conv => whnf); repeat ((first | refine RngK.mk (by omega) (by omega) ?_ | refine NzK.mk (by omega) ?_ | refine NnK.mk (by omega) ?_ | refine BdK.mk (by omega) (by omega) (by omega) ?_ | refine InsK.lit (by omega) (by omega) ?_ | refine SpK.lit ?_ | refine GrdK.same ?_ | refine GrdK.tf ?_ | refine GrdK.ft ?_ | refine PickK.t ?_ | refine PickK.f ?_); (conv => whnf))
      exact ⟨_, HSub.nil _, T', x, rfl, rfl⟩
    | unsaid =>
      rintro _ _ ⟨T', x, rfl, rfl⟩
      (conv => whnf); repeat ((first | refine RngK.mk (by omega) (by omega) ?_ | refine NzK.mk (by omega) ?_ | refine NnK.mk (by omega) ?_ | refine BdK.mk (by omega) (by omega) (by omega) ?_ | refine InsK.lit (by omega) (by omega) ?_ | refine SpK.lit ?_ | refine GrdK.same ?_ | refine GrdK.tf ?_ | refine GrdK.ft ?_ | refine PickK.t ?_ | refine PickK.f ?_); (conv => whnf))
      exact ⟨_, HSub.nil _, T', x, rfl, rfl⟩
set_option maxHeartbeats 1000000 in
theorem zzlitRaw_spec (A : Option Addr) (n c : Nat) (bs : List UInt8) (e u : Addr) (off : Nat) (B : Option Addr) (kc : Nat) (hn : n ≤ 16777216) (ho : off < bs.length) (h1 : bs[off].toNat % 4 ≤ 1) :
    FnS Tryd.prog 49 [.slice A n c, vN off, .slice B 0 kc, vN 0] [] (fun w => (Bytes w (blocks []) A n c bs ∧ Laid w (blocks []) e u) ∧ Rd w (blocks []) B 0 1 [])
      (fun v H => match rawM bs (off + 1) bs[off].toNat with
        | .right l p => ∃ A1 c1, v = .tuple #[.slice A1 l.length c1, vN p, .nilIface] ∧ H = [.own A1 l.length c1 5 1 (l.map vU8)]
        | _ => ∃ T' x, v = .tuple #[.slice none 0 0, vI 0, .iface T' x] ∧ H = []) := by
  refine FnS.introD Tryd.func49 rfl (by kernel_rfl) rfl fun w hH ⟨⟨hp, hL⟩, hB⟩ => ?_
  have hrf := fun r => readLitRaw_spec r A n c bs e u off hn ho h1
  obtain ⟨R, hR⟩ : ∃ R, rawM bs (off + 1) bs[off].toNat = R := ⟨_, rfl⟩
  rw [hR] at hrf ⊢
  (conv => whnf); repeat ((first | refine RngK.mk (by omega) (by omega) ?_ | refine NzK.mk (by omega) ?_ | refine NnK.mk (by omega) ?_ | refine BdK.mk (by omega) (by omega) (by omega) ?_ | refine InsK.lit (by omega) (by omega) ?_ | refine SpK.lit ?_ | refine GrdK.same ?_ | refine GrdK.tf ?_ | refine GrdK.ft ?_ | refine PickK.t ?_ | refine PickK.f ?_); (conv => whnf))
  refine CallK.of [] (zzReader_spec B 0 kc [] 0 rfl (by omega)) rfl (fun w hw => hB.pass hw) ?_
  rintro _ _ ⟨rb, tb, cs, rfl, rfl, h6, h12, h13⟩
  (conv => whnf); repeat ((first | refine RngK.mk (by omega) (by omega) ?_ | refine NzK.mk (by omega) ?_ | refine NnK.mk (by omega) ?_ | refine BdK.mk (by omega) (by omega) (by omega) ?_ | refine InsK.lit (by omega) (by omega) ?_ | refine SpK.lit ?_ | refine GrdK.same ?_ | refine GrdK.tf ?_ | refine GrdK.ft ?_ | refine PickK.t ?_ | refine PickK.f ?_); (conv => whnf))
  refine CallK.of [] (hrf rb) rfl (fun w hw => ⟨hp.pass hw, hL.pass hw, ?_⟩) ?_
  · obtain ⟨hl6, he6⟩ := List.getElem?_eq_some_iff.1 h6
    have h := Rd.ofBlk (o := 6) (m := 1) (sz := 1) hw 0 rfl (by omega)
    rw [List.drop_eq_getElem_cons hl6, he6] at h
    exact h
  cases hRR : R with
  | right l p =>
    rintro _ _ ⟨A1, c1, rfl, rfl⟩
    (conv => whnf); repeat ((first | refine RngK.mk (by omega) (by omega) ?_ | refine NzK.mk (by omega) ?_ | refine NnK.mk (by omega) ?_ | refine BdK.mk (by omega) (by omega) (by omega) ?_ | refine InsK.lit (by omega) (by omega) ?_ | refine SpK.lit ?_ | refine GrdK.same ?_ | refine GrdK.tf ?_ | refine GrdK.ft ?_ | refine PickK.t ?_ | refine PickK.f ?_); (conv => whnf))
    exact ⟨_, HSub.of [0] rfl, A1, c1, rfl, rfl⟩
  | wrong =>
    rintro _ _ ⟨T', x, rfl, rfl⟩
    (conv => whnf); repeat ((first | refine RngK.mk (by omega) (by omega) ?_ | refine NzK.mk (by omega) ?_ | refine NnK.mk (by omega) ?_ | refine BdK.mk (by omega) (by omega) (by omega) ?_ | refine InsK.lit (by omega) (by omega) ?_ | refine SpK.lit ?_ | refine GrdK.same ?_ | refine GrdK.tf ?_ | refine GrdK.ft ?_ | refine PickK.t ?_ | refine PickK.f ?_); (conv => whnf))
    exact ⟨_, HSub.nil _, T', x, rfl, rfl⟩
  | unsaid =>
    rintro _ _ ⟨T', x, rfl, rfl⟩
    (conv => whnf); repeat ((first | refine RngK.mk (by omega) (by omega) ?_ | refine NzK.mk (by omega) ?_ | refine NnK.mk (by omega) ?_ | refine BdK.mk (by omega) (by omega) (by omega) ?_ | refine InsK.lit (by omega) (by omega) ?_ | refine SpK.lit ?_ | refine GrdK.same ?_ | refine GrdK.tf ?_ | refine GrdK.ft ?_ | refine PickK.t ?_ | refine PickK.f ?_); (conv => whnf))
    exact ⟨_, HSub.nil _, T', x, rfl, rfl⟩
end Go.Proofs.YtgdhdkjbilifiaaDoor
