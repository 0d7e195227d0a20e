/- readHuff: weights of four bits each. -/
import Derived.Test.YtgdhdkjbilifiaaDoorCdL
import Derived.Test.YtgdhdkjbilifiaaDoorCdM
import Derived.Test.YtgdhdkjbilifiaaDoorBb0
import Derived.Test.YtgdhdkjbilifiaaDoorEq
import Derived.Test.YtgdhdkjbilifiaaDoorOwn
import Derived.Test.YtgdhdkjbilifiaaDoorSdA
namespace Go.Proofs.YtgdhdkjbilifiaaDoor
open Go Go.Sx
set_option maxRecDepth 100000
/-- the weights of so many symbols, four bits each -/
def nibs (bs : List UInt8) (at_ : Nat) (m : Nat) : List Nat := (List.range m).map fun k => if k % 2 = 0 then (bs.getD (at_ + k / 2) 0).toNat / 16 else (bs.getD (at_ + k / 2) 0).toNat % 16
abbrev vW8 (n : Nat) : Value := .int .u8 n
abbrev vW32 (n : Nat) : Value := .int .u32 n
abbrev tabU (T : Option Addr) (m mc : Nat) (xs : List Nat) : Hp := [.own T m mc 109 1 (xs.map vU16)]
/-- what is read from a table -/
def HuffOut (T : Option Addr) (m mc p : Nat) (R : Option (List (Nat × Nat) × Nat)) (v : Value) (H : Hp) : Prop :=
  match R with
  | none => ∃ ys T' x, H = tabU T m mc ys ∧ v = .tuple #[vI 0, vI 0, .iface T' x]
  | some (l, b) => ∃ ys, ys.length = m ∧ ys.take (2 ^ b) = l.map pk ∧ H = tabU T m mc ys ∧ v = .tuple #[vN b, vN p, .nilIface]
theorem nibs_len (bs : List UInt8) (a m : Nat) : (nibs bs a m).length = m := by simp [nibs]
theorem nibs_lt (bs : List UInt8) (a m : Nat) : ∀ w ∈ nibs bs a m, w < 16 := by
  intro w hw
  simp only [nibs, List.mem_map] at hw
  obtain ⟨k, _, rfl⟩ := hw
  split
  · have := (bs.getD (a + k / 2) 0).toNat_lt
    omega
  · omega
theorem nibs_two (bs : List UInt8) (a j : Nat) : nibs bs a (2 * (j + 1)) = (nibs bs a (2 * j) ++ [(bs.getD (a + j) 0).toNat / 16]) ++ [(bs.getD (a + j) 0).toNat % 16] := by
  have h1 : (2 * j) % 2 = 0 := by omega
  have h2 : (2 * j + 1) % 2 = 1 := by omega
  have h3 : (2 * j) / 2 = j := by omega
  have h4 : (2 * j + 1) / 2 = j := by omega
  rw [show 2 * (j + 1) = 2 * j + 1 + 1 by omega]
  simp [nibs, List.range_succ, h1, h2, h3, h4]
theorem nibs_take (bs : List UInt8) (a : Nat) {m k : Nat} (h : m ≤ k) : (nibs bs a k).take m = nibs bs a m := by
  unfold nibs
  rw [← List.map_take, List.take_range, Nat.min_eq_left h]
def padW (l : List Nat) : List Nat := l ++ List.replicate (256 - l.length) 0
theorem padW_len {l : List Nat} (h : l.length ≤ 256) : (padW l).length = 256 := by simp [padW]; omega
theorem padW_set {l : List Nat} {k : Nat} (hk : k = l.length) (h : l.length < 256) (x : Nat) : (padW l).set k x = padW (l ++ [x]) := by
  subst hk
  unfold padW
  obtain ⟨d, hd⟩ : ∃ d, 256 - l.length = d + 1 := ⟨255 - l.length, by omega⟩
  rw [hd, List.set_append_right _ _ (Nat.le_refl _), Nat.sub_self, List.replicate_succ, List.set_cons_zero, List.append_assoc]
  have : 256 - (l ++ [x]).length = d := by simp; omega
  rw [this]
  rfl
theorem padW_take {l : List Nat} {m : Nat} (h : m ≤ l.length) : (padW l).take m = l.take m := by
  unfold padW
  rw [List.take_append_of_le_length h]
theorem hufS_none {ws : List Nat} (h : ¬ ((∀ w ∈ ws, w ≤ 11) ∧ wsum ws ≠ 0 ∧ wd (wsum ws) ≤ 11 ∧ 2 ^ wd (wsum ws) - wsum ws = 2 ^ (wd (2 ^ wd (wsum ws) - wsum ws) - 1))) : hufS ws = none := by
  unfold hufS wholeN
  rw [if_neg h]
theorem cnt_set (l : List Nat) {k x c : Nat} (hk : k = x) (hc : l.count x = c) : (rg fun w => l.count w).set k (c + 1) = rg fun w => (l ++ [x]).count w := by
  subst hk
  rw [rg_set]
  congr 1
  funext w
  rw [List.count_append, List.count_singleton]
  by_cases h : w = k
  · subst h; rw [if_pos rfl, ← hc]; simp
  · have : (k == w) = false := by simpa using fun g => h g.symm
    rw [if_neg h, this]; simp
theorem map_set' {f : Nat → Value} {l : List Nat} {k x : Nat} {r : List Nat} (h : l.set k x = r) : (l.map f).set k (f x) = r.map f := by rw [← h, List.map_set]
def markB (all : List Nat) (i w : Nat) : Nat := if 1 ≤ w ∧ w ≤ i then baseC all (w - 1) else all.count w
theorem markB_zero (all : List Nat) : (rg fun w => all.count w) = rg (markB all 0) := by
  congr 1
  funext w
  unfold markB
  rw [if_neg (by omega)]
theorem markB_next (all : List Nat) {i k : Nat} (hk : k = i + 1) : (rg (markB all i)).set k (baseC all i) = rg (markB all (i + 1)) := by
  subst hk
  rw [rg_set]
  congr 1
  funext w
  unfold markB
  by_cases h : w = i + 1
  · subst h; rw [if_pos rfl, if_pos (by omega), Nat.add_sub_cancel]
  · rw [if_neg h]
    by_cases h2 : 1 ≤ w ∧ w ≤ i
    · rw [if_pos h2, if_pos (by omega)]
    · rw [if_neg h2, if_neg (by omega)]
def markC (all : List Nat) (b i w : Nat) : Nat := if 1 ≤ w ∧ w ≤ b then baseC all (w - 1) + (segC b w 0 (all.take i)).length else all.count w
theorem markC_zero (all : List Nat) (b : Nat) : rg (markB all b) = rg (markC all b 0) := by
  congr 1
theorem markC_skip {all : List Nat} {b i : Nat} (hi : i < all.length) (h0 : all[i] = 0) : rg (markC all b i) = rg (markC all b (i + 1)) := by
  congr 1
  funext w
  unfold markC
  by_cases h : 1 ≤ w ∧ w ≤ b
  · obtain ⟨k, rfl⟩ : ∃ k, w = k + 1 := ⟨w - 1, by omega⟩
    rw [if_pos h, if_pos h, seg_next hi k, if_neg (by omega), List.append_nil]
  · rw [if_neg h, if_neg h]
theorem markC_at {all : List Nat} {b i k : Nat} (hk : k < b) : markC all b i (k + 1) = baseC all k + (segC b (k + 1) 0 (all.take i)).length := by
  unfold markC
  rw [if_pos (by omega), Nat.add_sub_cancel]
theorem markC_next {all : List Nat} {b i k p s : Nat} (hi : i < all.length) (hw : all[i] = k + 1) (hk : k < b) (hp : p = k + 1) (hs : baseC all k + (segC b (k + 1) 0 (all.take i)).length = s) :
    (rg (markC all b i)).set p (s + 2 ^ k) = rg (markC all b (i + 1)) := by
  subst hp hs
  rw [rg_set]
  congr 1
  funext w
  by_cases h : w = k + 1
  · subst h
    rw [if_pos rfl, markC_at hk, seg_next hi k, if_pos hw, List.length_append, List.length_replicate]
    omega
  · rw [if_neg h]
    unfold markC
    by_cases h2 : 1 ≤ w ∧ w ≤ b
    · obtain ⟨k2, rfl⟩ : ∃ k2, w = k2 + 1 := ⟨w - 1, by omega⟩
      rw [if_pos h2, if_pos h2, seg_next hi k2, if_neg (by omega), List.append_nil]
    · rw [if_neg h2, if_neg h2]
theorem e38 {i b k : Nat} (hi : i < 256) (hb : b ≤ 11) (hk : k < b) :
    ior .u16 (ishl .u16 (IntKind.u16.wrap (i : Int)) 8) (IntKind.u16.wrap (IntKind.u16.wrap (IntKind.u16.wrap (b : Int) + 1) - IntKind.u16.wrap ((k + 1 : Nat) : Int))) = ((pk (i, b - k) : Nat) : Int) := by
  have h1 : IntKind.u16.wrap (i : Int) = (i : Int) := wrap_u_lt rfl (by show _ < 65536; omega)
  have h2 : IntKind.u16.wrap (b : Int) = (b : Int) := wrap_u_lt rfl (by show _ < 65536; omega)
  have h3 : IntKind.u16.wrap ((k + 1 : Nat) : Int) = ((k + 1 : Nat) : Int) := wrap_u_lt rfl (by show _ < 65536; omega)
  have h4 : IntKind.u16.wrap ((b : Int) + 1) = ((b + 1 : Nat) : Int) := wrap_u_lt (n := b + 1) rfl (by show _ < 65536; omega)
  have h5 : ((b + 1 : Nat) : Int) - ((k + 1 : Nat) : Int) = ((b - k : Nat) : Int) := by omega
  have h6 : IntKind.u16.wrap ((b - k : Nat) : Int) = ((b - k : Nat) : Int) := wrap_u_lt rfl (by show _ < 65536; omega)
  have h7 : ishl .u16 (i : Int) 8 = ((i * 256 : Nat) : Int) := by
    have := ishl_u (k := .u16) rfl i (n := 8) (by decide)
    rw [Nat.mod_eq_of_lt (by show i * 2 ^ 8 < 65536; omega)] at this
    exact this
  rw [h1, h2, h3, h4, h5, h6, h7, ior_u rfl (by show _ < 65536; omega) (by show _ < 65536; omega), Nat.or_comm]
  have h8 := or_add (x := b - k) (y := i) (i := 8) (by omega)
  unfold pk
  rw [show i * 256 = i * 2 ^ 8 by rfl, h8]
  simp only
  omega
theorem le11 {ws : List Nat} (h : wd (wsum ws) ≤ 11) : ∀ w ∈ ws, w ≤ 11 := by
  intro w hw
  have h1 := wsum_mem hw
  have h2 := lt_wd (wsum ws)
  have h3 : 2 ^ wd (wsum ws) ≤ 2 ^ 11 := Nat.pow_le_pow_right (by omega) h
  unfold wt at h1
  split at h1
  · omega
  · apply Decidable.byContradiction
    intro hn
    have : 2 ^ 11 ≤ 2 ^ (w - 1) := Nat.pow_le_pow_right (by omega) (by omega)
    omega
set_option maxHeartbeats 4000000 in
theorem readHuffD_spec (r : Nat) (A : Option Addr) (n c : Nat) (bs : List UInt8) (e u : Addr) (off : Nat) (T : Option Addr) (m mc : Nat) (xs : List Nat) (hn : n ≤ 16777216) (ho : off < bs.length) (hd : 128 ≤ bs[off].toNat) (hx : xs.length = m) (hm : 2048 ≤ m) (hmm : m ≤ 1000000) :
    FnS Tryd.prog 53 [.pointer (some ⟨r, 0, none⟩), .slice A n c, vN off, .slice T m mc] (tabU T m mc xs)
      (fun w => BrPre w (blocks (tabU T m mc xs)) r A n c bs e u)
      (HuffOut T m mc (off + 1 + (bs[off].toNat - 126) / 2) (if off + 1 + (bs[off].toNat - 126) / 2 < bs.length then hufS (nibs bs (off + 1) (bs[off].toNat - 127)) else none)) := by
  refine FnS.introD Tryd.func53 rfl (by kernel_rfl) rfl fun w hH hp => ?_
  obtain rfl : bs.length = n := hp.by_.len
  have hT : OwnA T m mc := OwnA.of (hH.ok _ List.mem_cons_self)
  generalize hW : blocks (tabU T m mc xs) = W at hp ⊢
  (conv => whnf); repeat ((first | refine RngK.mk (by omega) (by omega) ?_ | refine NzK.mk (by omega) ?_ | refine NnK.mk (by omega) ?_ | refine BdK.mk (by omega) (by omega) (by omega) ?_ | refine InsK.lit (by omega) (by omega) ?_ | refine SpK.lit ?_ | refine GrdK.same ?_ | refine GrdK.tf ?_ | refine GrdK.ft ?_ | refine PickK.t ?_ | refine PickK.f ?_); (conv => whnf))
  refine Wp.cond rfl (fun h => ?_) (fun _ => ?_)
  · have h := dT h
    omega
  (conv => whnf); repeat ((first | refine RngK.mk (by omega) (by omega) ?_ | refine NzK.mk (by omega) ?_ | refine NnK.mk (by omega) ?_ | refine BdK.mk (by omega) (by omega) (by omega) ?_ | refine InsK.lit (by omega) (by omega) ?_ | refine SpK.lit ?_ | refine GrdK.same ?_ | refine GrdK.tf ?_ | refine GrdK.ft ?_ | refine PickK.t ?_ | refine PickK.f ?_); (conv => whnf))
  refine InsK.rd hp.by_.rd (by omega) (by omega) ?_
  (conv => whnf); repeat ((first | refine RngK.mk (by omega) (by omega) ?_ | refine NzK.mk (by omega) ?_ | refine NnK.mk (by omega) ?_ | refine BdK.mk (by omega) (by omega) (by omega) ?_ | refine InsK.lit (by omega) (by omega) ?_ | refine SpK.lit ?_ | refine GrdK.same ?_ | refine GrdK.tf ?_ | refine GrdK.ft ?_ | refine PickK.t ?_ | refine PickK.f ?_); (conv => whnf))
  refine LdK.rd (v := vU8 bs[off]) hp.by_.rd off rfl rfl rfl (by simp [ho]) ?_
  (conv => whnf); repeat ((first | refine RngK.mk (by omega) (by omega) ?_ | refine NzK.mk (by omega) ?_ | refine NnK.mk (by omega) ?_ | refine BdK.mk (by omega) (by omega) (by omega) ?_ | refine InsK.lit (by omega) (by omega) ?_ | refine SpK.lit ?_ | refine GrdK.same ?_ | refine GrdK.tf ?_ | refine GrdK.ft ?_ | refine PickK.t ?_ | refine PickK.f ?_); (conv => whnf))
  refine NewK.rep (List.replicate 256 (vW8 0)) rfl rfl (by kernel_rfl) ?_
  intro nb
  (conv => whnf); repeat ((first | refine RngK.mk (by omega) (by omega) ?_ | refine NzK.mk (by omega) ?_ | refine NnK.mk (by omega) ?_ | refine BdK.mk (by omega) (by omega) (by omega) ?_ | refine InsK.lit (by omega) (by omega) ?_ | refine SpK.lit ?_ | refine GrdK.same ?_ | refine GrdK.tf ?_ | refine GrdK.ft ?_ | refine PickK.t ?_ | refine PickK.f ?_); (conv => whnf))
  obtain ⟨q, hq⟩ : ∃ q, bs[off].toNat = q := ⟨_, rfl⟩
  have hq2 := bs[off].toNat_lt
  rw [hq] at hd hq2 ⊢
  refine Wp.cond rfl (fun h => ?_) (fun _ => ?_)
  · have h := dT h
    omega
  (conv => whnf); repeat ((first | refine RngK.mk (by omega) (by omega) ?_ | refine NzK.mk (by omega) ?_ | refine NnK.mk (by omega) ?_ | refine BdK.mk (by omega) (by omega) (by omega) ?_ | refine InsK.lit (by omega) (by omega) ?_ | refine SpK.lit ?_ | refine GrdK.same ?_ | refine GrdK.tf ?_ | refine GrdK.ft ?_ | refine PickK.t ?_ | refine PickK.f ?_); (conv => whnf))
  have eq126 : ((q : Int) - 127 + 1).tdiv 2 = (((q - 126) / 2 : Nat) : Int) := by
    rw [Int.tdiv_eq_ediv_of_nonneg (by omega)]
    omega
  rw [hq, eq126]
  refine RngK.mk (by omega) (by omega) ?_
  (conv => whnf); repeat ((first | refine RngK.mk (by omega) (by omega) ?_ | refine NzK.mk (by omega) ?_ | refine NnK.mk (by omega) ?_ | refine BdK.mk (by omega) (by omega) (by omega) ?_ | refine InsK.lit (by omega) (by omega) ?_ | refine SpK.lit ?_ | refine GrdK.same ?_ | refine GrdK.tf ?_ | refine GrdK.ft ?_ | refine PickK.t ?_ | refine PickK.f ?_); (conv => whnf))
  obtain ⟨hf, hhf⟩ : ∃ hf, (q - 126) / 2 = hf := ⟨_, rfl⟩
  rw [hhf]
  refine Wp.cond rfl (fun h => ?_) (fun h => ?_)
  · have h := dT h
    rw [if_neg (by omega)]
    (conv => whnf); repeat ((first | refine RngK.mk (by omega) (by omega) ?_ | refine NzK.mk (by omega) ?_ | refine NnK.mk (by omega) ?_ | refine BdK.mk (by omega) (by omega) (by omega) ?_ | refine InsK.lit (by omega) (by omega) ?_ | refine SpK.lit ?_ | refine GrdK.same ?_ | refine GrdK.tf ?_ | refine GrdK.ft ?_ | refine PickK.t ?_ | refine PickK.f ?_); (conv => whnf))
    refine DrwK.ord (by kernel_rfl) [0, 1, 2, 3] (by kernel_rfl) ?_; conv => whnf
    (conv => whnf); repeat ((first | refine RngK.mk (by omega) (by omega) ?_ | refine NzK.mk (by omega) ?_ | refine NnK.mk (by omega) ?_ | refine BdK.mk (by omega) (by omega) (by omega) ?_ | refine InsK.lit (by omega) (by omega) ?_ | refine SpK.lit ?_ | refine GrdK.same ?_ | refine GrdK.tf ?_ | refine GrdK.ft ?_ | refine PickK.t ?_ | refine PickK.f ?_); (conv => whnf))
    refine LdK.rd hp.la.gu 0 rfl rfl rfl rfl ?_
    (conv => whnf); repeat ((first | refine RngK.mk (by omega) (by omega) ?_ | refine NzK.mk (by omega) ?_ | refine NnK.mk (by omega) ?_ | refine BdK.mk (by omega) (by omega) (by omega) ?_ | refine InsK.lit (by omega) (by omega) ?_ | refine SpK.lit ?_ | refine GrdK.same ?_ | refine GrdK.tf ?_ | refine GrdK.ft ?_ | refine PickK.t ?_ | refine PickK.f ?_); (conv => whnf))
    exact ⟨_, HSub.of [1] rfl, xs, _, _, rfl, rfl⟩
  have h' := dF h
  clear h
  rw [if_pos (by omega)]
  (conv => whnf); repeat ((first | refine RngK.mk (by omega) (by omega) ?_ | refine NzK.mk (by omega) ?_ | refine NnK.mk (by omega) ?_ | refine BdK.mk (by omega) (by omega) (by omega) ?_ | refine InsK.lit (by omega) (by omega) ?_ | refine SpK.lit ?_ | refine GrdK.same ?_ | refine GrdK.tf ?_ | refine GrdK.ft ?_ | refine PickK.t ?_ | refine PickK.f ?_); (conv => whnf))
  have hnl : ∀ k, (nibs bs (off + 1) k).length = k := nibs_len bs (off + 1)
  refine Wp.cutEx 2 (fun _ : Unit => [(0, .pointer (some ⟨r, 0, none⟩)), (2, vN (off + 1 + hf)), (3, .slice T m mc), (12, .pointer (some ⟨nb, 0, none⟩)), (13, vN (q - 127))])
    (fun _ => [.blk nb 122 ((padW (nibs bs (off + 1) (2 * hf))).map vW8), .own T m mc 109 1 (xs.map vU16)]) (fun _ => True) ?_ fun _ _ => ?_
  · refine Wp.loop (fun j : Nat => [(0, .pointer (some ⟨r, 0, none⟩)), (1, .slice A bs.length c), (2, vN (off + 1 + j)), (3, .slice T m mc), (12, .pointer (some ⟨nb, 0, none⟩)), (13, vN (q - 127)), (24, vN (2 * j))])
      (fun j => [.blk nb 122 ((padW (nibs bs (off + 1) (2 * j))).map vW8), .own T m mc 109 1 (xs.map vU16)]) (fun j => j ≤ hf) (fun j => hf - j) 0
      ⟨rfl, rfl, rfl, rfl, rfl, by show some (vI _) = some (vN _); congr 2; omega, rfl, trivial⟩ (HSub.refl _) (Nat.zero_le _) fun j hj => ?_
    (conv => whnf); repeat ((first | refine RngK.mk (by omega) (by omega) ?_ | refine NzK.mk (by omega) ?_ | refine NnK.mk (by omega) ?_ | refine BdK.mk (by omega) (by omega) (by omega) ?_ | refine InsK.lit (by omega) (by omega) ?_ | refine SpK.lit ?_ | refine GrdK.same ?_ | refine GrdK.tf ?_ | refine GrdK.ft ?_ | refine PickK.t ?_ | refine PickK.f ?_); (conv => whnf))
    refine Wp.cond rfl (fun h => ?_) (fun h => ?_)
    · have h := dT h
      have hj2 : j < hf := by omega
      have hjo : off + 1 + j < bs.length := by omega
      have hb8 := bs[off + 1 + j].toNat_lt
      have hgd : bs.getD (off + 1 + j) 0 = bs[off + 1 + j] := by simp [hjo]
      have hnt := nibs_two bs (off + 1) j
      rw [hgd] at hnt
      (conv => whnf); repeat ((first | refine RngK.mk (by omega) (by omega) ?_ | refine NzK.mk (by omega) ?_ | refine NnK.mk (by omega) ?_ | refine BdK.mk (by omega) (by omega) (by omega) ?_ | refine InsK.lit (by omega) (by omega) ?_ | refine SpK.lit ?_ | refine GrdK.same ?_ | refine GrdK.tf ?_ | refine GrdK.ft ?_ | refine PickK.t ?_ | refine PickK.f ?_); (conv => whnf))
      refine InsK.rd hp.by_.rd (by omega) (by omega) ?_
      (conv => whnf); repeat ((first | refine RngK.mk (by omega) (by omega) ?_ | refine NzK.mk (by omega) ?_ | refine NnK.mk (by omega) ?_ | refine BdK.mk (by omega) (by omega) (by omega) ?_ | refine InsK.lit (by omega) (by omega) ?_ | refine SpK.lit ?_ | refine GrdK.same ?_ | refine GrdK.tf ?_ | refine GrdK.ft ?_ | refine PickK.t ?_ | refine PickK.f ?_); (conv => whnf))
      refine LdK.rd (v := vU8 bs[off + 1 + j]) hp.by_.rd (off + 1 + j) rfl rfl rfl (by simp [hjo]) ?_
      (conv => whnf); repeat ((first | refine RngK.mk (by omega) (by omega) ?_ | refine NzK.mk (by omega) ?_ | refine NnK.mk (by omega) ?_ | refine BdK.mk (by omega) (by omega) (by omega) ?_ | refine InsK.lit (by omega) (by omega) ?_ | refine SpK.lit ?_ | refine GrdK.same ?_ | refine GrdK.tf ?_ | refine GrdK.ft ?_ | refine PickK.t ?_ | refine PickK.f ?_); (conv => whnf))
      have e4 : ishr .u8 (bs[off + 1 + j].toNat : Int) 4 = ((bs[off + 1 + j].toNat / 16 : Nat) : Int) := ishr_nat .u8 _ (n := 4) (by decide)
      have e15 : iand .u8 (bs[off + 1 + j].toNat : Int) 15 = ((bs[off + 1 + j].toNat % 16 : Nat) : Int) := by
        have := iand_u (k := .u8) rfl (x := bs[off + 1 + j].toNat) (y := 15) hb8 (by decide)
        rw [show (15 : Nat) = 2 ^ 4 - 1 by rfl, Nat.and_two_pow_sub_one_eq_mod] at this
        exact this
      rw [e4]
      have hs1 := padW_set (l := nibs bs (off + 1) (2 * j)) (k := 0 + 2 * j) (by rw [hnl]; omega) (by rw [hnl]; omega) (bs[off + 1 + j].toNat / 16)
      have hs2 := padW_set (l := nibs bs (off + 1) (2 * j) ++ [bs[off + 1 + j].toNat / 16]) (k := 0 + (2 * j + 1)) (by rw [List.length_append, hnl]; simp) (by rw [List.length_append, hnl]; simp; omega) (bs[off + 1 + j].toNat % 16)
      rw [← hnt] at hs2
      have hl1 := padW_len (l := nibs bs (off + 1) (2 * j)) (by rw [hnl]; omega)
      have hl2 := padW_len (l := nibs bs (off + 1) (2 * j) ++ [bs[off + 1 + j].toNat / 16]) (by rw [List.length_append, hnl]; simp; omega)
      refine StK.blkE 0 ((padW (nibs bs (off + 1) (2 * j) ++ [bs[off + 1 + j].toNat / 16])).map vW8) rfl rfl rfl rfl (by rw [List.length_map, hl1]; show 0 + (2 * j) < 256; omega) (by rw [← hs1, List.map_set]; rfl) ?_
      (conv => whnf); repeat ((first | refine RngK.mk (by omega) (by omega) ?_ | refine NzK.mk (by omega) ?_ | refine NnK.mk (by omega) ?_ | refine BdK.mk (by omega) (by omega) (by omega) ?_ | refine InsK.lit (by omega) (by omega) ?_ | refine SpK.lit ?_ | refine GrdK.same ?_ | refine GrdK.tf ?_ | refine GrdK.ft ?_ | refine PickK.t ?_ | refine PickK.f ?_); (conv => whnf))
      rw [e15]
      refine StK.blkE 0 ((padW (nibs bs (off + 1) (2 * (j + 1)))).map vW8) rfl rfl rfl rfl (by rw [List.length_map, hl2]; show 0 + (2 * j + 1) < 256; omega) (by rw [← hs2, List.map_set]; rfl) ?_
      (conv => whnf); repeat ((first | refine RngK.mk (by omega) (by omega) ?_ | refine NzK.mk (by omega) ?_ | refine NnK.mk (by omega) ?_ | refine BdK.mk (by omega) (by omega) (by omega) ?_ | refine InsK.lit (by omega) (by omega) ?_ | refine SpK.lit ?_ | refine GrdK.same ?_ | refine GrdK.tf ?_ | refine GrdK.ft ?_ | refine PickK.t ?_ | refine PickK.f ?_); (conv => whnf))
      exact ⟨j + 1, ⟨rfl, rfl, by show some (vI _) = some (vN _); congr 2, rfl, rfl, rfl, by show some (vI _) = some (vN _); congr 2, trivial⟩, HSub.refl _, by omega, by omega⟩
    · have h := dF h
      have hjh : j = hf := by omega
      subst hjh
      (conv => whnf); repeat ((first | refine RngK.mk (by omega) (by omega) ?_ | refine NzK.mk (by omega) ?_ | refine NnK.mk (by omega) ?_ | refine BdK.mk (by omega) (by omega) (by omega) ?_ | refine InsK.lit (by omega) (by omega) ?_ | refine SpK.lit ?_ | refine GrdK.same ?_ | refine GrdK.tf ?_ | refine GrdK.ft ?_ | refine PickK.t ?_ | refine PickK.f ?_); (conv => whnf))
      exact ⟨(), ⟨rfl, rfl, rfl, rfl, rfl, trivial⟩, HSub.refl _, trivial⟩
  have htk : (padW (nibs bs (off + 1) (2 * hf))).take (q - 127) = nibs bs (off + 1) (q - 127) := by
    rw [padW_take (by rw [hnl]; omega), nibs_take _ _ (by omega)]
  have hwl := padW_len (l := nibs bs (off + 1) (2 * hf)) (by rw [hnl]; omega)
  have hcnt : q - 127 ≤ 255 := by omega
  have hroff : off + 1 + hf ≤ bs.length := by omega
  obtain ⟨wl, hwe⟩ : ∃ wl, padW (nibs bs (off + 1) (2 * hf)) = wl := ⟨_, rfl⟩
  obtain ⟨ws, hws⟩ : ∃ ws, nibs bs (off + 1) (q - 127) = ws := ⟨_, rfl⟩
  obtain ⟨cnt, hce⟩ : ∃ cnt, q - 127 = cnt := ⟨_, rfl⟩
  obtain ⟨roff, hre⟩ : ∃ roff, off + 1 + hf = roff := ⟨_, rfl⟩
  rw [hwe] at htk hwl ⊢
  rw [hws] at htk ⊢
  rw [hce] at htk hcnt ⊢
  rw [hre] at hroff ⊢
  have hws1 : ws.length = cnt := by rw [← htk, List.length_take]; omega
  have hw8 : ∀ w ∈ wl, w < 256 := by
    rw [← hwe]
    intro w hw
    simp only [padW, List.mem_append, List.mem_replicate] at hw
    rcases hw with hw | ⟨_, rfl⟩
    · have := nibs_lt _ _ _ w hw
      omega
    · omega
  clear hwe hws hce hre h' eq126 hhf hnl hq hd hq2
  (conv => whnf); repeat ((first | refine RngK.mk (by omega) (by omega) ?_ | refine NzK.mk (by omega) ?_ | refine NnK.mk (by omega) ?_ | refine BdK.mk (by omega) (by omega) (by omega) ?_ | refine InsK.lit (by omega) (by omega) ?_ | refine SpK.lit ?_ | refine GrdK.same ?_ | refine GrdK.tf ?_ | refine GrdK.ft ?_ | refine PickK.t ?_ | refine PickK.f ?_); (conv => whnf))
  refine NewK.rep ((rg fun _ => 0).map vW32) rfl rfl (by kernel_rfl) ?_
  intro mb
  (conv => whnf); repeat ((first | refine RngK.mk (by omega) (by omega) ?_ | refine NzK.mk (by omega) ?_ | refine NnK.mk (by omega) ?_ | refine BdK.mk (by omega) (by omega) (by omega) ?_ | refine InsK.lit (by omega) (by omega) ?_ | refine SpK.lit ?_ | refine GrdK.same ?_ | refine GrdK.tf ?_ | refine GrdK.ft ?_ | refine PickK.t ?_ | refine PickK.f ?_); (conv => whnf))
  refine Wp.cutEx 4 (fun _ : Unit => [(0, .pointer (some ⟨r, 0, none⟩)), (2, vN roff), (3, .slice T m mc), (12, .pointer (some ⟨nb, 0, none⟩)), (13, vN cnt), (26, .pointer (some ⟨mb, 0, none⟩)), (27, vW32 (wsum ws))])
    (fun _ => [.blk mb 135 ((rg fun w => ws.count w).map vW32), .blk nb 122 (wl.map vW8), .own T m mc 109 1 (xs.map vU16)]) (fun _ => ∀ w ∈ ws, w ≤ 12) ?_ fun _ h12 => ?_
  · refine Wp.loop (fun i : Nat => [(0, .pointer (some ⟨r, 0, none⟩)), (2, vN roff), (3, .slice T m mc), (12, .pointer (some ⟨nb, 0, none⟩)), (13, vN cnt), (26, .pointer (some ⟨mb, 0, none⟩)), (27, vW32 (wsum (ws.take i))), (279, .slice (some ⟨nb, 0, none⟩) cnt 256), (280, vN cnt), (281, vN i)])
      (fun i => [.blk mb 135 ((rg fun w => (ws.take i).count w).map vW32), .blk nb 122 (wl.map vW8), .own T m mc 109 1 (xs.map vU16)]) (fun i => i ≤ cnt ∧ ∀ w ∈ ws.take i, w ≤ 12) (fun i => cnt - i) 0
      ⟨rfl, rfl, rfl, rfl, rfl, rfl, rfl, rfl, rfl, rfl, trivial⟩ (HSub.refl _) ⟨Nat.zero_le _, by simp⟩ fun i ⟨hi, hi12⟩ => ?_
    (conv => whnf); repeat ((first | refine RngK.mk (by omega) (by omega) ?_ | refine NzK.mk (by omega) ?_ | refine NnK.mk (by omega) ?_ | refine BdK.mk (by omega) (by omega) (by omega) ?_ | refine InsK.lit (by omega) (by omega) ?_ | refine SpK.lit ?_ | refine GrdK.same ?_ | refine GrdK.tf ?_ | refine GrdK.ft ?_ | refine PickK.t ?_ | refine PickK.f ?_); (conv => whnf))
    refine Wp.cond rfl (fun h => ?_) (fun h => ?_)
    · have h := dT h
      have hi2 : i < cnt := by omega
      have hi3 : i < ws.length := by omega
      have hi4 : i < wl.length := by omega
      have hwi : wl[i] = ws[i] := by subst htk; simp
      have hmem : ws[i] ∈ ws := List.getElem_mem hi3
      have htn := take_snoc hi3
      have hw8 := hw8 _ (List.getElem_mem hi4)
      have hcl : ∀ w, (ws.take i).count w ≤ 256 := fun w => Nat.le_trans List.count_le_length (by rw [List.length_take]; omega)
      have hwsl := wsum_le hi12
      rw [List.length_take, Nat.min_eq_left (by omega)] at hwsl
      (conv => whnf); repeat ((first | refine RngK.mk (by omega) (by omega) ?_ | refine NzK.mk (by omega) ?_ | refine NnK.mk (by omega) ?_ | refine BdK.mk (by omega) (by omega) (by omega) ?_ | refine InsK.lit (by omega) (by omega) ?_ | refine SpK.lit ?_ | refine GrdK.same ?_ | refine GrdK.tf ?_ | refine GrdK.ft ?_ | refine PickK.t ?_ | refine PickK.f ?_); (conv => whnf))
      refine LdK.blk 1 (v := vW8 wl[i]) rfl rfl rfl (by show (wl.map vW8)[0 + i]? = _; simp [hi4]) ?_
      rw [hwi] at hw8 ⊢
      obtain ⟨x, hxx⟩ : ∃ x, ws[i] = x := ⟨_, rfl⟩
      rw [hxx] at htn hw8 hmem ⊢
      (conv => whnf); repeat ((first | refine RngK.mk (by omega) (by omega) ?_ | refine NzK.mk (by omega) ?_ | refine NnK.mk (by omega) ?_ | refine BdK.mk (by omega) (by omega) (by omega) ?_ | refine InsK.lit (by omega) (by omega) ?_ | refine SpK.lit ?_ | refine GrdK.same ?_ | refine GrdK.tf ?_ | refine GrdK.ft ?_ | refine PickK.t ?_ | refine PickK.f ?_); (conv => whnf))
      refine Wp.cond rfl (fun h => ?_) (fun h => ?_)
      · have h := dT h
        rw [hufS_none (fun h => by have := h.1 x hmem; omega)]
        (conv => whnf); repeat ((first | refine RngK.mk (by omega) (by omega) ?_ | refine NzK.mk (by omega) ?_ | refine NnK.mk (by omega) ?_ | refine BdK.mk (by omega) (by omega) (by omega) ?_ | refine InsK.lit (by omega) (by omega) ?_ | refine SpK.lit ?_ | refine GrdK.same ?_ | refine GrdK.tf ?_ | refine GrdK.ft ?_ | refine PickK.t ?_ | refine PickK.f ?_); (conv => whnf))
        refine CallK.of [] (err_spec r roff _ e u (by omega) (by omega)) rfl (fun w hw => ⟨hp.la.pass hw, hp.rr.pass hw⟩) ?_
        rintro _ _ ⟨⟨T0, x0, rfl⟩, rfl⟩
        (conv => whnf); repeat ((first | refine RngK.mk (by omega) (by omega) ?_ | refine NzK.mk (by omega) ?_ | refine NnK.mk (by omega) ?_ | refine BdK.mk (by omega) (by omega) (by omega) ?_ | refine InsK.lit (by omega) (by omega) ?_ | refine SpK.lit ?_ | refine GrdK.same ?_ | refine GrdK.tf ?_ | refine GrdK.ft ?_ | refine PickK.t ?_ | refine PickK.f ?_); (conv => whnf))
        exact ⟨_, HSub.of [2] rfl, xs, _, _, rfl, rfl⟩
      have h' : ¬ (x : Int) > 12 := dF h
      clear h
      have hx12 : x < 13 := by omega
      have hall : ∀ w ∈ ws.take (i + 1), w ≤ 12 := by
        intro w hw
        rw [htn] at hw
        simp only [List.mem_append, List.mem_singleton] at hw
        rcases hw with hw | rfl
        · exact hi12 w hw
        · omega
      have hcx := hcl x
      obtain ⟨c0, hc0⟩ : ∃ c0, (ws.take i).count x = c0 := ⟨_, rfl⟩
      have hset := cnt_set (ws.take i) (k := 0 + x) (Nat.zero_add x) hc0
      rw [← htn] at hset
      rw [hc0] at hcx
      have ec0 : IntKind.u32.wrap ((c0 : Int) + 1) = ((c0 + 1 : Nat) : Int) := IntWalk.u32_in _ (by omega)
      have hws' := wsum_snoc (ws.take i) x
      rw [← htn] at hws'
      have hiq : i * 2 ^ (12 - 1) ≤ 256 * 2 ^ 11 := Nat.mul_le_mul_right _ (by omega)
      (conv => whnf); repeat ((first | refine RngK.mk (by omega) (by omega) ?_ | refine NzK.mk (by omega) ?_ | refine NnK.mk (by omega) ?_ | refine BdK.mk (by omega) (by omega) (by omega) ?_ | refine InsK.lit (by omega) (by omega) ?_ | refine SpK.lit ?_ | refine GrdK.same ?_ | refine GrdK.tf ?_ | refine GrdK.ft ?_ | refine PickK.t ?_ | refine PickK.f ?_); (conv => whnf))
      refine LdK.blk 0 (v := vW32 c0) rfl rfl rfl (by show ((rg _).map vW32)[0 + x]? = _; rw [List.getElem?_map, Nat.zero_add, rg_get _ hx12, hc0]; rfl) ?_
      (conv => whnf); repeat ((first | refine RngK.mk (by omega) (by omega) ?_ | refine NzK.mk (by omega) ?_ | refine NnK.mk (by omega) ?_ | refine BdK.mk (by omega) (by omega) (by omega) ?_ | refine InsK.lit (by omega) (by omega) ?_ | refine SpK.lit ?_ | refine GrdK.same ?_ | refine GrdK.tf ?_ | refine GrdK.ft ?_ | refine PickK.t ?_ | refine PickK.f ?_); (conv => whnf))
      rw [ec0]
      refine StK.blkE 0 ((rg fun w => (ws.take (i + 1)).count w).map vW32) rfl rfl rfl rfl (by rw [List.length_map, rg_len]; show 0 + x < 13; omega) (map_set' hset) ?_
      (conv => whnf); repeat ((first | refine RngK.mk (by omega) (by omega) ?_ | refine NzK.mk (by omega) ?_ | refine NnK.mk (by omega) ?_ | refine BdK.mk (by omega) (by omega) (by omega) ?_ | refine InsK.lit (by omega) (by omega) ?_ | refine SpK.lit ?_ | refine GrdK.same ?_ | refine GrdK.tf ?_ | refine GrdK.ft ?_ | refine PickK.t ?_ | refine PickK.f ?_); (conv => whnf))
      refine Wp.cond rfl (fun h => ?_) (fun h => ?_)
      · have h := dT h
        have e1 : IntKind.u8.wrap ((x : Int) - 1) = ((x - 1 : Nat) : Int) := by
          rw [← wrap_u_lt (k := .u8) rfl (n := x - 1) (by show _ < 256; omega)]
          congr 1; omega
        have e2 : ishl .u32 1 ((x - 1 : Nat) : Int) = ((2 ^ (x - 1) : Nat) : Int) := by
          have h2p : 2 ^ (x - 1) ≤ 2 ^ 11 := Nat.pow_le_pow_right (by omega) (by omega)
          have := ishl_u (k := .u32) rfl 1 (n := x - 1) (by show _ ≤ 32; omega)
          rw [Nat.one_mul, Nat.mod_eq_of_lt (by show _ < 2 ^ 32; omega)] at this
          exact this
        have h2p : 2 ^ (x - 1) ≤ 2 ^ 11 := Nat.pow_le_pow_right (by omega) (by omega)
        have hwt : wt x = 2 ^ (x - 1) := if_neg (by omega)
        rw [hwt] at hws'
        have e3 : IntKind.u32.wrap ((wsum (ws.take i) : Int) + ((2 ^ (x - 1) : Nat) : Int)) = ((wsum (ws.take (i + 1)) : Nat) : Int) := by
          rw [hws', IntWalk.u32_in _ (by omega)]; omega
        (conv => whnf); repeat ((first | refine RngK.mk (by omega) (by omega) ?_ | refine NzK.mk (by omega) ?_ | refine NnK.mk (by omega) ?_ | refine BdK.mk (by omega) (by omega) (by omega) ?_ | refine InsK.lit (by omega) (by omega) ?_ | refine SpK.lit ?_ | refine GrdK.same ?_ | refine GrdK.tf ?_ | refine GrdK.ft ?_ | refine PickK.t ?_ | refine PickK.f ?_); (conv => whnf))
        rw [e1, e2, e3]
        (conv => whnf); repeat ((first | refine RngK.mk (by omega) (by omega) ?_ | refine NzK.mk (by omega) ?_ | refine NnK.mk (by omega) ?_ | refine BdK.mk (by omega) (by omega) (by omega) ?_ | refine InsK.lit (by omega) (by omega) ?_ | refine SpK.lit ?_ | refine GrdK.same ?_ | refine GrdK.tf ?_ | refine GrdK.ft ?_ | refine PickK.t ?_ | refine PickK.f ?_); (conv => whnf))
        exact ⟨i + 1, ⟨rfl, rfl, rfl, rfl, rfl, rfl, rfl, rfl, rfl, rfl, trivial⟩, HSub.refl _, ⟨by omega, hall⟩, by omega⟩
      · have h : ¬ (x : Int) > 0 := dF h
        have hwt : wt x = 0 := if_pos (by omega)
        rw [hwt, Nat.add_zero] at hws'
        (conv => whnf); repeat ((first | refine RngK.mk (by omega) (by omega) ?_ | refine NzK.mk (by omega) ?_ | refine NnK.mk (by omega) ?_ | refine BdK.mk (by omega) (by omega) (by omega) ?_ | refine InsK.lit (by omega) (by omega) ?_ | refine SpK.lit ?_ | refine GrdK.same ?_ | refine GrdK.tf ?_ | refine GrdK.ft ?_ | refine PickK.t ?_ | refine PickK.f ?_); (conv => whnf))
        exact ⟨i + 1, ⟨rfl, rfl, rfl, rfl, rfl, rfl, by show some (vW32 _) = some (vW32 _); rw [hws']; rfl, rfl, rfl, rfl, trivial⟩, HSub.refl _, ⟨by omega, hall⟩, by omega⟩
    · have h := dF h
      have hic : i = ws.length := by omega
      subst hic
      rw [List.take_length] at *
      (conv => whnf); repeat ((first | refine RngK.mk (by omega) (by omega) ?_ | refine NzK.mk (by omega) ?_ | refine NnK.mk (by omega) ?_ | refine BdK.mk (by omega) (by omega) (by omega) ?_ | refine InsK.lit (by omega) (by omega) ?_ | refine SpK.lit ?_ | refine GrdK.same ?_ | refine GrdK.tf ?_ | refine GrdK.ft ?_ | refine PickK.t ?_ | refine PickK.f ?_); (conv => whnf))
      exact ⟨(), ⟨rfl, rfl, rfl, rfl, rfl, rfl, rfl, trivial⟩, HSub.refl _, hi12⟩
  have hlt := wsum_le h12
  have hlt2 : ws.length * 2 ^ (12 - 1) ≤ 256 * 2 ^ 11 := Nat.mul_le_mul_right _ (by omega)
  obtain ⟨sm, hsm⟩ : ∃ sm, wsum ws = sm := ⟨_, rfl⟩
  rw [hsm] at hlt ⊢
  (conv => whnf); repeat ((first | refine RngK.mk (by omega) (by omega) ?_ | refine NzK.mk (by omega) ?_ | refine NnK.mk (by omega) ?_ | refine BdK.mk (by omega) (by omega) (by omega) ?_ | refine InsK.lit (by omega) (by omega) ?_ | refine SpK.lit ?_ | refine GrdK.same ?_ | refine GrdK.tf ?_ | refine GrdK.ft ?_ | refine PickK.t ?_ | refine PickK.f ?_); (conv => whnf))
  refine Wp.cond rfl (fun h => ?_) (fun h => ?_)
  · have h : (sm : Int) = 0 := eqT h
    rw [hufS_none (fun h => by have := h.2.1; omega)]
    (conv => whnf); repeat ((first | refine RngK.mk (by omega) (by omega) ?_ | refine NzK.mk (by omega) ?_ | refine NnK.mk (by omega) ?_ | refine BdK.mk (by omega) (by omega) (by omega) ?_ | refine InsK.lit (by omega) (by omega) ?_ | refine SpK.lit ?_ | refine GrdK.same ?_ | refine GrdK.tf ?_ | refine GrdK.ft ?_ | refine PickK.t ?_ | refine PickK.f ?_); (conv => whnf))
    refine CallK.of [] (err_spec r roff _ e u (by omega) (by omega)) rfl (fun w hw => ⟨hp.la.pass hw, hp.rr.pass hw⟩) ?_
    rintro _ _ ⟨⟨T0, x0, rfl⟩, rfl⟩
    (conv => whnf); repeat ((first | refine RngK.mk (by omega) (by omega) ?_ | refine NzK.mk (by omega) ?_ | refine NnK.mk (by omega) ?_ | refine BdK.mk (by omega) (by omega) (by omega) ?_ | refine InsK.lit (by omega) (by omega) ?_ | refine SpK.lit ?_ | refine GrdK.same ?_ | refine GrdK.tf ?_ | refine GrdK.ft ?_ | refine PickK.t ?_ | refine PickK.f ?_); (conv => whnf))
    exact ⟨_, HSub.of [2] rfl, xs, _, _, rfl, rfl⟩
  have hs0 : (sm : Int) ≠ 0 := eqF h
  clear h
  (conv => whnf); repeat ((first | refine RngK.mk (by omega) (by omega) ?_ | refine NzK.mk (by omega) ?_ | refine NnK.mk (by omega) ?_ | refine BdK.mk (by omega) (by omega) (by omega) ?_ | refine InsK.lit (by omega) (by omega) ?_ | refine SpK.lit ?_ | refine GrdK.same ?_ | refine GrdK.tf ?_ | refine GrdK.ft ?_ | refine PickK.t ?_ | refine PickK.f ?_); (conv => whnf))
  refine CallK.of0 (lz32_spec sm (by omega)) ?_
  rintro _ _ ⟨rfl, rfl⟩
  have hw20 : wd sm ≤ 20 := wd_lt (by omega)
  have hw1 : 0 < wd sm := wd_pos (by omega)
  have eb : (32 : Int) - ((32 - wd sm : Nat) : Int) = ((wd sm : Nat) : Int) := by omega
  obtain ⟨b, hb⟩ : ∃ b, wd sm = b := ⟨_, rfl⟩
  rw [hb] at hw20 hw1 eb ⊢
  (conv => whnf); repeat ((first | refine RngK.mk (by omega) (by omega) ?_ | refine NzK.mk (by omega) ?_ | refine NnK.mk (by omega) ?_ | refine BdK.mk (by omega) (by omega) (by omega) ?_ | refine InsK.lit (by omega) (by omega) ?_ | refine SpK.lit ?_ | refine GrdK.same ?_ | refine GrdK.tf ?_ | refine GrdK.ft ?_ | refine PickK.t ?_ | refine PickK.f ?_); (conv => whnf))
  rw [eb]
  refine Wp.cond rfl (fun h => ?_) (fun h => ?_)
  · have h := dT h
    rw [hufS_none (fun h => by have := h.2.2.1; rw [hsm, hb] at this; omega)]
    (conv => whnf); repeat ((first | refine RngK.mk (by omega) (by omega) ?_ | refine NzK.mk (by omega) ?_ | refine NnK.mk (by omega) ?_ | refine BdK.mk (by omega) (by omega) (by omega) ?_ | refine InsK.lit (by omega) (by omega) ?_ | refine SpK.lit ?_ | refine GrdK.same ?_ | refine GrdK.tf ?_ | refine GrdK.ft ?_ | refine PickK.t ?_ | refine PickK.f ?_); (conv => whnf))
    refine CallK.of [] (err_spec r roff _ e u (by omega) (by omega)) rfl (fun w hw => ⟨hp.la.pass hw, hp.rr.pass hw⟩) ?_
    rintro _ _ ⟨⟨T0, x0, rfl⟩, rfl⟩
    (conv => whnf); repeat ((first | refine RngK.mk (by omega) (by omega) ?_ | refine NzK.mk (by omega) ?_ | refine NnK.mk (by omega) ?_ | refine BdK.mk (by omega) (by omega) (by omega) ?_ | refine InsK.lit (by omega) (by omega) ?_ | refine SpK.lit ?_ | refine GrdK.same ?_ | refine GrdK.tf ?_ | refine GrdK.ft ?_ | refine PickK.t ?_ | refine PickK.f ?_); (conv => whnf))
    exact ⟨_, HSub.of [2] rfl, xs, _, _, rfl, rfl⟩
  have hb11 : ¬ (b : Int) > 11 := dF h
  clear h
  have h2b : 2 ^ b ≤ 2 ^ 11 := Nat.pow_le_pow_right (by omega) (by omega)
  have e1 : ishl .i64 1 (b : Int) = ((2 ^ b : Nat) : Int) := by
    have := ishl_i64 (x := 1) (n := b) (by omega) (by omega)
    rw [Nat.one_mul] at this
    exact this
  have e2 : ishl .u32 1 (b : Int) = ((2 ^ b : Nat) : Int) := by
    have := ishl_u (k := .u32) rfl 1 (n := b) (by show _ ≤ 32; omega)
    rw [Nat.one_mul, Nat.mod_eq_of_lt (by show _ < 2 ^ 32; omega)] at this
    exact this
  (conv => whnf); repeat ((first | refine RngK.mk (by omega) (by omega) ?_ | refine NzK.mk (by omega) ?_ | refine NnK.mk (by omega) ?_ | refine BdK.mk (by omega) (by omega) (by omega) ?_ | refine InsK.lit (by omega) (by omega) ?_ | refine SpK.lit ?_ | refine GrdK.same ?_ | refine GrdK.tf ?_ | refine GrdK.ft ?_ | refine PickK.t ?_ | refine PickK.f ?_); (conv => whnf))
  rw [e1]
  refine Wp.cond rfl (fun h => ?_) (fun h => ?_)
  · have h := dT h
    omega
  clear h
  have hsb := lt_wd sm
  rw [hb] at hsb
  have e3 : IntKind.u32.wrap (((2 ^ b : Nat) : Int) - sm) = ((2 ^ b - sm : Nat) : Int) := by
    rw [IntWalk.u32_in _ (by omega)]; omega
  (conv => whnf); repeat ((first | refine RngK.mk (by omega) (by omega) ?_ | refine NzK.mk (by omega) ?_ | refine NnK.mk (by omega) ?_ | refine BdK.mk (by omega) (by omega) (by omega) ?_ | refine InsK.lit (by omega) (by omega) ?_ | refine SpK.lit ?_ | refine GrdK.same ?_ | refine GrdK.tf ?_ | refine GrdK.ft ?_ | refine PickK.t ?_ | refine PickK.f ?_); (conv => whnf))
  rw [e2, e3]
  obtain ⟨lf, hlf⟩ : ∃ lf, 2 ^ b - sm = lf := ⟨_, rfl⟩
  rw [hlf]
  refine Wp.cond rfl (fun h => ?_) (fun h => ?_)
  · have h : (lf : Int) = 0 := eqT h
    omega
  clear h
  (conv => whnf); repeat ((first | refine RngK.mk (by omega) (by omega) ?_ | refine NzK.mk (by omega) ?_ | refine NnK.mk (by omega) ?_ | refine BdK.mk (by omega) (by omega) (by omega) ?_ | refine InsK.lit (by omega) (by omega) ?_ | refine SpK.lit ?_ | refine GrdK.same ?_ | refine GrdK.tf ?_ | refine GrdK.ft ?_ | refine PickK.t ?_ | refine PickK.f ?_); (conv => whnf))
  refine CallK.of0 (lz32_spec lf (by omega)) ?_
  rintro _ _ ⟨rfl, rfl⟩
  have hl11 : wd lf ≤ b := wd_lt (by omega)
  have hl1 : 0 < wd lf := wd_pos (by omega)
  have el : (31 : Int) - ((32 - wd lf : Nat) : Int) = ((wd lf - 1 : Nat) : Int) := by omega
  obtain ⟨hb1, hhb⟩ : ∃ hb1, wd lf = hb1 + 1 := ⟨wd lf - 1, by omega⟩
  rw [hhb] at hl11 hl1 el ⊢
  rw [Nat.add_sub_cancel] at el
  have e4 : ishl .u32 1 (hb1 : Int) = ((2 ^ hb1 : Nat) : Int) := by
    have h2p : 2 ^ hb1 ≤ 2 ^ 11 := Nat.pow_le_pow_right (by omega) (by omega)
    have := ishl_u (k := .u32) rfl 1 (n := hb1) (by show _ ≤ 32; omega)
    rw [Nat.one_mul, Nat.mod_eq_of_lt (by show _ < 2 ^ 32; omega)] at this
    exact this
  (conv => whnf); repeat ((first | refine RngK.mk (by omega) (by omega) ?_ | refine NzK.mk (by omega) ?_ | refine NnK.mk (by omega) ?_ | refine BdK.mk (by omega) (by omega) (by omega) ?_ | refine InsK.lit (by omega) (by omega) ?_ | refine SpK.lit ?_ | refine GrdK.same ?_ | refine GrdK.tf ?_ | refine GrdK.ft ?_ | refine PickK.t ?_ | refine PickK.f ?_); (conv => whnf))
  rw [el]
  (conv => whnf); repeat ((first | refine RngK.mk (by omega) (by omega) ?_ | refine NzK.mk (by omega) ?_ | refine NnK.mk (by omega) ?_ | refine BdK.mk (by omega) (by omega) (by omega) ?_ | refine InsK.lit (by omega) (by omega) ?_ | refine SpK.lit ?_ | refine GrdK.same ?_ | refine GrdK.tf ?_ | refine GrdK.ft ?_ | refine PickK.t ?_ | refine PickK.f ?_); (conv => whnf))
  rw [e4]
  refine Wp.cond rfl (fun h => ?_) (fun h => ?_)
  · have h : ((2 ^ hb1 : Nat) : Int) ≠ lf := neT h
    rw [hufS_none (fun h => by have := h.2.2.2; rw [hsm, hb, hlf, hhb, Nat.add_sub_cancel] at this; omega)]
    (conv => whnf); repeat ((first | refine RngK.mk (by omega) (by omega) ?_ | refine NzK.mk (by omega) ?_ | refine NnK.mk (by omega) ?_ | refine BdK.mk (by omega) (by omega) (by omega) ?_ | refine InsK.lit (by omega) (by omega) ?_ | refine SpK.lit ?_ | refine GrdK.same ?_ | refine GrdK.tf ?_ | refine GrdK.ft ?_ | refine PickK.t ?_ | refine PickK.f ?_); (conv => whnf))
    refine CallK.of [] (err_spec r roff _ e u (by omega) (by omega)) rfl (fun w hw => ⟨hp.la.pass hw, hp.rr.pass hw⟩) ?_
    rintro _ _ ⟨⟨T0, x0, rfl⟩, rfl⟩
    (conv => whnf); repeat ((first | refine RngK.mk (by omega) (by omega) ?_ | refine NzK.mk (by omega) ?_ | refine NnK.mk (by omega) ?_ | refine BdK.mk (by omega) (by omega) (by omega) ?_ | refine InsK.lit (by omega) (by omega) ?_ | refine SpK.lit ?_ | refine GrdK.same ?_ | refine GrdK.tf ?_ | refine GrdK.ft ?_ | refine PickK.t ?_ | refine PickK.f ?_); (conv => whnf))
    exact ⟨_, HSub.of [2] rfl, xs, _, _, rfl, rfl⟩
  have h2f : ((2 ^ hb1 : Nat) : Int) = lf := neF h
  clear h
  have hwh : wholeN ws = some (ws ++ [hb1 + 1], b) := by
    unfold wholeN
    rw [hsm, hb, hlf, hhb, Nat.add_sub_cancel, if_pos]
    exact ⟨le11 (by rw [hsm, hb]; omega), by omega, by omega, by omega⟩
  have hW2 := wholeN_facts hwh
  have hst := cnt_set ws (k := 0 + (hb1 + 1)) (x := hb1 + 1) (Nat.zero_add _) rfl
  have hcl : ws.count (hb1 + 1) ≤ 256 := Nat.le_trans List.count_le_length (by omega)
  have hhuf : hufS ws = if (ws ++ [hb1 + 1]).count 1 < 2 then none else some (tabC (ws ++ [hb1 + 1]) b b, b) := by unfold hufS; rw [hwh]
  have hal : (ws ++ [hb1 + 1]).length = cnt + 1 := by rw [List.length_append, hws1]; rfl
  have hta : (wl.set cnt (hb1 + 1)).take (cnt + 1) = ws ++ [hb1 + 1] := by
    rw [take_snoc (by rw [List.length_set]; omega), List.take_set_of_le (Nat.le_refl _), htk]
    simp
  have hwl' : (wl.set (0 + cnt) (hb1 + 1)).length = 256 := by rw [List.length_set, hwl]
  rw [hhuf]
  obtain ⟨c0, hc0⟩ : ∃ c0, ws.count (hb1 + 1) = c0 := ⟨_, rfl⟩
  rw [hc0] at hst hcl
  obtain ⟨all, hall⟩ : ∃ all, ws ++ [hb1 + 1] = all := ⟨_, rfl⟩
  rw [hall] at hst hwh hW2 hal hta ⊢
  obtain ⟨wl', hwe⟩ : ∃ wl', wl.set (0 + cnt) (hb1 + 1) = wl' := ⟨_, rfl⟩
  have hwm := map_set' (f := vW8) hwe
  rw [Nat.zero_add] at hwe
  rw [hwe] at hta
  rw [Nat.zero_add, hwe] at hwl'
  have e5 : IntKind.u8.wrap ((hb1 : Int) + 1) = ((hb1 + 1 : Nat) : Int) := wrap_u_lt (k := .u8) rfl (n := hb1 + 1) (by show _ < 256; omega)
  have e6 : IntKind.u32.wrap ((c0 : Int) + 1) = ((c0 + 1 : Nat) : Int) := IntWalk.u32_in _ (by omega)
  (conv => whnf); repeat ((first | refine RngK.mk (by omega) (by omega) ?_ | refine NzK.mk (by omega) ?_ | refine NnK.mk (by omega) ?_ | refine BdK.mk (by omega) (by omega) (by omega) ?_ | refine InsK.lit (by omega) (by omega) ?_ | refine SpK.lit ?_ | refine GrdK.same ?_ | refine GrdK.tf ?_ | refine GrdK.ft ?_ | refine PickK.t ?_ | refine PickK.f ?_); (conv => whnf))
  refine Wp.cond rfl (fun h => ?_) (fun h => ?_)
  · have h := dT h
    omega
  clear h
  (conv => whnf); repeat ((first | refine RngK.mk (by omega) (by omega) ?_ | refine NzK.mk (by omega) ?_ | refine NnK.mk (by omega) ?_ | refine BdK.mk (by omega) (by omega) (by omega) ?_ | refine InsK.lit (by omega) (by omega) ?_ | refine SpK.lit ?_ | refine GrdK.same ?_ | refine GrdK.tf ?_ | refine GrdK.ft ?_ | refine PickK.t ?_ | refine PickK.f ?_); (conv => whnf))
  rw [e5]
  refine StK.blkE 1 (wl'.map vW8) rfl rfl rfl rfl (by rw [List.length_map, hwl]; show 0 + cnt < 256; omega) hwm ?_
  (conv => whnf); repeat ((first | refine RngK.mk (by omega) (by omega) ?_ | refine NzK.mk (by omega) ?_ | refine NnK.mk (by omega) ?_ | refine BdK.mk (by omega) (by omega) (by omega) ?_ | refine InsK.lit (by omega) (by omega) ?_ | refine SpK.lit ?_ | refine GrdK.same ?_ | refine GrdK.tf ?_ | refine GrdK.ft ?_ | refine PickK.t ?_ | refine PickK.f ?_); (conv => whnf))
  refine LdK.blk 0 (v := vW32 c0) rfl rfl rfl (by show ((rg _).map vW32)[0 + (hb1 + 1)]? = _; rw [List.getElem?_map, Nat.zero_add, rg_get _ (by omega), hc0]; rfl) ?_
  (conv => whnf); repeat ((first | refine RngK.mk (by omega) (by omega) ?_ | refine NzK.mk (by omega) ?_ | refine NnK.mk (by omega) ?_ | refine BdK.mk (by omega) (by omega) (by omega) ?_ | refine InsK.lit (by omega) (by omega) ?_ | refine SpK.lit ?_ | refine GrdK.same ?_ | refine GrdK.tf ?_ | refine GrdK.ft ?_ | refine PickK.t ?_ | refine PickK.f ?_); (conv => whnf))
  rw [e6]
  refine StK.blkE 0 ((rg fun w => all.count w).map vW32) rfl rfl rfl rfl (by rw [List.length_map, rg_len]; show 0 + (hb1 + 1) < 13; omega) (map_set' hst) ?_
  have hev := hW2.even
  have hc1l : all.count 1 ≤ 256 := Nat.le_trans List.count_le_length (by omega)
  have eand : iand .u32 ((all.count 1 : Nat) : Int) 1 = ((all.count 1 % 2 : Nat) : Int) := by
    have := iand_u (k := .u32) rfl (x := all.count 1) (y := 1) (by show _ < 2 ^ 32; omega) (by decide)
    rw [show (1 : Nat) = 2 ^ 1 - 1 by rfl, Nat.and_two_pow_sub_one_eq_mod] at this
    exact this
  have hc1g : (((rg fun w => all.count w).map vW32)[1]?) = some (vW32 (all.count 1)) := by rw [List.getElem?_map, rg_get _ (by omega)]; rfl
  obtain ⟨c1, hc1⟩ : ∃ c1, all.count 1 = c1 := ⟨_, rfl⟩
  rw [hc1] at hev hc1l eand hc1g ⊢
  (conv => whnf); repeat ((first | refine RngK.mk (by omega) (by omega) ?_ | refine NzK.mk (by omega) ?_ | refine NnK.mk (by omega) ?_ | refine BdK.mk (by omega) (by omega) (by omega) ?_ | refine InsK.lit (by omega) (by omega) ?_ | refine SpK.lit ?_ | refine GrdK.same ?_ | refine GrdK.tf ?_ | refine GrdK.ft ?_ | refine PickK.t ?_ | refine PickK.f ?_); (conv => whnf))
  refine LdK.blk 0 (v := vW32 c1) rfl rfl rfl hc1g ?_
  (conv => whnf); repeat ((first | refine RngK.mk (by omega) (by omega) ?_ | refine NzK.mk (by omega) ?_ | refine NnK.mk (by omega) ?_ | refine BdK.mk (by omega) (by omega) (by omega) ?_ | refine InsK.lit (by omega) (by omega) ?_ | refine SpK.lit ?_ | refine GrdK.same ?_ | refine GrdK.tf ?_ | refine GrdK.ft ?_ | refine PickK.t ?_ | refine PickK.f ?_); (conv => whnf))
  by_cases hc2 : c1 < 2
  · rw [decide_eq_true (show (c1 : Int) < 2 by omega), if_pos hc2]
    (conv => whnf); repeat ((first | refine RngK.mk (by omega) (by omega) ?_ | refine NzK.mk (by omega) ?_ | refine NnK.mk (by omega) ?_ | refine BdK.mk (by omega) (by omega) (by omega) ?_ | refine InsK.lit (by omega) (by omega) ?_ | refine SpK.lit ?_ | refine GrdK.same ?_ | refine GrdK.tf ?_ | refine GrdK.ft ?_ | refine PickK.t ?_ | refine PickK.f ?_); (conv => whnf))
    refine Wp.cond rfl (fun _ => ?_) (fun h => by cases h)
    (conv => whnf); repeat ((first | refine RngK.mk (by omega) (by omega) ?_ | refine NzK.mk (by omega) ?_ | refine NnK.mk (by omega) ?_ | refine BdK.mk (by omega) (by omega) (by omega) ?_ | refine InsK.lit (by omega) (by omega) ?_ | refine SpK.lit ?_ | refine GrdK.same ?_ | refine GrdK.tf ?_ | refine GrdK.ft ?_ | refine PickK.t ?_ | refine PickK.f ?_); (conv => whnf))
    refine CallK.of [] (err_spec r roff _ e u (by omega) (by omega)) rfl (fun w hw => ⟨hp.la.pass hw, hp.rr.pass hw⟩) ?_
    rintro _ _ ⟨⟨T0, x0, rfl⟩, rfl⟩
    (conv => whnf); repeat ((first | refine RngK.mk (by omega) (by omega) ?_ | refine NzK.mk (by omega) ?_ | refine NnK.mk (by omega) ?_ | refine BdK.mk (by omega) (by omega) (by omega) ?_ | refine InsK.lit (by omega) (by omega) ?_ | refine SpK.lit ?_ | refine GrdK.same ?_ | refine GrdK.tf ?_ | refine GrdK.ft ?_ | refine PickK.t ?_ | refine PickK.f ?_); (conv => whnf))
    exact ⟨_, HSub.of [2] rfl, xs, _, _, rfl, rfl⟩
  rw [decide_eq_false (show ¬ (c1 : Int) < 2 by omega), if_neg hc2]
  (conv => whnf); repeat ((first | refine RngK.mk (by omega) (by omega) ?_ | refine NzK.mk (by omega) ?_ | refine NnK.mk (by omega) ?_ | refine BdK.mk (by omega) (by omega) (by omega) ?_ | refine InsK.lit (by omega) (by omega) ?_ | refine SpK.lit ?_ | refine GrdK.same ?_ | refine GrdK.tf ?_ | refine GrdK.ft ?_ | refine PickK.t ?_ | refine PickK.f ?_); (conv => whnf))
  refine LdK.blk 0 (v := vW32 c1) rfl rfl rfl hc1g ?_
  (conv => whnf); repeat ((first | refine RngK.mk (by omega) (by omega) ?_ | refine NzK.mk (by omega) ?_ | refine NnK.mk (by omega) ?_ | refine BdK.mk (by omega) (by omega) (by omega) ?_ | refine InsK.lit (by omega) (by omega) ?_ | refine SpK.lit ?_ | refine GrdK.same ?_ | refine GrdK.tf ?_ | refine GrdK.ft ?_ | refine PickK.t ?_ | refine PickK.f ?_); (conv => whnf))
  rw [eand, hev]
  (conv => whnf); repeat ((first | refine RngK.mk (by omega) (by omega) ?_ | refine NzK.mk (by omega) ?_ | refine NnK.mk (by omega) ?_ | refine BdK.mk (by omega) (by omega) (by omega) ?_ | refine InsK.lit (by omega) (by omega) ?_ | refine SpK.lit ?_ | refine GrdK.same ?_ | refine GrdK.tf ?_ | refine GrdK.ft ?_ | refine PickK.t ?_ | refine PickK.f ?_); (conv => whnf))
  refine Wp.cond rfl (fun h => by cases h) (fun _ => ?_)
  rw [markB_zero]
  clear hcl hc0 hst hwm e5 e6 hc1g eand hev hc1l hc2 h2f e4 el e1 e2 e3
  (conv => whnf); repeat ((first | refine RngK.mk (by omega) (by omega) ?_ | refine NzK.mk (by omega) ?_ | refine NnK.mk (by omega) ?_ | refine BdK.mk (by omega) (by omega) (by omega) ?_ | refine InsK.lit (by omega) (by omega) ?_ | refine SpK.lit ?_ | refine GrdK.same ?_ | refine GrdK.tf ?_ | refine GrdK.ft ?_ | refine PickK.t ?_ | refine PickK.f ?_); (conv => whnf))
  have hbase := hW2.base
  have hb13 : b ≤ 11 := hW2.b1
  refine Wp.cutEx 6 (fun _ : Unit => [(0, .pointer (some ⟨r, 0, none⟩)), (2, vN roff), (3, .slice T m mc), (8, vN b), (12, .pointer (some ⟨nb, 0, none⟩)), (13, vN (cnt + 1)), (26, .pointer (some ⟨mb, 0, none⟩))])
    (fun _ => [.blk mb 135 ((rg (markB all b)).map vW32), .blk nb 122 (wl'.map vW8), .own T m mc 109 1 (xs.map vU16)]) (fun _ => True) ?_ fun _ _ => ?_
  · refine Wp.loop (fun i : Nat => [(0, .pointer (some ⟨r, 0, none⟩)), (2, vN roff), (3, .slice T m mc), (8, vN b), (12, .pointer (some ⟨nb, 0, none⟩)), (13, vN (cnt + 1)), (26, .pointer (some ⟨mb, 0, none⟩)), (32, vW32 (baseC all i)), (33, vN i)])
      (fun i => [.blk mb 135 ((rg (markB all i)).map vW32), .blk nb 122 (wl'.map vW8), .own T m mc 109 1 (xs.map vU16)]) (fun i => i ≤ b) (fun i => b - i) 0
      ⟨rfl, rfl, rfl, rfl, rfl, rfl, rfl, rfl, rfl, trivial⟩ (HSub.refl _) (Nat.zero_le _) fun i hi => ?_
    (conv => whnf); repeat ((first | refine RngK.mk (by omega) (by omega) ?_ | refine NzK.mk (by omega) ?_ | refine NnK.mk (by omega) ?_ | refine BdK.mk (by omega) (by omega) (by omega) ?_ | refine InsK.lit (by omega) (by omega) ?_ | refine SpK.lit ?_ | refine GrdK.same ?_ | refine GrdK.tf ?_ | refine GrdK.ft ?_ | refine PickK.t ?_ | refine PickK.f ?_); (conv => whnf))
    refine Wp.cond rfl (fun h => ?_) (fun h => ?_)
    · have h := dT h
      have hi2 : i < b := by omega
      have hm1 := baseC_mono all (show i + 1 ≤ b by omega)
      have hbn : baseC all (i + 1) = baseC all i + all.count (i + 1) * 2 ^ i := rfl
      have hset := markB_next all (i := i) (k := 0 + (i + 1)) (Nat.zero_add _)
      have hge : ((rg (markB all i)).map vW32)[0 + (i + 1)]? = some (vW32 (all.count (i + 1))) := by
        rw [List.getElem?_map, Nat.zero_add, rg_get _ (by omega)]
        show some (vW32 _) = _
        unfold markB
        rw [if_neg (by omega)]
      obtain ⟨cc, hcc⟩ : ∃ cc, all.count (i + 1) = cc := ⟨_, rfl⟩
      rw [hcc] at hbn hge
      obtain ⟨pp, hpp⟩ : ∃ pp, cc * 2 ^ i = pp := ⟨_, rfl⟩
      rw [hpp] at hbn
      have esh : ishl .u32 (cc : Int) (i : Int) = ((pp : Nat) : Int) := by
        have := ishl_u (k := .u32) rfl cc (n := i) (by show _ ≤ 32; omega)
        rw [hpp, Nat.mod_eq_of_lt (by show _ < 2 ^ 32; omega)] at this
        exact this
      have ead : IntKind.u32.wrap (((baseC all i : Nat) : Int) + (pp : Int)) = ((baseC all (i + 1) : Nat) : Int) := by
        rw [hbn, IntWalk.u32_in _ (by omega)]; omega
      (conv => whnf); repeat ((first | refine RngK.mk (by omega) (by omega) ?_ | refine NzK.mk (by omega) ?_ | refine NnK.mk (by omega) ?_ | refine BdK.mk (by omega) (by omega) (by omega) ?_ | refine InsK.lit (by omega) (by omega) ?_ | refine SpK.lit ?_ | refine GrdK.same ?_ | refine GrdK.tf ?_ | refine GrdK.ft ?_ | refine PickK.t ?_ | refine PickK.f ?_); (conv => whnf))
      refine LdK.blk 0 (v := vW32 cc) rfl rfl rfl hge ?_
      (conv => whnf); repeat ((first | refine RngK.mk (by omega) (by omega) ?_ | refine NzK.mk (by omega) ?_ | refine NnK.mk (by omega) ?_ | refine BdK.mk (by omega) (by omega) (by omega) ?_ | refine InsK.lit (by omega) (by omega) ?_ | refine SpK.lit ?_ | refine GrdK.same ?_ | refine GrdK.tf ?_ | refine GrdK.ft ?_ | refine PickK.t ?_ | refine PickK.f ?_); (conv => whnf))
      rw [esh, ead]
      (conv => whnf); repeat ((first | refine RngK.mk (by omega) (by omega) ?_ | refine NzK.mk (by omega) ?_ | refine NnK.mk (by omega) ?_ | refine BdK.mk (by omega) (by omega) (by omega) ?_ | refine InsK.lit (by omega) (by omega) ?_ | refine SpK.lit ?_ | refine GrdK.same ?_ | refine GrdK.tf ?_ | refine GrdK.ft ?_ | refine PickK.t ?_ | refine PickK.f ?_); (conv => whnf))
      refine StK.blkE 0 ((rg (markB all (i + 1))).map vW32) rfl rfl rfl rfl (by rw [List.length_map, rg_len]; show 0 + (i + 1) < 13; omega) (map_set' hset) ?_
      (conv => whnf); repeat ((first | refine RngK.mk (by omega) (by omega) ?_ | refine NzK.mk (by omega) ?_ | refine NnK.mk (by omega) ?_ | refine BdK.mk (by omega) (by omega) (by omega) ?_ | refine InsK.lit (by omega) (by omega) ?_ | refine SpK.lit ?_ | refine GrdK.same ?_ | refine GrdK.tf ?_ | refine GrdK.ft ?_ | refine PickK.t ?_ | refine PickK.f ?_); (conv => whnf))
      exact ⟨i + 1, ⟨rfl, rfl, rfl, rfl, rfl, rfl, rfl, rfl, rfl, trivial⟩, HSub.refl _, by omega, by omega⟩
    · have h := dF h
      have hib : i = b := by omega
      subst hib
      (conv => whnf); repeat ((first | refine RngK.mk (by omega) (by omega) ?_ | refine NzK.mk (by omega) ?_ | refine NnK.mk (by omega) ?_ | refine BdK.mk (by omega) (by omega) (by omega) ?_ | refine InsK.lit (by omega) (by omega) ?_ | refine SpK.lit ?_ | refine GrdK.same ?_ | refine GrdK.tf ?_ | refine GrdK.ft ?_ | refine PickK.t ?_ | refine PickK.f ?_); (conv => whnf))
      exact ⟨(), ⟨rfl, rfl, rfl, rfl, rfl, rfl, rfl, trivial⟩, HSub.refl _, trivial⟩
  rw [markC_zero]
  (conv => whnf); repeat ((first | refine RngK.mk (by omega) (by omega) ?_ | refine NzK.mk (by omega) ?_ | refine NnK.mk (by omega) ?_ | refine BdK.mk (by omega) (by omega) (by omega) ?_ | refine InsK.lit (by omega) (by omega) ?_ | refine SpK.lit ?_ | refine GrdK.same ?_ | refine GrdK.tf ?_ | refine GrdK.ft ?_ | refine PickK.t ?_ | refine PickK.f ?_); (conv => whnf))
  refine Wp.cutEx 8 (fun _ : List Nat => [(0, .pointer (some ⟨r, 0, none⟩)), (2, vN roff), (8, vN b)])
    (fun ys => [.own T m mc 109 1 (ys.map vU16)]) (fun ys => Fl all b ys all.length ∧ ys.length = m) ?_ fun ys ⟨hfl, hyl⟩ => ?_
  · refine Wp.loop (fun t : Nat × List Nat => [(0, .pointer (some ⟨r, 0, none⟩)), (2, vN roff), (3, .slice T m mc), (8, vN b), (26, .pointer (some ⟨mb, 0, none⟩)), (392, .slice (some ⟨nb, 0, none⟩) (cnt + 1) 256), (393, vN (cnt + 1)), (394, vN t.1)])
      (fun t => [.blk mb 135 ((rg (markC all b t.1)).map vW32), .blk nb 122 (wl'.map vW8), .own T m mc 109 1 (t.2.map vU16)]) (fun t => t.1 ≤ cnt + 1 ∧ Fl all b t.2 t.1 ∧ t.2.length = m) (fun t => cnt + 1 - t.1) (0, xs)
      ⟨rfl, rfl, rfl, rfl, rfl, rfl, rfl, rfl, trivial⟩ (HSub.refl _) ⟨Nat.zero_le _, Fl.zero _ _ _, hx⟩ fun ⟨i, ys⟩ ⟨hi, hfl, hyl⟩ => ?_
    dsimp only at hi hfl hyl ⊢
    (conv => whnf); repeat ((first | refine RngK.mk (by omega) (by omega) ?_ | refine NzK.mk (by omega) ?_ | refine NnK.mk (by omega) ?_ | refine BdK.mk (by omega) (by omega) (by omega) ?_ | refine InsK.lit (by omega) (by omega) ?_ | refine SpK.lit ?_ | refine GrdK.same ?_ | refine GrdK.tf ?_ | refine GrdK.ft ?_ | refine PickK.t ?_ | refine PickK.f ?_); (conv => whnf))
    refine Wp.cond rfl (fun h => ?_) (fun h => ?_)
    · have h := dT h
      have hi2 : i < all.length := by omega
      have hi3 : i < wl'.length := by omega
      have hwi : wl'[i] = all[i] := by subst hta; simp
      have hle := hW2.le _ (List.getElem_mem hi2)
      (conv => whnf); repeat ((first | refine RngK.mk (by omega) (by omega) ?_ | refine NzK.mk (by omega) ?_ | refine NnK.mk (by omega) ?_ | refine BdK.mk (by omega) (by omega) (by omega) ?_ | refine InsK.lit (by omega) (by omega) ?_ | refine SpK.lit ?_ | refine GrdK.same ?_ | refine GrdK.tf ?_ | refine GrdK.ft ?_ | refine PickK.t ?_ | refine PickK.f ?_); (conv => whnf))
      refine LdK.blk 1 (v := vW8 wl'[i]) rfl rfl rfl (by show (wl'.map vW8)[0 + i]? = _; simp [hi3]) ?_
      rw [hwi]
      obtain ⟨x, hxx⟩ : ∃ x, all[i] = x := ⟨_, rfl⟩
      rw [hxx] at hle ⊢
      (conv => whnf); repeat ((first | refine RngK.mk (by omega) (by omega) ?_ | refine NzK.mk (by omega) ?_ | refine NnK.mk (by omega) ?_ | refine BdK.mk (by omega) (by omega) (by omega) ?_ | refine InsK.lit (by omega) (by omega) ?_ | refine SpK.lit ?_ | refine GrdK.same ?_ | refine GrdK.tf ?_ | refine GrdK.ft ?_ | refine PickK.t ?_ | refine PickK.f ?_); (conv => whnf))
      refine Wp.cond rfl (fun h => ?_) (fun h => ?_)
      · have h : (x : Int) = 0 := eqT h
        have h0 : all[i] = 0 := by omega
        (conv => whnf); repeat ((first | refine RngK.mk (by omega) (by omega) ?_ | refine NzK.mk (by omega) ?_ | refine NnK.mk (by omega) ?_ | refine BdK.mk (by omega) (by omega) (by omega) ?_ | refine InsK.lit (by omega) (by omega) ?_ | refine SpK.lit ?_ | refine GrdK.same ?_ | refine GrdK.tf ?_ | refine GrdK.ft ?_ | refine PickK.t ?_ | refine PickK.f ?_); (conv => whnf))
        rw [markC_skip hi2 h0]
        exact ⟨(i + 1, ys), ⟨rfl, rfl, rfl, rfl, rfl, rfl, rfl, rfl, trivial⟩, HSub.refl _, ⟨by simp only; omega, hfl.skip hi2 h0, hyl⟩, by simp only; omega⟩
      · have h : (x : Int) ≠ 0 := eqF h
        obtain ⟨k, rfl⟩ : ∃ k, x = k + 1 := ⟨x - 1, by omega⟩
        have h2k : 2 ^ k ≤ 2 ^ 11 := Nat.pow_le_pow_right (by omega) (by omega)
        have e7 : IntKind.u8.wrap (((k + 1 : Nat) : Int) - 1) = ((k : Nat) : Int) := by
          rw [← wrap_u_lt (k := .u8) rfl (n := k) (by show _ < 256; omega)]
          congr 1; omega
        have e8 : ishl .u32 1 ((k : Nat) : Int) = ((2 ^ k : Nat) : Int) := by
          have := ishl_u (k := .u32) rfl 1 (n := k) (by show _ ≤ 32; omega)
          rw [Nat.one_mul, Nat.mod_eq_of_lt (by show _ < 2 ^ 32; omega)] at this
          exact this
        (conv => whnf); repeat ((first | refine RngK.mk (by omega) (by omega) ?_ | refine NzK.mk (by omega) ?_ | refine NnK.mk (by omega) ?_ | refine BdK.mk (by omega) (by omega) (by omega) ?_ | refine InsK.lit (by omega) (by omega) ?_ | refine SpK.lit ?_ | refine GrdK.same ?_ | refine GrdK.tf ?_ | refine GrdK.ft ?_ | refine PickK.t ?_ | refine PickK.f ?_); (conv => whnf))
        rw [e7]
        (conv => whnf); repeat ((first | refine RngK.mk (by omega) (by omega) ?_ | refine NzK.mk (by omega) ?_ | refine NnK.mk (by omega) ?_ | refine BdK.mk (by omega) (by omega) (by omega) ?_ | refine InsK.lit (by omega) (by omega) ?_ | refine SpK.lit ?_ | refine GrdK.same ?_ | refine GrdK.tf ?_ | refine GrdK.ft ?_ | refine PickK.t ?_ | refine PickK.f ?_); (conv => whnf))
        rw [e8]
        have hroom := seg_room all b k (i + 1)
        have hsl := congrArg List.length (seg_next (b := b) hi2 k)
        rw [if_pos hxx, List.length_append, List.length_replicate] at hsl
        have hmk := baseC_mono all (show k + 1 ≤ b by omega)
        obtain ⟨st, hst⟩ : ∃ st, baseC all k + (segC b (k + 1) 0 (all.take i)).length = st := ⟨_, rfl⟩
        have hfs := hfl.step hi2 hxx (by omega) (by rw [hbase]; omega)
        rw [hst] at hfs
        have hmn := markC_next hi2 hxx (show k < b by omega) (p := 0 + (k + 1)) (Nat.zero_add _) hst
        have hge : ((rg (markC all b i)).map vW32)[0 + (k + 1)]? = some (vW32 st) := by
          rw [List.getElem?_map, Nat.zero_add, rg_get _ (by omega), markC_at (by omega), hst]; rfl
        (conv => whnf); repeat ((first | refine RngK.mk (by omega) (by omega) ?_ | refine NzK.mk (by omega) ?_ | refine NnK.mk (by omega) ?_ | refine BdK.mk (by omega) (by omega) (by omega) ?_ | refine InsK.lit (by omega) (by omega) ?_ | refine SpK.lit ?_ | refine GrdK.same ?_ | refine GrdK.tf ?_ | refine GrdK.ft ?_ | refine PickK.t ?_ | refine PickK.f ?_); (conv => whnf))
        refine LdK.blk 0 (v := vW32 st) rfl rfl rfl hge ?_
        (conv => whnf); repeat ((first | refine RngK.mk (by omega) (by omega) ?_ | refine NzK.mk (by omega) ?_ | refine NnK.mk (by omega) ?_ | refine BdK.mk (by omega) (by omega) (by omega) ?_ | refine InsK.lit (by omega) (by omega) ?_ | refine SpK.lit ?_ | refine GrdK.same ?_ | refine GrdK.tf ?_ | refine GrdK.ft ?_ | refine PickK.t ?_ | refine PickK.f ?_); (conv => whnf))
        have e38' := e38 (i := i) (b := b) (k := k) (by omega) (by omega) (by omega)
        obtain ⟨tv, htv⟩ : ∃ tv, pk (i, b - k) = tv := ⟨_, rfl⟩
        rw [htv] at hfs e38'
        refine Wp.cutEx 10 (fun _ : Unit => [(0, .pointer (some ⟨r, 0, none⟩)), (2, vN roff), (3, .slice T m mc), (8, vN b), (26, .pointer (some ⟨mb, 0, none⟩)), (36, vW8 (k + 1)), (37, vW32 (2 ^ k)), (392, .slice (some ⟨nb, 0, none⟩) (cnt + 1) 256), (393, vN (cnt + 1)), (394, vN i)])
          (fun _ => [.blk mb 135 ((rg (markC all b i)).map vW32), .blk nb 122 (wl'.map vW8), .own T m mc 109 1 ((wrN ys st tv (2 ^ k)).map vU16)]) (fun _ => True) ?_ fun _ _ => ?_
        · refine Wp.loop (fun j : Nat => [(0, .pointer (some ⟨r, 0, none⟩)), (2, vN roff), (3, .slice T m mc), (8, vN b), (26, .pointer (some ⟨mb, 0, none⟩)), (36, vW8 (k + 1)), (37, vW32 (2 ^ k)), (38, vU16 tv), (39, vW32 st), (40, vW32 j), (392, .slice (some ⟨nb, 0, none⟩) (cnt + 1) 256), (393, vN (cnt + 1)), (394, vN i)])
            (fun j => [.blk mb 135 ((rg (markC all b i)).map vW32), .blk nb 122 (wl'.map vW8), .own T m mc 109 1 ((wrN ys st tv j).map vU16)]) (fun j => j ≤ 2 ^ k) (fun j => 2 ^ k - j) 0
            ⟨rfl, rfl, rfl, rfl, rfl, rfl, rfl, by show some (Value.int .u16 _) = some (Value.int .u16 _); rw [e38'], rfl, rfl, rfl, rfl, rfl, trivial⟩ (HSub.refl _) (Nat.zero_le _) fun j hj => ?_
          (conv => whnf); repeat ((first | refine RngK.mk (by omega) (by omega) ?_ | refine NzK.mk (by omega) ?_ | refine NnK.mk (by omega) ?_ | refine BdK.mk (by omega) (by omega) (by omega) ?_ | refine InsK.lit (by omega) (by omega) ?_ | refine SpK.lit ?_ | refine GrdK.same ?_ | refine GrdK.tf ?_ | refine GrdK.ft ?_ | refine PickK.t ?_ | refine PickK.f ?_); (conv => whnf))
          refine Wp.cond rfl (fun h => ?_) (fun h => ?_)
          · have h := dT h
            have hj2 : j < 2 ^ k := by omega
            have hwl2 := wrN_len ys st tv j
            have esj : IntKind.u32.wrap ((st : Int) + (j : Int)) = ((st + j : Nat) : Int) := by rw [IntWalk.u32_in _ (by omega)]; omega
            (conv => whnf); repeat ((first | refine RngK.mk (by omega) (by omega) ?_ | refine NzK.mk (by omega) ?_ | refine NnK.mk (by omega) ?_ | refine BdK.mk (by omega) (by omega) (by omega) ?_ | refine InsK.lit (by omega) (by omega) ?_ | refine SpK.lit ?_ | refine GrdK.same ?_ | refine GrdK.tf ?_ | refine GrdK.ft ?_ | refine PickK.t ?_ | refine PickK.f ?_); (conv => whnf))
            rw [esj]
            refine InsK.own hT (by omega) (by omega) ?_
            (conv => whnf); repeat ((first | refine RngK.mk (by omega) (by omega) ?_ | refine NzK.mk (by omega) ?_ | refine NnK.mk (by omega) ?_ | refine BdK.mk (by omega) (by omega) (by omega) ?_ | refine InsK.lit (by omega) (by omega) ?_ | refine SpK.lit ?_ | refine GrdK.same ?_ | refine GrdK.tf ?_ | refine GrdK.ft ?_ | refine PickK.t ?_ | refine PickK.f ?_); (conv => whnf))
            refine StK.own 2 (st + j) rfl (hT.ad (by omega)) rfl rfl rfl rfl (by rw [List.length_map]; omega) ?_
            have ej : IntKind.u32.wrap ((j : Int) + 1) = ((j + 1 : Nat) : Int) := by rw [IntWalk.u32_in _ (by omega)]; omega
            have hwset : ((wrN ys st tv j).map vU16).set (st + j) (vU16 tv) = (wrN ys st tv (j + 1)).map vU16 := by rw [wrN, List.map_set]
            (conv => whnf); repeat ((first | refine RngK.mk (by omega) (by omega) ?_ | refine NzK.mk (by omega) ?_ | refine NnK.mk (by omega) ?_ | refine BdK.mk (by omega) (by omega) (by omega) ?_ | refine InsK.lit (by omega) (by omega) ?_ | refine SpK.lit ?_ | refine GrdK.same ?_ | refine GrdK.tf ?_ | refine GrdK.ft ?_ | refine PickK.t ?_ | refine PickK.f ?_); (conv => whnf))
            rw [ej, hwset]
            exact ⟨j + 1, ⟨rfl, rfl, rfl, rfl, rfl, rfl, rfl, rfl, rfl, rfl, rfl, rfl, rfl, trivial⟩, HSub.refl _, by omega, by omega⟩
          · have h := dF h
            have hjk : j = 2 ^ k := by omega
            subst hjk
            (conv => whnf); repeat ((first | refine RngK.mk (by omega) (by omega) ?_ | refine NzK.mk (by omega) ?_ | refine NnK.mk (by omega) ?_ | refine BdK.mk (by omega) (by omega) (by omega) ?_ | refine InsK.lit (by omega) (by omega) ?_ | refine SpK.lit ?_ | refine GrdK.same ?_ | refine GrdK.tf ?_ | refine GrdK.ft ?_ | refine PickK.t ?_ | refine PickK.f ?_); (conv => whnf))
            exact ⟨(), ⟨rfl, rfl, rfl, rfl, rfl, rfl, rfl, rfl, rfl, rfl, trivial⟩, HSub.refl _, trivial⟩
        have est : IntKind.u32.wrap ((st : Int) + ((2 ^ k : Nat) : Int)) = ((st + 2 ^ k : Nat) : Int) := by rw [IntWalk.u32_in _ (by omega)]; omega
        (conv => whnf); repeat ((first | refine RngK.mk (by omega) (by omega) ?_ | refine NzK.mk (by omega) ?_ | refine NnK.mk (by omega) ?_ | refine BdK.mk (by omega) (by omega) (by omega) ?_ | refine InsK.lit (by omega) (by omega) ?_ | refine SpK.lit ?_ | refine GrdK.same ?_ | refine GrdK.tf ?_ | refine GrdK.ft ?_ | refine PickK.t ?_ | refine PickK.f ?_); (conv => whnf))
        refine LdK.blk 0 (v := vW32 st) rfl rfl rfl hge ?_
        (conv => whnf); repeat ((first | refine RngK.mk (by omega) (by omega) ?_ | refine NzK.mk (by omega) ?_ | refine NnK.mk (by omega) ?_ | refine BdK.mk (by omega) (by omega) (by omega) ?_ | refine InsK.lit (by omega) (by omega) ?_ | refine SpK.lit ?_ | refine GrdK.same ?_ | refine GrdK.tf ?_ | refine GrdK.ft ?_ | refine PickK.t ?_ | refine PickK.f ?_); (conv => whnf))
        rw [est]
        refine StK.blkE 0 ((rg (markC all b (i + 1))).map vW32) rfl rfl rfl rfl (by rw [List.length_map, rg_len]; show 0 + (k + 1) < 13; omega) (map_set' hmn) ?_
        (conv => whnf); repeat ((first | refine RngK.mk (by omega) (by omega) ?_ | refine NzK.mk (by omega) ?_ | refine NnK.mk (by omega) ?_ | refine BdK.mk (by omega) (by omega) (by omega) ?_ | refine InsK.lit (by omega) (by omega) ?_ | refine SpK.lit ?_ | refine GrdK.same ?_ | refine GrdK.tf ?_ | refine GrdK.ft ?_ | refine PickK.t ?_ | refine PickK.f ?_); (conv => whnf))
        exact ⟨(i + 1, wrN ys st tv (2 ^ k)), ⟨rfl, rfl, rfl, rfl, rfl, rfl, rfl, rfl, trivial⟩, HSub.refl _, ⟨by simp only; omega, hfs, by rw [wrN_len]; exact hyl⟩, by simp only; omega⟩
    · have h := dF h
      have hib : i = all.length := by omega
      subst hib
      (conv => whnf); repeat ((first | refine RngK.mk (by omega) (by omega) ?_ | refine NzK.mk (by omega) ?_ | refine NnK.mk (by omega) ?_ | refine BdK.mk (by omega) (by omega) (by omega) ?_ | refine InsK.lit (by omega) (by omega) ?_ | refine SpK.lit ?_ | refine GrdK.same ?_ | refine GrdK.tf ?_ | refine GrdK.ft ?_ | refine PickK.t ?_ | refine PickK.f ?_); (conv => whnf))
      exact ⟨ys, ⟨rfl, rfl, rfl, trivial⟩, HSub.of [2] rfl, hfl, hyl⟩
  have hdone := hfl.done (by rw [hbase]; omega)
  rw [hbase] at hdone
  (conv => whnf); repeat ((first | refine RngK.mk (by omega) (by omega) ?_ | refine NzK.mk (by omega) ?_ | refine NnK.mk (by omega) ?_ | refine BdK.mk (by omega) (by omega) (by omega) ?_ | refine InsK.lit (by omega) (by omega) ?_ | refine SpK.lit ?_ | refine GrdK.same ?_ | refine GrdK.tf ?_ | refine GrdK.ft ?_ | refine PickK.t ?_ | refine PickK.f ?_); (conv => whnf))
  exact ⟨_, HSub.of [0] rfl, ys, hyl, hdone, rfl, rfl⟩
end Go.Proofs.YtgdhdkjbilifiaaDoor
