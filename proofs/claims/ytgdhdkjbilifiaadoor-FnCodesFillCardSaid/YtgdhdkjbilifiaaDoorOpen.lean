/- Arguments opened: what a reading of a slice of bytes, of whole numbers, of slices of bytes says of memory. -/
import Derived.Test.YtgdhdkjbilifiaaDoorU64
import Derived.ProofKit
import Derived.OpenShut
import Derived.ShutString
import Derived.ChangeOld
import Derived.Below
import Derived.Deep.Matrix
namespace Go.Sx
open Go Go.RowKit Go.ChangeShapes Go.WideShapes Go.ChangeAt Go.Deep
theorem u64_of_wf {a : Int} (h : (Lit.int .u64 a).wf = true) : ∃ x : UInt64, a = (x.toNat : Int) := by
  simp [Lit.wf, IntKind.min, IntKind.max, IntKind.signed, IntKind.bits] at h
  exact ⟨UInt64.ofNat a.toNat, by rw [UInt64.toNat_ofNat_of_lt' (by simp [UInt64.size]; omega)]; omega⟩
section
variable {P : Program} {H : Type} {enc : TypeId × Value → H} {w : World}
theorem rd_row {k : IntKind} {a : Addr} {len cap : Nat} {zs : List Int} (hl : len ≤ cap) (hz : zs.length = cap) (hc : ∀ i, i < zs.length → w.cell? (a.add i) = some (.int k (zs.getD i 0))) :
    Rd w (blocks []) (some a) len 1 ((zs.take len).map (.int k)) := by
  have spot : 0 < len → a.spot = none := fun h0 => by
    have := hc 0 (by omega)
    rw [show a.add 0 = a by simp [Addr.add]] at this
    simpa using World.cell?_spot this
  refine ⟨by simp; omega, fun h0 => ?_, fun b o hA j v hv => ?_⟩
  · obtain ⟨b, o, s⟩ := a
    obtain rfl : s = none := spot h0
    refine ⟨b, o, rfl, fun ⟨_, h, _⟩ => (by cases h), ?_⟩
    have := hc 0 (by omega)
    exact World.block_lt_of_cell? w _ this
  · injection hA with hA
    subst hA
    simp only [List.getElem?_map, Option.map_eq_some_iff] at hv
    obtain ⟨z, hz', rfl⟩ := hv
    rw [List.getElem?_take] at hz'
    split at hz'
    · rename_i hj
      rw [← Addr_add_mid, hc j (by omega)]
      simp [List.getD, hz']
    · cases hz'
theorem rd_ints {t e : TypeId} {k : IntKind} {A : Option Addr} {n c : Nat} {d : DataW H} {p : List MemPlace} (ht : P.underlying t = some (.slice e)) (he : P.underlying e = some (.int k)) (hc : P.cellsOf e = 1)
    (h : DataW.Trod enc P w 0 (fun _ => true) true t (.slice A n c) d p) : ∃ zs : List Int, Rd w (blocks []) A n 1 (zs.map (.int k)) ∧ n ≤ c ∧ c ≤ maxLen ∧ ∀ z ∈ zs, (Lit.int k z).wf = true := by
  obtain ⟨fuel, hf⟩ := h
  rcases open_ints ht he hc hf with ⟨hcs, _⟩ | ⟨x, l, cp, zs, hcs, _, hl, hm, hz, _, hcell, hwz⟩
  · simp [Value.cells] at hcs
    obtain ⟨rfl, rfl, rfl⟩ := hcs
    exact ⟨[], Rd.nil 1, Nat.le_refl _, Nat.zero_le _, fun z hz => (by cases hz)⟩
  · simp [Value.cells] at hcs
    obtain ⟨rfl, rfl, rfl⟩ := hcs
    simp only [if_true] at hz
    exact ⟨zs.take n, rd_row hl hz hcell, hl, hm, fun z hz' => hwz z (List.mem_of_mem_take hz')⟩
theorem rd_spot {t e : TypeId} {k : IntKind} {A : Option Addr} {n c : Nat} {d : DataW H} {p : List MemPlace} (ht : P.underlying t = some (.slice e)) (he : P.underlying e = some (.int k)) (hc : P.cellsOf e = 1)
    (h : DataW.Trod enc P w 0 (fun _ => true) true t (.slice A n c) d p) : c ≠ 0 → ∀ a, A = some a → a.spot = none := by
  obtain ⟨fuel, hf⟩ := h
  rcases open_ints ht he hc hf with ⟨hcs, _⟩ | ⟨x, l, cp, zs, hcs, _, hl, hm, hz, _, hcell, hwz⟩
  · simp [Value.cells] at hcs
    obtain ⟨rfl, rfl, rfl⟩ := hcs
    intro h0; exact absurd rfl h0
  · simp [Value.cells] at hcs
    obtain ⟨rfl, rfl, rfl⟩ := hcs
    simp only [if_true] at hz
    rintro h0 a ⟨⟩
    have := hcell 0 (by omega)
    rw [show x.add 0 = x by simp [Addr.add]] at this
    simpa using World.cell?_spot this
def bytesOf (zs : List Int) : List UInt8 := zs.map fun z => UInt8.ofNat z.toNat
theorem bytesOf_eq {zs : List Int} (h : ∀ z ∈ zs, (Lit.int .u8 z).wf = true) : zs.map (Value.int .u8) = (bytesOf zs).map vU8 := by
  unfold bytesOf
  rw [List.map_map]
  refine List.map_congr_left fun z hz => ?_
  have := h z hz
  simp [Lit.wf, IntKind.min, IntKind.max, IntKind.signed, IntKind.bits] at this
  simp only [Function.comp, vU8]
  congr 1
  rw [UInt8.toNat_ofNat_of_lt' (by simp [UInt8.size]; omega)]
  omega
/-- a slice of bytes that came in -/
structure Bytes (w : World) (W : Nat → Prop) (A : Option Addr) (n c : Nat) (bs : List UInt8) : Prop where
  rd : Rd w W A n 1 (bs.map vU8)
  le : n ≤ c
  max : c ≤ maxLen
  pl : c ≠ 0 → ∀ a, A = some a → a.spot = none
theorem Bytes.sp {W : Nat → Prop} {A : Option Addr} {n c l : Nat} {bs : List UInt8} {K : Prop} (h : Bytes w W A n c bs) (hl : l ≤ n) (hk : K) : SpK A l c K :=
  ⟨fun hne => h.pl (by have := h.le; omega), hk⟩
theorem cutA_spot {A : Option Addr} {l c s : Nat} (hp : c ≠ 0 → ∀ a, A = some a → a.spot = none) (_hl : l ≤ c) : c - l ≠ 0 → ∀ a, cutA A l c s = some a → a.spot = none := by
  intro hne a ha
  unfold cutA at ha
  rw [if_neg (by omega)] at ha
  cases A with
  | none => cases ha
  | some x => injection ha with ha; subst ha; rfl
theorem Bytes.cut {W : Nat → Prop} {A : Option Addr} {n c : Nat} {bs : List UInt8} (h : Bytes w W A n c bs) {l q : Nat} (hl : l + q ≤ n) : Bytes w W (cutA A l c 1) q (c - l) ((bs.drop l).take q) := by
  have hle := h.le
  have hm := h.max
  refine ⟨?_, by omega, by omega, cutA_spot h.pl (by omega)⟩
  have := h.rd.cut (l := l) (q := q) (c := c) hl hle
  simpa [List.map_drop, List.map_take] using this
theorem Bytes.from_ {W : Nat → Prop} {A : Option Addr} {n c : Nat} {bs : List UInt8} (h : Bytes w W A n c bs) {l : Nat} (hl : l ≤ n) : Bytes w W (cutA A l c 1) (n - l) (c - l) (bs.drop l) := by
  have hb : bs.length = n := by simpa using h.rd.len
  have := h.cut (l := l) (q := n - l) (by omega)
  rwa [List.take_of_length_le (by rw [List.length_drop]; omega)] at this
theorem Bytes.pass {Hin Hr : Hp} {w0 : World} {W : Nat → Prop} (hw : HInv w0 W (Hin ++ Hr) w) {A : Option Addr} {n c : Nat} {bs : List UInt8} (h : Bytes w0 W A n c bs) : Bytes w (blocks Hin) A n c bs :=
  ⟨h.rd.pass hw, h.le, h.max, h.pl⟩
theorem Bytes.ofOwn {Hin Hr : Hp} {w0 : World} {W : Nat → Prop} (hw : HInv w0 W (Hin ++ Hr) w) (k : Nat) {A : Option Addr} {m cap : Nat} {E : TypeId} {bs : List UInt8} (hk : Hr[k]? = some (.own A m cap E 1 (bs.map vU8))) : Bytes w (blocks Hin) A m cap bs := by
  refine ⟨Rd.ofOwn hw k hk, ?_, ?_, ?_⟩
  all_goals
    have hok := hw.hok.ok _ (List.mem_append_right Hin (List.mem_of_getElem? hk))
    rcases hok.2 with ⟨h1, h2⟩ | ⟨g, cap', cur, h1, hb, hg, h2, h3, h4, htake⟩
  · injection h1 with _ h3 h4; omega
  · injection h1 with _ _ h5; subst h5; exact h2
  · injection h1 with _ h3 h4; omega
  · injection h1 with _ _ h5; subst h5; exact h3
  · injection h1 with h3 h4 h5; intro hne; omega
  · injection h1 with h5; subst h5; rintro _ _ ⟨⟩; rfl
theorem Bytes.len {W : Nat → Prop} {A : Option Addr} {n c : Nat} {bs : List UInt8} (h : Bytes w W A n c bs) : bs.length = n := by simpa using h.rd.len
theorem rd_bytes {t e : TypeId} {A : Option Addr} {n c : Nat} {d : DataW H} {p : List MemPlace} (ht : P.underlying t = some (.slice e)) (he : P.underlying e = some (.int .u8)) (hc : P.cellsOf e = 1)
    (h : DataW.Trod enc P w 0 (fun _ => true) true t (.slice A n c) d p) : ∃ bs : List UInt8, Bytes w (blocks []) A n c bs := by
  obtain ⟨zs, h1, h2, h3, h4⟩ := rd_ints ht he hc h
  exact ⟨bytesOf zs, by rw [← bytesOf_eq h4]; exact h1, h2, h3, rd_spot ht he hc h⟩
/-- one of some slices of bytes: its address, its length, its capacity, its bytes -/
structure Piece where
  A : Option Addr
  n : Nat
  c : Nat
  bs : List UInt8
def Piece.v (p : Piece) : Value := .slice p.A p.n p.c
structure Pieces (w : World) (W : Nat → Prop) (A : Option Addr) (n c : Nat) (ps : List Piece) : Prop where
  rd : Rd w W A n 1 (ps.map Piece.v)
  le : n ≤ c
  max : c ≤ maxLen
  each : ∀ p ∈ ps, Bytes w W p.A p.n p.c p.bs
theorem Pieces.len {W : Nat → Prop} {A : Option Addr} {n c : Nat} {ps : List Piece} (h : Pieces w W A n c ps) : ps.length = n := by simpa using h.rd.len
theorem Pieces.pass {Hin Hr : Hp} {w0 : World} {W : Nat → Prop} (hw : HInv w0 W (Hin ++ Hr) w) {A : Option Addr} {n c : Nat} {ps : List Piece} (h : Pieces w0 W A n c ps) : Pieces w (blocks Hin) A n c ps :=
  ⟨h.rd.pass hw, h.le, h.max, fun p hp => (h.each p hp).pass hw⟩
theorem rd_pieces {t e q : TypeId} {A : Option Addr} {n c : Nat} {d : DataW H} {p : List MemPlace} (ht : P.underlying t = some (.slice e)) (he : P.underlying e = some (.slice q)) (hq : P.underlying q = some (.int .u8)) (ce : P.cellsOf e = 1) (cq : P.cellsOf q = 1)
    (h : DataW.Trod enc P w 0 (fun _ => true) true t (.slice A n c) d p) : ∃ ps : List Piece, Pieces w (blocks []) A n c ps := by
  obtain ⟨fuel, hf⟩ := h
  rcases open_int_rows ht he hq ce cq hf with ⟨hcs, _⟩ | ⟨a, len, cap, AA, L, C, Z, hcs, _, hl, hm, _, hrow⟩
  · simp [Value.cells] at hcs
    obtain ⟨rfl, rfl, rfl⟩ := hcs
    exact ⟨[], Rd.nil 1, Nat.le_refl _, Nat.zero_le _, fun p hp => (by cases hp)⟩
  · simp [Value.cells] at hcs
    obtain ⟨rfl, rfl, rfl⟩ := hcs
    refine ⟨(List.range n).map fun r => ⟨AA r, L r, C r, bytesOf ((Z r).take (L r))⟩, ?_, hl, hm, ?_⟩
    · refine ⟨by simp, fun h0 => ?_, fun b o hA j v hv => ?_⟩
      · have hc := (hrow 0 (by omega)).1
        rw [show a.add 0 = a by simp [Addr.add]] at hc
        obtain ⟨b, o, s⟩ := a
        obtain rfl : s = none := by simpa using World.cell?_spot hc
        exact ⟨b, o, rfl, fun ⟨_, h, _⟩ => (by cases h), World.block_lt_of_cell? w _ hc⟩
      · injection hA with hA
        subst hA
        simp only [List.map_map, List.getElem?_map, Option.map_eq_some_iff] at hv
        obtain ⟨r, hr, rfl⟩ := hv
        obtain ⟨hj, hr⟩ := List.getElem?_eq_some_iff.1 hr
        simp only [List.length_range] at hj
        simp only [List.getElem_range] at hr
        subst hr
        rw [← Addr_add_mid]
        exact (hrow j (by omega)).1
    · intro p hp
      obtain ⟨r, hr, rfl⟩ := List.mem_map.1 hp
      have hr := List.mem_range.1 hr
      obtain ⟨_, h1, h2, h3, h4, h5, h6⟩ := hrow r (by omega)
      refine ⟨?_, h1, h2, fun hne a ha => ?_⟩
      rotate_left
      · simp only at hne ha
        have := (h6 a ha).2 0 (by omega)
        rw [show a.add 0 = a by simp [Addr.add]] at this
        simpa using World.cell?_spot this
      simp only
      rw [← bytesOf_eq fun z hz => h4 z (List.mem_of_mem_take hz)]
      cases hA : AA r with
      | none =>
        have := h5 hA
        have h0 : L r = 0 := by omega
        rw [h0]
        exact Rd.nil 1
      | some a' => exact rd_row h1 h3 fun i hi => (h6 a' hA).2 i (by omega)
end
end Go.Sx
