/- A small calculus of our own over the walk's rules: what stands in the slots and in the blocks that a call made is kept as two lists; each step of the code is one law. It holds for every program; no program's text is in it. -/
import Derived.WalkKit
import Derived.Deep.Quiet
import Derived.Laws.Rows
import Derived.Laws.Tables
import Derived.Laws.AppendOwn
import Derived.Laws.OwnMore
import Derived.Maps.AppendAt
namespace Go.Sx
open Go Go.RowKit

/-! ## Slots -/
abbrev Sl := List (Nat × Value)
def get : Sl → Nat → Option Value
  | [], _ => none
  | (k, v) :: r, t => match Nat.beq k t with | true => some v | false => get r t
def put (d : Option Nat) (v : Value) (σ : Sl) : Sl := match d with | some t => (t, v) :: σ | none => σ
def ev (σ : Sl) : Operand → Option Value
  | .tmp t => get σ t
  | .const v => some v
  | .global g => some (.pointer (some ⟨g, 0, none⟩))
  | .func f => some (.func (.func f) #[] #[])
structure Rep (n : Nat) (σ : Sl) (a : Act) : Prop where
  size : a.tmps.size = n
  defers : a.defers = []
  at_ : ∀ t v, get σ t = some v → a.tmps.getD t undef = v
theorem Rep.ev {n : Nat} {σ : Sl} {a : Act} (h : Rep n σ a) {x : Operand} {v : Value} (hx : ev σ x = some v) : a.eval x = v := by
  cases x with
  | tmp t => exact h.at_ t v hx
  | const u => simp only [Sx.ev, Option.some.injEq] at hx; subst hx; rfl
  | global g => simp only [Sx.ev, Option.some.injEq] at hx; subst hx; rfl
  | func f => simp only [Sx.ev, Option.some.injEq] at hx; subst hx; rfl
theorem Rep.put {n : Nat} {σ : Sl} {a : Act} (h : Rep n σ a) {d : Option Nat} (hd : ∀ t, d = some t → t < n) (v : Value) : Rep n (put d v σ) (a.put d v) := by
  cases d with
  | none => exact h
  | some t =>
    have ht := hd t rfl
    refine ⟨by simpa [Act.put] using h.size, h.defers, fun u x hu => ?_⟩
    simp only [Sx.put, get] at hu
    have hsz : t < a.tmps.size := by rw [h.size]; exact ht
    by_cases e : t = u
    · subst e
      simp only [Nat.beq_refl] at hu
      injection hu with hu
      subst hu
      simp [Act.put, hsz]
    · have hb : Nat.beq t u = false := by
        cases hq : Nat.beq t u with
        | false => rfl
        | true => exact absurd (Nat.eq_of_beq_eq_true hq) e
      rw [hb] at hu
      have := h.at_ u x hu
      rw [← this]
      simp [Act.put, Array.getD_eq_getD_getElem?, e]
/-- The slots of the first list stand in the second one. -/
def Sub : Sl → Sl → Prop
  | [], _ => True
  | (t, v) :: r, σ => get σ t = some v ∧ Sub r σ
theorem Sub.get {σ' σ : Sl} (h : Sub σ' σ) : ∀ {t v}, get σ' t = some v → get σ t = some v := by
  induction σ' with
  | nil => intro t v hg; simp [Sx.get] at hg
  | cons p r ih =>
    obtain ⟨k, u⟩ := p
    intro t v hg
    simp only [Sx.get] at hg
    split at hg
    · rename_i hb
      injection hg with hg
      subst hg
      have := Nat.eq_of_beq_eq_true hb
      subst this
      exact h.1
    · exact ih h.2 hg
theorem Rep.sub {n : Nat} {σ σ' : Sl} {a : Act} (h : Rep n σ a) (hs : Sub σ' σ) : Rep n σ' a :=
  ⟨h.size, h.defers, fun t v hg => h.at_ t v (hs.get hg)⟩

/-! ## Blocks -/
structure Keeps (W : Nat → Prop) (w w' : World) : Prop where
  os : w'.os = w.os
  tape : w'.tape = w.tape
  output : w'.output = w.output
  size : w.heap.size ≤ w'.heap.size
  block : ∀ k, k < w.heap.size → ¬ W k → w'.heap[k]? = w.heap[k]?
theorem Keeps.refl (W : Nat → Prop) (w : World) : Keeps W w w := ⟨rfl, rfl, rfl, Nat.le_refl _, fun _ _ _ => rfl⟩
/-- a block that is known whole | a slice of the call's own that is appended to -/
abbrev Chunk := (Nat × TypeId × List Value) ⊕ (Option Addr × Nat × Nat × TypeId × Nat × List Value)
abbrev Chunk.blk (b : Nat) (T : TypeId) (cs : List Value) : Chunk := .inl (b, T, cs)
abbrev Chunk.own (A : Option Addr) (n cap : Nat) (E : TypeId) (sz : Nat) (xs : List Value) : Chunk := .inr (A, n, cap, E, sz, xs)
def Chunk.block : Chunk → Option Nat
  | .inl (b, _, _) => some b
  | .inr (A, n, cap, _, _, _) => (Value.slice A n cap).ownBlock
def Chunk.ok (w : World) : Chunk → Prop
  | .inl (b, T, cs) => w.heap[b]? = some (.cells cs.toArray T (0, 0))
  | .inr (A, n, cap, E, sz, xs) => w.ownsRow 0 E sz (.slice A n cap) n xs
def Chunk.apart (c d : Chunk) : Prop := ∀ b, c.block = some b → d.block = some b → False
theorem Chunk.apart_symm {c d : Chunk} (h : c.apart d) : d.apart c := fun b h1 h2 => h b h2 h1
abbrev Hp := List Chunk
structure HOk (H : Hp) (w : World) : Prop where
  ok : ∀ c ∈ H, c.ok w
  apart : H.Pairwise Chunk.apart
def blocks (H : Hp) : Nat → Prop := fun b => ∃ c ∈ H, c.block = some b
structure HInv (w0 : World) (W : Nat → Prop) (H : Hp) (w : World) : Prop where
  keeps : Keeps W w0 w
  hok : HOk H w
  new : ∀ c ∈ H, ∀ b, c.block = some b → W b ∨ w0.heap.size ≤ b
theorem Chunk.lt {c : Chunk} {w : World} (h : c.ok w) {b : Nat} (hb : c.block = some b) : b < w.heap.size := by
  rcases c with ⟨b', T, cs⟩ | ⟨A, n, cap, E, sz, xs⟩
  · simp only [Chunk.block, Option.some.injEq] at hb
    subst hb
    exact (Array.getElem?_eq_some_iff.1 h).1
  · exact (World.ownsRow.lt h b hb).2
theorem Chunk.ok_of_block {c : Chunk} {w w' : World} (h : c.ok w) (he : ∀ b, c.block = some b → w'.heap[b]? = w.heap[b]?) : c.ok w' := by
  rcases c with ⟨b, T, cs⟩ | ⟨A, n, cap, E, sz, xs⟩
  · exact (he b rfl).trans h
  · refine ⟨h.1, ?_⟩
    rcases h.2 with h2 | ⟨g, cap', cur, hv, hb, hg, rest⟩
    · exact .inl h2
    · refine .inr ⟨g, cap', cur, hv, hb, ?_, rest⟩
      rw [he g (by simp only [Chunk.block, hv]; rfl)]
      exact hg
theorem HOk.lt {H : Hp} {w : World} (h : HOk H w) {b : Nat} (hb : blocks H b) : b < w.heap.size := by
  obtain ⟨c, hc, hcb⟩ := hb
  exact Chunk.lt (h.ok c hc) hcb
/-- A world with the same blocks and no fewer of them. -/
theorem HInv.same {w0 : World} {W : Nat → Prop} {H : Hp} {w w' : World} (h : HInv w0 W H w) (ho : w'.os = w.os) (ht : w'.tape = w.tape) (hu : w'.output = w.output)
    (hs : w.heap.size ≤ w'.heap.size) (hb : ∀ k, k < w.heap.size → w'.heap[k]? = w.heap[k]?) : HInv w0 W H w' :=
  ⟨⟨ho.trans h.keeps.os, ht.trans h.keeps.tape, hu.trans h.keeps.output, Nat.le_trans h.keeps.size hs,
      fun k hk hn => (hb k (Nat.lt_of_lt_of_le hk h.keeps.size)).trans (h.keeps.block k hk hn)⟩,
    ⟨fun c hc => Chunk.ok_of_block (h.hok.ok c hc) fun b hcb => hb b (Chunk.lt (h.hok.ok c hc) hcb), h.hok.apart⟩, h.new⟩
theorem HInv.drew {w0 : World} {W : Nat → Prop} {H : Hp} {w : World} (h : HInv w0 W H w) : HInv w0 W H { w with drawn := w.drawn + 1 } :=
  h.same rfl rfl rfl (Nat.le_refl _) fun _ _ => rfl
theorem HInv.garbage {w0 : World} {W : Nat → Prop} {H : Hp} {w : World} (h : HInv w0 W H w) (o : Obj) : HInv w0 W H (w.alloc o) :=
  h.same rfl rfl rfl (by simp) fun k hk => Below.heap_alloc w o k hk
theorem HInv.perm {w0 : World} {W : Nat → Prop} {H H' : Hp} {w : World} (h : HInv w0 W H w) (hp : H.Perm H') : HInv w0 W H' w :=
  ⟨h.keeps, ⟨fun c hc => h.hok.ok c (hp.mem_iff.2 hc), h.hok.apart.perm hp fun hxy => Chunk.apart_symm hxy⟩, fun c hc => h.new c (hp.mem_iff.2 hc)⟩
theorem HInv.drop {w0 : World} {W : Nat → Prop} {H H' : Hp} {w : World} (h : HInv w0 W H w) (hs : H'.Sublist H) : HInv w0 W H' w :=
  ⟨h.keeps, ⟨fun c hc => h.hok.ok c (hs.subset hc), h.hok.apart.sublist hs⟩, fun c hc => h.new c (hs.subset hc)⟩
/-- A new block. -/
theorem HInv.new_blk {w0 : World} {W : Nat → Prop} {H : Hp} {w : World} (h : HInv w0 W H w) (T : TypeId) (cs : List Value) :
    HInv w0 W (.blk w.heap.size T cs :: H) (w.alloc (.cells cs.toArray T)) := by
  have hg := h.garbage (.cells cs.toArray T)
  refine ⟨hg.keeps, ⟨fun c hc => ?_, List.pairwise_cons.2 ⟨fun d hd b hb hb' => ?_, hg.hok.apart⟩⟩, fun c hc b hb => ?_⟩
  · rcases List.mem_cons.1 hc with rfl | hc
    · exact heap_alloc_new w _
    · exact hg.hok.ok c hc
  · simp only [Chunk.block, Option.some.injEq] at hb
    subst hb
    exact absurd (Chunk.lt (h.hok.ok d hd) hb') (Nat.lt_irrefl _)
  · rcases List.mem_cons.1 hc with rfl | hc
    · simp only [Chunk.block, Option.some.injEq] at hb
      subst hb
      exact .inr h.keeps.size
    · exact hg.new c hc b hb
/-- The first chunk is turned into another one, at its own block or at a new one; every other block that was there stays. -/
theorem HInv.turn {w0 : World} {W : Nat → Prop} {H : Hp} {w w' : World} {c d : Chunk} (h : HInv w0 W (c :: H) w) (ho : w'.os = w.os) (ht : w'.tape = w.tape) (hu : w'.output = w.output)
    (hs : w.heap.size ≤ w'.heap.size) (hb : ∀ k, k < w.heap.size → c.block ≠ some k → w'.heap[k]? = w.heap[k]?) (hd : d.ok w')
    (hdb : ∀ b, d.block = some b → c.block = some b ∨ w.heap.size ≤ b) : HInv w0 W (d :: H) w' := by
  have hpw := List.pairwise_cons.1 h.hok.apart
  have hrest : ∀ e ∈ H, e.ok w' := fun e he => Chunk.ok_of_block (h.hok.ok e (List.mem_cons_of_mem _ he)) fun b heb =>
    hb b (Chunk.lt (h.hok.ok e (List.mem_cons_of_mem _ he)) heb) fun hcb => hpw.1 e he b hcb heb
  refine ⟨⟨ho.trans h.keeps.os, ht.trans h.keeps.tape, hu.trans h.keeps.output, Nat.le_trans h.keeps.size hs, fun k hk hn => ?_⟩,
    ⟨fun e he => ?_, List.pairwise_cons.2 ⟨fun e he b hb1 hb2 => ?_, hpw.2⟩⟩, fun e he b heb => ?_⟩
  · rw [hb k (Nat.lt_of_lt_of_le hk h.keeps.size) fun hcb => ?_]
    · exact h.keeps.block k hk hn
    · rcases h.new c List.mem_cons_self k hcb with hW | hge
      · exact hn hW
      · omega
  · rcases List.mem_cons.1 he with rfl | he
    · exact hd
    · exact hrest e he
  · rcases hdb b hb1 with hcb | hge
    · exact hpw.1 e he b hcb hb2
    · have := Chunk.lt (h.hok.ok e (List.mem_cons_of_mem _ he)) hb2
      omega
  · rcases List.mem_cons.1 he with rfl | he
    · rcases hdb b heb with hcb | hge
      · exact h.new c List.mem_cons_self b hcb
      · exact .inr (Nat.le_trans h.keeps.size hge)
    · exact h.new e (List.mem_cons_of_mem _ he) b heb
/-- A call's own part of the heap and the rest: what the call left is the whole again. -/
theorem HInv.frame {w0 : World} {W : Nat → Prop} {Hf Hr Ho : Hp} {w w' : World} (h : HInv w0 W (Hf ++ Hr) w) (hc : HInv w (blocks Hf) Ho w') : HInv w0 W (Ho ++ Hr) w' := by
  obtain ⟨p1, p2, p3⟩ := List.pairwise_append.1 h.hok.apart
  have hlt : ∀ c ∈ Hr, ∀ b, c.block = some b → b < w.heap.size := fun c hm b hb => Chunk.lt (h.hok.ok c (List.mem_append_right _ hm)) hb
  have hnot : ∀ c ∈ Hr, ∀ b, c.block = some b → ¬ blocks Hf b := fun c hm b hb ⟨d, hd, hdb⟩ => p3 d hd c hm b hdb hb
  refine ⟨⟨hc.keeps.os.trans h.keeps.os, hc.keeps.tape.trans h.keeps.tape, hc.keeps.output.trans h.keeps.output, Nat.le_trans h.keeps.size hc.keeps.size, fun k hk hn => ?_⟩,
    ⟨fun c hm => ?_, List.pairwise_append.2 ⟨hc.hok.apart, p2, fun d hd c hm b hb hb' => ?_⟩⟩, fun c hm b hb => ?_⟩
  · rw [hc.keeps.block k (Nat.lt_of_lt_of_le hk h.keeps.size) fun ⟨d, hd, hdb⟩ => ?_]
    · exact h.keeps.block k hk hn
    · rcases h.new d (List.mem_append_left _ hd) k hdb with hW | hge
      · exact hn hW
      · omega
  · rcases List.mem_append.1 hm with hm | hm
    · exact hc.hok.ok c hm
    · exact Chunk.ok_of_block (h.hok.ok c (List.mem_append_right _ hm)) fun b hb => hc.keeps.block b (hlt c hm b hb) (hnot c hm b hb)
  · rcases hc.new d hd b hb with hF | hge
    · exact hnot c hm b hb' hF
    · have := hlt c hm b hb'
      omega
  · rcases List.mem_append.1 hm with hm | hm
    · rcases hc.new c hm b hb with ⟨d, hd, hdb⟩ | hge
      · exact h.new d (List.mem_append_left _ hd) b hdb
      · exact .inr (Nat.le_trans h.keeps.size hge)
    · exact h.new c (List.mem_append_right _ hm) b hb
/-! ## Values -/
def adv : Option Addr → Nat → Option Addr
  | some a, k => some ⟨a.block, a.off + k, none⟩
  | none, _ => none
def vget (σ : Sl) (x : Operand) (K : Value → Prop) : Prop := match ev σ x with | some v => K v | none => False
def vgets (σ : Sl) : List Operand → (List Value → Prop) → Prop
  | [], K => K []
  | x :: r, K => vget σ x fun v => vgets σ r fun vs => K (v :: vs)
/-- a whole number of 64 bits: the sum is what it says -/
structure RngK (x : Int) (K : Prop) : Prop where
  lo : -9223372036854775808 ≤ x
  hi : x ≤ 9223372036854775807
  k : K
structure NzK (y : Int) (K : Prop) : Prop where
  nz : y ≠ 0
  k : K
structure NnK (y : Int) (K : Prop) : Prop where
  nn : 0 ≤ y
  k : K
/-- an index in its bounds -/
structure InK (i : Int) (len : Nat) (K : Prop) : Prop where
  lo : 0 ≤ i
  hi : i < len
  k : K
/-- the bounds of a slice: `0 ≤ l ≤ h ≤ m` -/
structure BdK (l h : Int) (m : Nat) (K : Prop) : Prop where
  lo : 0 ≤ l
  mid : l ≤ h
  hi : h ≤ m
  k : K
structure PickK (t : Bool) (a b : Value) (K : Value → Prop) : Prop where
  yes : t = true → K a
  no : t = false → K b
structure ValK (P : Program) (s : Sem Value) (K : Value → Prop) : Prop where
  ex : ∃ v, (∀ w, s.run P w = .ok v w) ∧ K v
def iand (k : IntKind) (x y : Int) : Int := k.wrap ((BitVec.ofInt k.bits x &&& BitVec.ofInt k.bits y).toNat)
def ior (k : IntKind) (x y : Int) : Int := k.wrap ((BitVec.ofInt k.bits x ||| BitVec.ofInt k.bits y).toNat)
def ixor (k : IntKind) (x y : Int) : Int := k.wrap ((BitVec.ofInt k.bits x ^^^ BitVec.ofInt k.bits y).toNat)
def ishl (k : IntKind) (x y : Int) : Int := k.wrap (x * 2 ^ (min y.toNat k.bits))
def ishr (k : IntKind) (x y : Int) : Int := x.fdiv (2 ^ (min y.toNat k.bits))
/-- `x` in kind `k`: asked to fit for 64 bits with a sign, wrapped else -/
def fitK (k : IntKind) (x : Int) (K : Value → Prop) : Prop :=
  match k with
  | .i64 => RngK x (K (.int .i64 x))
  | .i8 => K (.int .i8 (IntKind.i8.wrap x))
  | .i16 => K (.int .i16 (IntKind.i16.wrap x))
  | .i32 => K (.int .i32 (IntKind.i32.wrap x))
  | .u8 => K (.int .u8 (IntKind.u8.wrap x))
  | .u16 => K (.int .u16 (IntKind.u16.wrap x))
  | .u32 => K (.int .u32 (IntKind.u32.wrap x))
  | .u64 => K (.int .u64 (IntKind.u64.wrap x))
def sameK : IntKind → IntKind → Bool
  | .i8, .i8 | .i16, .i16 | .i32, .i32 | .i64, .i64 | .u8, .u8 | .u16, .u16 | .u32, .u32 | .u64, .u64 => true
  | _, _ => false
def intK (op : BinOp) (k : IntKind) (a b : Int) (K : Value → Prop) : Prop :=
  match op with
  | .add => fitK k (a + b) K
  | .sub => fitK k (a - b) K
  | .mul => fitK k (a * b) K
  | .quo => NzK b (fitK k (a.tdiv b) K)
  | .rem => NzK b (K (.int k (a.tmod b)))
  | .and => K (.int k (iand k a b))
  | .or => K (.int k (ior k a b))
  | .xor => K (.int k (ixor k a b))
  | .eql => K (.bool (a == b))
  | .neq => K (.bool (a != b))
  | .lss => K (.bool (decide (a < b)))
  | .leq => K (.bool (decide (a ≤ b)))
  | .gtr => K (.bool (decide (a > b)))
  | .geq => K (.bool (decide (a ≥ b)))
  | _ => False
def binK (P : Program) (op : BinOp) (t : TypeId) (x y : Operand) (vx vy : Value) (K : Value → Prop) : Prop :=
  match vx with
  | .int k a =>
    match vy with
    | .int k' b =>
      match op with
      | .shl => NnK b (K (.int k (ishl k a b)))
      | .shr => NnK b (K (.int k (ishr k a b)))
      | _ => match sameK k k' with
        | true => intK op k a b K
        | false => False
    | _ => False
  | _ => ValK P (do eqGuard op t x y vx vy; binOp op t vx vy) K
theorem sameK_eq {k k' : IntKind} (h : sameK k k' = true) : k = k' := by
  cases k <;> cases k' <;> first | rfl | cases h
theorem fitK_sound {k : IntKind} {x : Int} {K : Value → Prop} (h : fitK k x K) : K (.int k (k.wrap x)) := by
  cases k <;> simp only [fitK] at h <;> try exact h
  rw [IntWalk.i64_in x ⟨h.lo, h.hi⟩]
  exact h.k
def unK (op : UnOp) (v : Value) (K : Value → Prop) : Prop :=
  match v with
  | .int k n => match op with | .neg => fitK k (0 - n) K | _ => False
  | .bool b => match op with | .not => K (.bool !b) | _ => False
  | _ => False
def convK (P : Program) (s d : TypeId) (v : Value) (K : Value → Prop) : Prop :=
  match v with
  | .int _ n =>
    match P.underlying s with
    | some _ => match P.underlying d with | some (.int k) => fitK k n K | _ => False
    | none => False
  | _ => False
/-- how many cells a type has -/
def sizeK (P : Program) (t : TypeId) (K : Nat → Prop) : Prop :=
  match P.info? t with
  | some ⟨_, _, s, _, _, _, _, _, _, _⟩ => K s
  | none => False
def fieldK (P : Program) (s : TypeId) (v : Value) (f : Nat) (K : Value → Prop) : Prop :=
  match P.underlying s with
  | some (.struct fs) =>
    match fs[f]? with
    | some ⟨_, ft, fo, _, _, _, _⟩ => sizeK P ft fun s =>
      match Nat.beq s 0 with
      | true => False
      | false => match v with
        | .pointer (some ⟨b, o, none⟩) => K (.pointer (some ⟨b, o + fo, none⟩))
        | _ => False
    | none => False
  | _ => False
/-- a part of a value written out -/
def partK (P : Program) (t : TypeId) (cs : Array Value) (off : Nat) (K : Value → Prop) : Prop :=
  match P.underlying t with
  | some (.struct _) => sizeK P t fun s => K (.agg (cs.extract off (off + s)))
  | some (.array _ _) => sizeK P t fun s => K (.agg (cs.extract off (off + s)))
  | some _ => match cs[off]? with | some v => K v | none => False
  | none => False
/-- the address of an element: `A` is one, and the index lies in its bounds -/
structure InsK (A : Option Addr) (i : Int) (n : Nat) (K : Prop) : Prop where
  ad : 0 < n → ∃ b o, A = some ⟨b, o, none⟩
  lo : 0 ≤ i
  hi : i < n
  k : K
def mulK (i : Int) (s : Nat) (K : Nat → Prop) : Prop := match s with | 1 => K i.toNat | s => K (i.toNat * s)
def idxAddrK (P : Program) (t : TypeId) (x ix : Value) (K : Value → Prop) : Prop :=
  match ix with
  | .int _ i =>
    match P.underlying t with
    | some (.slice e) => sizeK P e fun s =>
      match x with
      | .slice A n _ => mulK i s fun k => InsK A i n (K (.pointer (adv A k)))
      | _ => False
    | some (.array n e) => sizeK P e fun s =>
      match x with
      | .pointer A => mulK i s fun k => InsK A i n (K (.pointer (adv A k)))
      | _ => False
    | _ => False
  | _ => False
/-- a byte of a text -/
structure StrK (s : ByteArray) (i : Int) (K : Value → Prop) : Prop where
  ex : ∃ b, 0 ≤ i ∧ s[i.toNat]? = some b ∧ K (.int .u8 (b.toNat : Int))
def idxK (P : Program) (t : TypeId) (x ix : Value) (K : Value → Prop) : Prop :=
  match ix with
  | .int _ i =>
    match P.underlying t with
    | some .string => match x with
      | .string s => StrK s i K
      | _ => False
    | some (.array n e) => sizeK P e fun s =>
      match x with
      | .agg cs => InK i n (partK P e cs (i.toNat * s) K)
      | _ => False
    | _ => False
  | _ => False
def boundK (d : Nat) (σ : Sl) (x : Option Operand) (K : Int → Prop) : Prop :=
  match x with
  | none => K d
  | some x => vget σ x fun v => match v with | .int _ i => K i | _ => False
/-- an address that is no place inside a cell -/
structure SpK (A : Option Addr) (l m : Nat) (K : Prop) : Prop where
  sp : m ≠ l → ∀ a, A = some a → a.spot = none
  k : K
/-- where a slice of a slice begins: at its own address if nothing is left -/
def cutA (A : Option Addr) (l m s : Nat) : Option Addr := if m = l then A else adv A (l * s)
def slcK (P : Program) (σ : Sl) (t : TypeId) (x : Operand) (lo hi mx : Option Operand) (K : Value → Prop) : Prop :=
  match mx with
  | some _ => False
  | none => vget σ x fun vx =>
    match P.underlying t with
    | some (.slice e) => sizeK P e fun s =>
      match vx with
      | .slice A n c => boundK n σ hi fun h => boundK 0 σ lo fun l =>
          BdK l h c (SpK A l.toNat c (K (.slice (cutA A l.toNat c s) (h.toNat - l.toNat) (c - l.toNat))))
      | _ => False
    | some (.array n e) => sizeK P e fun s =>
      match vx with
      | .pointer (some ⟨b, o, none⟩) => boundK n σ hi fun h => boundK 0 σ lo fun l =>
          BdK l h n (K (.slice (cutA (some ⟨b, o, none⟩) l.toNat n s) (h.toNat - l.toNat) (n - l.toNat)))
      | _ => False
    | _ => False
def minK (vs : List Value) (K : Value → Prop) : Prop :=
  match vs with
  | [.int k x, .int _ y] => K (.int k (if y < x then y else x))
  | _ => False
def maxK (vs : List Value) (K : Value → Prop) : Prop :=
  match vs with
  | [.int k x, .int _ y] => K (.int k (if y > x then y else x))
  | _ => False
def lenK (P : Program) (ts : Array TypeId) (vs : List Value) (K : Value → Prop) : Prop :=
  match ts[0]? with
  | some t => match P.underlying t with
    | some (.slice _) => match vs with | [.slice _ n _] => K (.int .i64 n) | _ => False
    | some (.array n _) => match vs with | [_] => K (.int .i64 n) | _ => False
    | _ => False
  | none => False
def capK (P : Program) (ts : Array TypeId) (vs : List Value) (K : Value → Prop) : Prop :=
  match ts[0]? with
  | some t => match P.underlying t with
    | some (.slice _) => match vs with | [.slice _ _ c] => K (.int .i64 c) | _ => False
    | _ => False
  | none => False
def zip1 : List (Nat × Operand) → List Value → List (Nat × Value)
  | (i, _) :: r, v :: vs => (i, v) :: zip1 r vs
  | _, _ => []
theorem zip1_eq (ps : List (Nat × Operand)) (ρ : Operand → Value) : zip1 ps ((ps.map (·.2)).map ρ) = ps.map fun (i, x) => (i, ρ x) := by
  induction ps with
  | nil => rfl
  | cons p r ih => obtain ⟨i, x⟩ := p; simp only [List.map_cons, zip1, ih]
/-- operations that look at no memory and write none -/
def pureOp (P : Program) (σ : Sl) (op : Op) (K : Value → Prop) : Prop :=
  match op with
  | .move x => vget σ x K
  | .assign x => vget σ x K
  | .build t ps => vgets σ (ps.toList.map (·.2)) fun vs => ValK P (Instr.build t (zip1 ps.toList vs).toArray) K
  | .pick c a b => vget σ c fun vc => match vc with
    | .bool t => vget σ a fun va => vget σ b fun vb => PickK t va vb K
    | _ => False
  | .nilCheck x => vget σ x fun v => match v with | .pointer (some a) => K (.pointer (some a)) | _ => False
  | .binOp op t x y _ => vget σ x fun vx => vget σ y fun vy => binK P op t x y vx vy K
  | .unOp op _ x => vget σ x fun v => unK op v K
  | .convert s d x => vget σ x fun v => convK P s d v K
  | .makeInterface t x => vget σ x fun v => match P.underlying t with
    | some (.interface _) => False
    | some _ => K (.iface t v)
    | none => False
  | .makeFunc fn first captured => vgets σ first.toList fun f => vgets σ captured.toList fun c => K (.func fn f.toArray c.toArray)
  | .slice t x lo hi mx => slcK P σ t x lo hi mx K
  | .fieldAddr s x f => vget σ x fun v => fieldK P s v f K
  | .field t x f => vget σ x fun v => match v with
    | .agg cs => match P.underlying t with
      | some (.struct fs) => match fs[f]? with
        | some ⟨_, ft, fo, _, _, _, _⟩ => partK P ft cs fo K
        | none => False
      | _ => False
    | _ => False
  | .indexAddr t x i => vget σ x fun vx => vget σ i fun vi => idxAddrK P t vx vi K
  | .index t x i => vget σ x fun vx => vget σ i fun vi => idxK P t vx vi K
  | .extract x i => vget σ x fun v => match v with
    | .tuple vs => match vs[i]? with | some u => K u | none => False
    | _ => False
  | .call c => match c.callee with
    | .builtin .len => vgets σ c.args.toList fun vs => lenK P c.argTypes vs K
    | .builtin .cap => vgets σ c.args.toList fun vs => capK P c.argTypes vs K
    | .builtin .min => vgets σ c.args.toList fun vs => minK vs K
    | .builtin .max => vgets σ c.args.toList fun vs => maxK vs K
    | _ => False
  | _ => False

section sound
variable {P : Program} {n : Nat} {σ : Sl} {a : Act}
theorem vget_sound {x : Operand} {K : Value → Prop} (hr : Rep n σ a) (h : vget σ x K) : K (a.eval x) := by
  unfold vget at h
  split at h
  · rename_i v hv
    rw [hr.ev hv]; exact h
  · exact h.elim
theorem vgets_sound {xs : List Operand} {K : List Value → Prop} (hr : Rep n σ a) (h : vgets σ xs K) : K (xs.map a.eval) := by
  induction xs generalizing K with
  | nil => exact h
  | cons x r ih =>
    have h1 := vget_sound hr h
    exact ih h1
theorem sizeK_sound {t : TypeId} {K : Nat → Prop} (h : sizeK P t K) : ∃ i, P.info? t = some i ∧ K i.size := by
  unfold sizeK at h
  split at h
  · rename_i hi; exact ⟨_, hi, h⟩
  · exact h.elim
theorem run_sizeOf {t : TypeId} {i : TypeInfo} (h : P.info? t = some i) (w : World) : (sizeOf t).run P w = .ok i.size w := by
  simp [sizeOf, typeInfo, h]
theorem adv_some (b o k : Nat) : adv (some ⟨b, o, none⟩) k = some ((⟨b, o, none⟩ : Addr).add k) := by
  simp only [adv, Addr.add]; split <;> simp_all
theorem mulK_sound {i : Int} {s : Nat} {K : Nat → Prop} (h : mulK i s K) : K (i.toNat * s) := by
  unfold mulK at h; split at h
  · simpa using h
  · exact h
theorem binK_sound {op : BinOp} {t : TypeId} {x y : Operand} {vx vy : Value} {K : Value → Prop} (h : binK P op t x y vx vy K) :
    ∃ v, (∀ w, (do eqGuard op t x y vx vy; binOp op t vx vy : Sem Value).run P w = .ok v w) ∧ K v := by
  unfold binK at h
  split at h
  · rename_i k a
    split at h
    · rename_i k' b
      have hg : ∀ w, (eqGuard op t x y (.int k a) (.int k' b)).run P w = .ok () w := by
        intro w; unfold eqGuard; cases op <;> rfl
      split at h
      · refine ⟨_, fun w => ?_, h.k⟩
        have := h.nn
        simp only [Sem.run_bind, hg, Result.andThen_ok, binOp, Op.shift]
        rw [if_neg (by omega)]; rfl
      · refine ⟨_, fun w => ?_, h.k⟩
        have := h.nn
        simp only [Sem.run_bind, hg, Result.andThen_ok, binOp, Op.shift]
        rw [if_neg (by omega)]; rfl
      · rename_i hns hnr
        split at h
        · rename_i hs
          have := sameK_eq hs
          subst this
          cases op <;> simp only [intK] at h
          case add => exact ⟨_, fun w => by simp only [Sem.run_bind, hg, Result.andThen_ok]; simp [binOp, Op.intArith], fitK_sound h⟩
          case sub => exact ⟨_, fun w => by simp only [Sem.run_bind, hg, Result.andThen_ok]; simp [binOp, Op.intArith], fitK_sound h⟩
          case mul => exact ⟨_, fun w => by simp only [Sem.run_bind, hg, Result.andThen_ok]; simp [binOp, Op.intArith], fitK_sound h⟩
          case quo => exact ⟨_, fun w => by simp only [Sem.run_bind, hg, Result.andThen_ok]; simp [binOp, Op.intDiv, h.nz], fitK_sound h.k⟩
          case rem => exact ⟨_, fun w => by simp only [Sem.run_bind, hg, Result.andThen_ok]; simp [binOp, Op.intDiv, h.nz], h.k⟩
          case and => exact ⟨_, fun w => by simp only [Sem.run_bind, hg, Result.andThen_ok]; simp [binOp, Op.intBits, iand], h⟩
          case or => exact ⟨_, fun w => by simp only [Sem.run_bind, hg, Result.andThen_ok]; simp [binOp, Op.intBits, ior], h⟩
          case xor => exact ⟨_, fun w => by simp only [Sem.run_bind, hg, Result.andThen_ok]; simp [binOp, Op.intBits, ixor], h⟩
          case eql => exact ⟨_, fun w => by simp only [Sem.run_bind, hg, Result.andThen_ok]; simp [binOp, Op.intCmp], h⟩
          case neq => exact ⟨_, fun w => by simp only [Sem.run_bind, hg, Result.andThen_ok]; simp [binOp, Op.intCmp], h⟩
          case lss => exact ⟨_, fun w => by simp only [Sem.run_bind, hg, Result.andThen_ok]; simp [binOp, Op.intCmp], h⟩
          case leq => exact ⟨_, fun w => by simp only [Sem.run_bind, hg, Result.andThen_ok]; simp [binOp, Op.intCmp], h⟩
          case gtr => exact ⟨_, fun w => by simp only [Sem.run_bind, hg, Result.andThen_ok]; simp [binOp, Op.intCmp], h⟩
          case geq => exact ⟨_, fun w => by simp only [Sem.run_bind, hg, Result.andThen_ok]; simp [binOp, Op.intCmp], h⟩
        · exact h.elim
    · exact h.elim
  · exact h.ex

theorem unK_sound {op : UnOp} {v : Value} {K : Value → Prop} (h : unK op v K) : ∃ u, (∀ w, (Op.unary op v).run P w = .ok u w) ∧ K u := by
  unfold unK at h
  split at h
  · split at h
    · exact ⟨_, fun w => by simp [Op.unary, Op.intArith], fitK_sound h⟩
    · exact h.elim
  · split at h
    · exact ⟨_, fun w => by simp [Op.unary], h⟩
    · exact h.elim
  · exact h.elim
theorem convK_sound {s d : TypeId} {v : Value} {K : Value → Prop} (h : convK P s d v K) : ∃ u, (∀ w, (convert s d v).run P w = .ok u w) ∧ K u := by
  unfold convK at h
  split at h
  · split at h
    · rename_i ds hs
      split at h
      · rename_i k hd
        refine ⟨_, fun w => ?_, fitK_sound h⟩
        simp only [convert, Sem.run_bind, run_underlying hs, run_underlying hd, Result.andThen_ok]
        rfl
      · exact h.elim
    · exact h.elim
  · exact h.elim
theorem fieldK_sound {s : TypeId} {v : Value} {f : Nat} {K : Value → Prop} (h : fieldK P s v f K) : ∃ u, (∀ w, (Instr.fieldAt s v f).run P w = .ok u w) ∧ K u := by
  unfold fieldK at h
  split at h
  · rename_i fs hs
    split at h
    · rename_i hf
      obtain ⟨i, hi, h⟩ := sizeK_sound h
      split at h
      · exact h.elim
      · rename_i hb
        split at h
        · refine ⟨_, fun w => ?_, h⟩
          have hz : i.size ≠ 0 := fun e => by rw [e] at hb; cases hb
          simp [Instr.fieldAt, run_underlying hs, hf, Instr.sureAddr, fieldPlace, run_sizeOf hi, hz, Addr.add]
        · exact h.elim
    · exact h.elim
  · exact h.elim
theorem partK_sound {t : TypeId} {cs : Array Value} {off : Nat} {K : Value → Prop} (h : partK P t cs off K) : ∃ u, (∀ w, (part t cs off).run P w = .ok u w) ∧ K u := by
  unfold partK at h
  split at h
  · rename_i hs
    obtain ⟨i, hi, h⟩ := sizeK_sound h
    exact ⟨_, fun w => by simp [part, isAgg, run_underlying hs, run_sizeOf hi], h⟩
  · rename_i hs
    obtain ⟨i, hi, h⟩ := sizeK_sound h
    exact ⟨_, fun w => by simp [part, isAgg, run_underlying hs, run_sizeOf hi], h⟩
  · rename_i d hn1 hn2 hs
    split at h
    · rename_i v hv
      refine ⟨_, fun w => ?_, h⟩
      have : (isAgg t).run P w = .ok false w := by
        simp only [isAgg, Sem.run_bind, run_underlying hs, Result.andThen_ok]
        cases d <;> first | rfl | exact absurd rfl (hn1 _) | exact absurd rfl (hn2 _ _)
      simp [part, this, hv]
    · exact h.elim
  · exact h.elim
theorem idxAddrK_sound {t : TypeId} {x ix : Value} {K : Value → Prop} (h : idxAddrK P t x ix K) : ∃ u, (∀ w, (Instr.indexAt t x ix).run P w = .ok u w) ∧ K u := by
  unfold idxAddrK at h
  split at h
  · split at h
    · rename_i i e ht
      obtain ⟨inf, hi, h⟩ := sizeK_sound h
      split at h
      · have h := mulK_sound h
        obtain ⟨b, o, rfl⟩ := h.ad (by have := h.lo; have := h.hi; omega)
        refine ⟨_, fun w => ?_, h.k⟩
        rw [adv_some]
        simp [Instr.indexAt, asIntOf, run_underlying ht, h.lo, h.hi, run_sizeOf hi]
      · exact h.elim
    · rename_i i n e ht
      obtain ⟨inf, hi, h⟩ := sizeK_sound h
      split at h
      · have h := mulK_sound h
        obtain ⟨b, o, rfl⟩ := h.ad (by have := h.lo; have := h.hi; omega)
        refine ⟨_, fun w => ?_, h.k⟩
        rw [adv_some]
        simp [Instr.indexAt, asIntOf, run_underlying ht, h.lo, h.hi, run_sizeOf hi, Instr.sureAddr]
      · exact h.elim
    · exact h.elim
  · exact h.elim
theorem idxK_sound {t : TypeId} {x ix : Value} {K : Value → Prop} (h : idxK P t x ix K) : ∃ u, (∀ w, (Instr.index t x ix).run P w = .ok u w) ∧ K u := by
  unfold idxK at h
  split at h
  · split at h
    · rename_i i ht
      split at h
      · obtain ⟨b, h0, hb, hk⟩ := h
        refine ⟨_, fun w => ?_, hk⟩
        simp only [Instr.index, asIntOf, Sem.run_bind, Sem.run_pure, Result.andThen_ok, run_underlying ht, if_pos h0, hb]
      · exact h.elim
    · rename_i i n e ht
      obtain ⟨inf, hi, h⟩ := sizeK_sound h
      split at h
      · obtain ⟨u, hu, hk⟩ := partK_sound h.k
        refine ⟨u, fun w => ?_, hk⟩
        simp [Instr.index, asIntOf, run_underlying ht, h.lo, h.hi, run_sizeOf hi, hu]
      · exact h.elim
    · exact h.elim
  · exact h.elim
theorem boundK_sound {d : Nat} {x : Option Operand} {K : Int → Prop} (hr : Rep n σ a) (h : boundK d σ x K) :
    (x = none ∧ K d) ∨ ∃ y k i, x = some y ∧ a.eval y = .int k i ∧ K i := by
  unfold boundK at h
  split at h
  · exact .inl ⟨rfl, h⟩
  · rename_i y
    have h := vget_sound hr h
    split at h
    · rename_i k i he
      exact .inr ⟨y, k, i, rfl, he, h⟩
    · exact h.elim
theorem run_sliceBound {x : Value} {k : IntKind} {i : Int} (hx : x = .int k i) {y : Nat} (h0 : 0 ≤ i) (h1 : i ≤ y) (c : BoundsCode) (w : World) : (Instr.sliceBound x y c).run P w = .ok i.toNat w := by
  subst hx
  simp [Instr.sliceBound, asIntOf, h0, h1]
theorem run_sliceBounds {isS : Bool} {len cap : Nat} {lo hi : Option Operand} {l h : Int} (hl : (lo = none ∧ l = 0) ∨ ∃ y k, lo = some y ∧ a.eval y = .int k l)
    (hh : (hi = none ∧ h = len) ∨ ∃ y k, hi = some y ∧ a.eval y = .int k h) (h0 : 0 ≤ l) (h1 : l ≤ h) (h2 : h ≤ cap) (w : World) :
    (Instr.sliceBounds isS len cap (lo.map a.eval) (hi.map a.eval) none).run P w = .ok (l.toNat, h.toNat, cap) w := by
  have hb : ∀ c, (0 : Int) ≤ h ∧ True := fun _ => ⟨by omega, trivial⟩
  rcases hh with ⟨rfl, rfl⟩ | ⟨y, k, rfl, hy⟩ <;> rcases hl with ⟨rfl, rfl⟩ | ⟨z, k', rfl, hz⟩
  · simp [Instr.sliceBounds]
  · simp [Instr.sliceBounds, run_sliceBound (P := P) hz h0 h1]
  · simp [Instr.sliceBounds, run_sliceBound (P := P) hy (by omega) h2]
  · have : (l : Int) ≤ (h.toNat : Int) := by omega
    simp [Instr.sliceBounds, run_sliceBound (P := P) hy (by omega) h2, run_sliceBound (P := P) hz h0 this]
theorem cutA_eq {A : Option Addr} {l m : Nat} (hA : m ≠ l → ∀ a, A = some a → a.spot = none) (s : Nat) : cutA A l m s = if m = l then A else A.map (·.add (l * s)) := by
  unfold cutA
  split
  · rfl
  · rename_i hml
    cases A with
    | none => rfl
    | some ad =>
      obtain ⟨b, o, sp⟩ := ad
      have := hA hml _ rfl
      simp only at this
      subst this
      rw [adv_some]; rfl
theorem slcK_sound {t : TypeId} {x : Operand} {lo hi mx : Option Operand} {K : Value → Prop} (hr : Rep n σ a) (h : slcK P σ t x lo hi mx K) :
    ∃ u, (∀ w, (Instr.sliceAt t (a.eval x) (lo.map a.eval) (hi.map a.eval) (mx.map a.eval)).run P w = .ok u w) ∧ K u := by
  unfold slcK at h
  split at h
  · exact h.elim
  · have h := vget_sound hr h
    split at h
    · rename_i e ht
      obtain ⟨inf, hi', h⟩ := sizeK_sound h
      split at h
      · rename_i A ln cp he
        rcases boundK_sound hr h with ⟨h1, h⟩ | ⟨y, k, i, h1, h1', h⟩ <;> rcases boundK_sound hr h with ⟨h2, h⟩ | ⟨z, k', i', h2, h2', h⟩ <;>
        · refine ⟨_, fun w => ?_, h.k.k⟩
          rw [he, cutA_eq h.k.sp]
          have := h.lo; have := h.mid; have := h.hi
          simp only [Instr.sliceAt, Instr.slice, Sem.run_bind, run_underlying ht, Result.andThen_ok, Option.map_none]
          rw [run_sliceBounds (P := P) (a := a) (by first | exact .inl ⟨h2, rfl⟩ | exact .inr ⟨_, _, h2, h2'⟩) (by first | exact .inl ⟨h1, rfl⟩ | exact .inr ⟨_, _, h1, h1'⟩) (by assumption) (by assumption) (by assumption)]
          simp [run_sizeOf hi']
      · exact h.elim
    · rename_i nn e ht
      obtain ⟨inf, hi', h⟩ := sizeK_sound h
      split at h
      · rename_i b o he
        rcases boundK_sound hr h with ⟨h1, h⟩ | ⟨y, k, i, h1, h1', h⟩ <;> rcases boundK_sound hr h with ⟨h2, h⟩ | ⟨z, k', i', h2, h2', h⟩ <;>
        · refine ⟨_, fun w => ?_, h.k⟩
          rw [he, cutA_eq (by rintro _ _ ⟨⟩; rfl)]
          have := h.lo; have := h.mid; have := h.hi
          simp only [Instr.sliceAt, Instr.sureAddr, Sem.run_bind, run_underlying ht, Result.andThen_ok, Option.map_none, Sem.run_pure]
          rw [run_sliceBounds (P := P) (a := a) (by first | exact .inl ⟨h2, rfl⟩ | exact .inr ⟨_, _, h2, h2'⟩) (by first | exact .inl ⟨h1, rfl⟩ | exact .inr ⟨_, _, h1, h1'⟩) (by assumption) (by assumption) (by assumption)]
          simp [run_sizeOf hi']
          split <;> simp_all
      · exact h.elim
    · exact h.elim
theorem pureOp_sound {o : Oper} {K : Value → Prop} (hr : Rep n σ a) (h : pureOp P σ o.op K) :
    ∃ v, (∀ w, (execOp a.eval o).run P w = .ok (.value v) w) ∧ K v := by
  obtain ⟨dst, op, ty, pos, after, guard⟩ := o
  have lift : ∀ {s : Sem Value} {K : Value → Prop}, (∃ v, (∀ w, s.run P w = .ok v w) ∧ K v) → ∃ v, (∀ w, (do pure (.value (← s)) : Sem Next).run P w = .ok (.value v) w) ∧ K v :=
    fun ⟨v, h1, h2⟩ => ⟨v, fun w => by simp [h1], h2⟩
  simp only at h
  cases op <;> simp only [pureOp] at h <;> simp only [execOp]
  case move x => exact ⟨_, fun w => rfl, vget_sound hr h⟩
  case assign x => exact ⟨_, fun w => rfl, vget_sound hr h⟩
  case build t ps =>
    obtain ⟨v, hv, hk⟩ := (vgets_sound hr h).ex
    rw [zip1_eq] at hv
    have : (ps.map fun (i, x) => (i, a.eval x)) = (ps.toList.map fun (i, x) => (i, a.eval x)).toArray := Array.toList_inj.1 (by simp)
    exact lift ⟨v, fun w => by rw [this]; exact hv w, hk⟩
  case pick c x y =>
    have h := vget_sound hr h
    split at h
    · rename_i t he
      have h := vget_sound hr (vget_sound hr h)
      refine ⟨if t then a.eval x else a.eval y, fun w => by simp [he, asBool], ?_⟩
      cases t
      · exact h.no rfl
      · exact h.yes rfl
    · exact h.elim
  case nilCheck x =>
    have h := vget_sound hr h
    split at h
    · rename_i ad he
      exact ⟨_, fun w => by simp only [he]; rfl, h⟩
    · exact h.elim
  case binOp op t x y yt =>
    exact lift (binK_sound (vget_sound hr (vget_sound hr h)))
  case unOp op t x => exact lift (unK_sound (vget_sound hr h))
  case convert s d x => exact lift (convK_sound (vget_sound hr h))
  case makeInterface t x =>
    have h := vget_sound hr h
    split at h
    · exact h.elim
    · rename_i d hn ht
      refine lift ⟨_, fun w => ?_, h⟩
      simp only [Instr.makeInterface, Sem.run_bind, run_underlying ht, Result.andThen_ok]
      cases d <;> first | rfl | exact absurd rfl (hn _)
    · exact h.elim
  case makeFunc fn first captured =>
    refine lift ⟨_, fun w => ?_, vgets_sound hr (vgets_sound hr h)⟩
    simp only [Instr.makeFunc, Sem.run_pure]
    congr 2 <;> exact Array.toList_inj.1 (by simp)
  case slice t x lo hi mx => exact lift (slcK_sound hr h)
  case fieldAddr s x f => exact lift (fieldK_sound (vget_sound hr h))
  case field t x f =>
    have h := vget_sound hr h
    split at h
    · rename_i cs he
      split at h
      · rename_i fs ht
        split at h
        · rename_i hf
          obtain ⟨u, hu, hk⟩ := partK_sound h
          exact lift ⟨u, fun w => by simp [Instr.field, run_underlying ht, hf, he, asAgg, hu], hk⟩
        · exact h.elim
      · exact h.elim
    · exact h.elim
  case indexAddr t x i => exact lift (idxAddrK_sound (vget_sound hr (vget_sound hr h)))
  case index t x i => exact lift (idxK_sound (vget_sound hr (vget_sound hr h)))
  case extract x i =>
    have h := vget_sound hr h
    split at h
    · rename_i vs he
      split at h
      · rename_i u hu
        exact lift ⟨u, fun w => by simp [Instr.extract, he, hu], h⟩
      · exact h.elim
    · exact h.elim
  case call c =>
    obtain ⟨callee, args, ts⟩ := c
    have hargs : args.map a.eval = (args.toList.map a.eval).toArray := Array.toList_inj.1 (by simp)
    split at h
    · rename_i hc
      simp only at hc; subst hc
      have h := vgets_sound hr h
      simp only [resolve, Sem.run_bind, Sem.run_pure, Result.andThen_ok, invoke, builtin, hargs]
      generalize args.toList.map a.eval = vs at h ⊢
      unfold lenK at h
      split at h
      · rename_i t ht
        simp only at ht
        split at h
        · rename_i e hu
          split at h
          · exact ⟨_, fun w => by simp [Builtin.len_, ht, run_underlying hu, goInt], h⟩
          · exact h.elim
        · rename_i hu
          split at h
          · rename_i v
            exact ⟨_, fun w => by simp [Builtin.len_, ht, run_underlying hu, goInt], h⟩
          · exact h.elim
        · exact h.elim
      · exact h.elim
    · rename_i hc
      simp only at hc; subst hc
      have h := vgets_sound hr h
      simp only [resolve, Sem.run_bind, Sem.run_pure, Result.andThen_ok, invoke, builtin, hargs]
      generalize args.toList.map a.eval = vs at h ⊢
      unfold capK at h
      split at h
      · rename_i t ht
        simp only at ht
        split at h
        · rename_i e hu
          split at h
          · exact ⟨_, fun w => by simp [Builtin.cap_, ht, run_underlying hu, goInt], h⟩
          · exact h.elim
        · exact h.elim
      · exact h.elim
    · rename_i hc
      simp only at hc; subst hc
      have h := vgets_sound hr h
      simp only [resolve, Sem.run_bind, Sem.run_pure, Result.andThen_ok, invoke, builtin, hargs]
      generalize args.toList.map a.eval = vs at h ⊢
      unfold minK at h
      split at h
      · exact ⟨_, fun w => by simp [Builtin.min_, Builtin.min2], h⟩
      · exact h.elim
    · rename_i hc
      simp only at hc; subst hc
      have h := vgets_sound hr h
      simp only [resolve, Sem.run_bind, Sem.run_pure, Result.andThen_ok, invoke, builtin, hargs]
      generalize args.toList.map a.eval = vs at h ⊢
      unfold maxK at h
      split at h
      · exact ⟨_, fun w => by simp [Builtin.max_, Builtin.max2], h⟩
      · exact h.elim
    · exact h.elim
end sound
/-! ## Operations that look at memory, or write it -/
section
variable (P : Program) (n : Nat) (w0 : World) (W : Nat → Prop)
structure LdK (H : Hp) (t : TypeId) (p : Option Addr) (K : Value → Prop) : Prop where
  ex : ∃ v, (∀ w, HInv w0 W H w → (Instr.loadAt t (.pointer p)).run P w = .ok v w) ∧ K v
structure StK (H : Hp) (t : TypeId) (p : Option Addr) (v : Value) (K : Hp → Prop) : Prop where
  ex : ∃ H', (∀ w, HInv w0 W H w → ∃ w', (Instr.storeAt t (.pointer p) v).run P w = .ok () w' ∧ HInv w0 W H' w') ∧ K H'
/-- an operation that may write, and make blocks -/
structure EffK (H : Hp) (s : Sem Value) (K : Value → Hp → Prop) : Prop where
  ex : ∀ w, HInv w0 W H w → ∃ v w' H', s.run P w = .ok v w' ∧ HInv w0 W H' w' ∧ K v H'
structure CallK (H : Hp) (f : FuncId) (args : List Value) (K : Value → Hp → Prop) : Prop where
  ex : ∀ w, HInv w0 W H w → Calls P f args.toArray w fun e w' => ∃ v H', e = .returned v ∧ HInv w0 W H' w' ∧ K v H'
/-- new cells of a type -/
structure NewK (e : TypeId) (K : List Value → Prop) : Prop where
  ex : ∃ i z, P.info? e = some i ∧ i.zero = some z ∧ K z.cells.toList
/-- 0: looks at no memory; 1: reads; 2: may write, or calls -/
def kd : Op → Nat
  | .load .. => 1
  | .alloc .. | .box .. | .buildSlice .. | .makeSlice .. | .store .. => 2
  | .call { callee := .builtin .cap, .. } | .call { callee := .builtin .len, .. } | .call { callee := .builtin .min, .. } | .call { callee := .builtin .max, .. } => 0
  | .call .. => 2
  | _ => 0
/-- a value whose head is written out -/
def headK (v : Value) (K : Value → Prop) : Prop :=
  match v with
  | .bool b => K (.bool b)
  | .int k n => K (.int k n)
  | .slice a n c => K (.slice a n c)
  | .pointer a => K (.pointer a)
  | .nilIface => K .nilIface
  | .iface t v => K (.iface t v)
  | .string s => K (.string s)
  | .nilFunc => K .nilFunc
  | .func f a b => K (.func f a b)
  | .map r => K (.map r)
  | .chan r => K (.chan r)
  | .float k b => K (.float k b)
  | .complex k a b => K (.complex k a b)
  | .agg cs => K (.agg cs)
  | .tuple vs => K (.tuple vs)
def listK : List Value → (List Value → Prop) → Prop
  | [], K => K []
  | v :: r, K => headK v fun v => listK r fun r => K (v :: r)
def effOp (σ : Sl) (H : Hp) (op : Op) (ty : TypeId) (K : Value → Hp → Prop) : Prop :=
  match op with
  | .alloc e => NewK P e fun cs => ∀ b, K (.pointer (some ⟨b, 0, none⟩)) (.blk b e cs :: H)
  | .box e x => vget σ x fun v => listK v.cells.toList fun cs => ∀ b, K (.pointer (some ⟨b, 0, none⟩)) (.blk b e cs :: H)
  | .build t ps => vgets σ (ps.toList.map (·.2)) fun vs => ValK P (Instr.build t (zip1 ps.toList vs).toArray) fun v => K v H
  | .buildSlice t len ps => vgets σ (ps.toList.map (·.2)) fun vs => EffK P w0 W H (Instr.buildSlice t len (zip1 ps.toList vs).toArray) K
  | .makeSlice t l c => vget σ l fun vl => vget σ c fun vc => EffK P w0 W H (Instr.makeSlice t vl vc) K
  | .store t p x => vget σ p fun vp => vget σ x fun v => match vp with
    | .pointer p => StK P w0 W H t p v fun H' => K undef H'
    | _ => False
  | .call c => match c.callee with
    | .builtin .append => vgets σ c.args.toList fun vs => EffK P w0 W H (Builtin.append_ c.argTypes ty vs.toArray) K
    | .builtin .copy => vgets σ c.args.toList fun vs => EffK P w0 W H (Builtin.copy_ c.argTypes ty vs.toArray) K
    | .builtin .clear => vgets σ c.args.toList fun vs => EffK P w0 W H (Builtin.clear_ c.argTypes ty vs.toArray) K
    | .value f => vget σ f fun vf => vgets σ c.args.toList fun vs => match vf with
      | .func (.func g) first captured => match P.funcs[g]? with
        | some fn => match fn.body.isNone with
          | false => match fn.name == "runtime.NumGoroutine" with
            | false => match first.toList, captured.toList with
              | [], [] => CallK P w0 W H g vs K
              | fs, cs => CallK P w0 W H g (fs ++ vs ++ cs) K
            | true => False
          | true => False
        | none => False
      | _ => False
    | _ => False
  | _ => False
/-- what an operation comes to: a value, or a call -/
def OpsTo (o : Oper) (a : Act) (w : World) (K : Value → Hp → Prop) : Prop :=
  (∃ v w' H', (execOp a.eval o).run P w = .ok (.value v) w' ∧ HInv w0 W H' w' ∧ K v H') ∨
  (∃ w' H', (execOp a.eval o).run P w = .ok .skip w' ∧ HInv w0 W H' w' ∧ K undef H') ∨
  (∃ f args, (execOp a.eval o).run P w = .ok (.enter f args) w ∧ Calls P f args w fun e w' => ∃ v H', e = .returned v ∧ HInv w0 W H' w' ∧ K v H')
end
section sound
variable {P : Program} {n : Nat} {w0 : World} {W : Nat → Prop} {σ : Sl} {a : Act}
theorem headK_sound {v : Value} {K : Value → Prop} (h : headK v K) : K v := by
  cases v <;> exact h
theorem listK_sound {l : List Value} {K : List Value → Prop} (h : listK l K) : K l := by
  induction l generalizing K with
  | nil => exact h
  | cons v r ih => exact ih (headK_sound h)
theorem effOp_sound {o : Oper} {H : Hp} {K : Value → Hp → Prop} (hr : Rep n σ a) {w : World} (hw : HInv w0 W H w) (h : effOp P w0 W σ H o.op o.type K) :
    OpsTo P w0 W o a w K := by
  obtain ⟨dst, op, ty, pos, after, guard⟩ := o
  have lift : ∀ {s : Sem Value}, (∃ v w' H', s.run P w = .ok v w' ∧ HInv w0 W H' w' ∧ K v H') →
      ∃ v w' H', (do pure (.value (← s)) : Sem Next).run P w = .ok (.value v) w' ∧ HInv w0 W H' w' ∧ K v H' :=
    fun ⟨v, w', H', h1, h2, h3⟩ => ⟨v, w', H', by simp [h1], h2, h3⟩
  simp only at h
  cases op <;> simp only [effOp] at h <;> simp only [OpsTo, execOp]
  case alloc e =>
    obtain ⟨i, z, hi, hz, hk⟩ := h
    refine .inl (lift ⟨_, _, _, ?_, hw.new_blk e z.cells.toList, hk _⟩)
    simp [Instr.alloc, zeroValue, typeInfo, hi, hz, newVar, newRow]
  case box e x =>
    have hk := listK_sound (vget_sound hr h)
    refine .inl (lift ⟨_, _, _, ?_, hw.new_blk e (a.eval x).cells.toList, hk _⟩)
    simp [Instr.box, newVar, newRow]
  case build t ps =>
    obtain ⟨v, hv, hk⟩ := (vgets_sound hr h).ex
    rw [zip1_eq] at hv
    have : (ps.map fun (i, x) => (i, a.eval x)) = (ps.toList.map fun (i, x) => (i, a.eval x)).toArray := Array.toList_inj.1 (by simp)
    exact .inl (lift ⟨v, w, H, by rw [this]; exact hv w, hw, hk⟩)
  case buildSlice t len ps =>
    have h := (vgets_sound hr h).ex w hw
    rw [zip1_eq] at h
    have : (ps.map fun (i, x) => (i, a.eval x)) = (ps.toList.map fun (i, x) => (i, a.eval x)).toArray := Array.toList_inj.1 (by simp)
    rw [this]
    exact .inl (lift h)
  case makeSlice t l c => exact .inl (lift ((vget_sound hr (vget_sound hr h)).ex w hw))
  case store t p x =>
    have h := vget_sound hr (vget_sound hr h)
    split at h
    · rename_i p' he
      obtain ⟨H', h1, hk⟩ := h.ex
      obtain ⟨w', hrun, hinv⟩ := h1 w hw
      rw [← he] at hrun
      exact .inr (.inl ⟨w', H', by simp [hrun], hinv, hk⟩)
    · exact h.elim
  case call c =>
    obtain ⟨callee, args, ts⟩ := c
    have hargs : args.map a.eval = (args.toList.map a.eval).toArray := Array.toList_inj.1 (by simp)
    split at h
    · rename_i hc
      simp only at hc; subst hc
      have h := (vgets_sound hr h).ex w hw
      simp only [resolve, Sem.run_bind, Sem.run_pure, Result.andThen_ok, invoke, builtin, hargs]
      obtain ⟨v, w', H', h1, h2, h3⟩ := h
      exact .inl ⟨v, w', H', by simp [h1], h2, h3⟩
    · rename_i hc
      simp only at hc; subst hc
      have h := (vgets_sound hr h).ex w hw
      simp only [resolve, Sem.run_bind, Sem.run_pure, Result.andThen_ok, invoke, builtin, hargs]
      obtain ⟨v, w', H', h1, h2, h3⟩ := h
      exact .inl ⟨v, w', H', by simp [h1], h2, h3⟩
    · rename_i hc
      simp only at hc; subst hc
      have h := (vgets_sound hr h).ex w hw
      simp only [resolve, Sem.run_bind, Sem.run_pure, Result.andThen_ok, invoke, builtin, hargs]
      obtain ⟨v, w', H', h1, h2, h3⟩ := h
      exact .inl ⟨v, w', H', by simp [h1], h2, h3⟩
    · rename_i f hc
      simp only at hc; subst hc
      have h := vgets_sound hr (vget_sound hr h)
      split at h
      · rename_i g first captured he
        split at h
        · rename_i fn hf
          split at h
          · rename_i hb
            split at h
            · rename_i hn
              refine .inr (.inr ⟨g, first ++ args.map a.eval ++ captured, ?_, ?_⟩)
              · have hb' : fn.body.isNone = false := hb
                simp only [resolve, Deferred.ofValue, he, Sem.run_bind, Sem.run_pure, Result.andThen_ok, invoke, callFunc, run_program, hf, hn, hb']
                rfl
              · have e : first ++ args.map a.eval ++ captured = (first.toList ++ List.map a.eval args.toList ++ captured.toList).toArray := Array.toList_inj.1 (by simp)
                rw [e]
                split at h
                · rename_i hf0 hc0
                  rw [hf0, hc0, List.nil_append, List.append_nil]
                  exact h.ex w hw
                · exact h.ex w hw
            · exact h.elim
          · exact h.elim
        · exact h.elim
      · exact h.elim
    · exact h.elim
end sound
/-! ## Code -/
abbrev Kt := Sl → Hp → Prop
structure Conts where
  nx : Kt
  ex : Nat → Kt
  rt : Kt
def Sem_ (n : Nat) (w0 : World) (W : Nat → Prop) (K : Kt) (a : Act) (w : World) : Prop := ∃ σ H, Rep n σ a ∧ HInv w0 W H w ∧ K σ H
def post (n : Nat) (w0 : World) (W : Nat → Prop) (κ : Conts) : Exit → Act → World → Prop
  | .normal, a, w => Sem_ n w0 W κ.nx a w
  | .exit i, a, w => Sem_ n w0 W (κ.ex i) a w
  | .ret, a, w => Sem_ n w0 W κ.rt a w
  | _, _, _ => False
def nrm (n : Nat) (w0 : World) (W : Nat → Prop) (K : Kt) : Exit → Act → World → Prop
  | .normal, a, w => Sem_ n w0 W K a w
  | _, _, _ => False
def dstOk (n : Nat) (o : Oper) : Bool := match o.dst with | some t => Nat.blt t n | none => true
def codeOk (n : Nat) : Code → Bool
  | .region _ ops _ => ops.toList.all (dstOk n)
  | .seq a b => codeOk n a && codeOk n b
  | .cond _ a b => codeOk n a && codeOk n b
  | .block _ c => codeOk n c
  | .loop c => codeOk n c
  | .skip => true
  | .exit _ => true
  | .ret => true
  | _ => false
structure GrdK (b want : Bool) (Y N : Prop) : Prop where
  yes : b = want → Y
  no : b = (!want) → N
section
variable (P : Program) (n : Nat) (w0 : World) (W : Nat → Prop)
def ifEq (σ : Sl) (op : Op) : Option (TypeId × Operand × Operand × Value × Value) :=
  match op with
  | .binOp .eql t x y _ => match ev σ x with
    | some (.iface a b) => match ev σ y with
      | some (.iface c d) => some (t, x, y, .iface a b, .iface c d)
      | _ => none
    | _ => none
  | _ => none
def vcOne (op : Op) (ty : TypeId) (σ : Sl) (H : Hp) (K : Value → Hp → Prop) : Prop :=
  match kd op with
  | 0 => match ifEq σ op with
    | some (t, x, y, vx, vy) => EffK P w0 W H (do eqGuard .eql t x y vx vy; binOp .eql t vx vy) K
    | none => pureOp P σ op fun v => K v H
  | 1 => match op with
    | .load t x => vget σ x fun v => match v with
      | .pointer p => LdK P w0 W H t p fun v => K v H
      | _ => False
    | _ => False
  | _ => effOp P w0 W σ H op ty K
/-- one operation, and what comes behind it. (Recursors are named below, not equations: so the kernel's terms are those that are shown.) -/
def vcStep (ops : Array Oper) (o : Oper) (k : Kt) (σ : Sl) (H : Hp) : Prop :=
  match o with
  | ⟨dst, op, ty, _, _, g⟩ =>
    match g with
    | none => vcOne P w0 W op ty σ H fun v H' => k (put dst v σ) H'
    | some (j, want) => match (ops[j]?).bind (·.dst) with
      | some t => match get σ t with
        | some (.bool b) => GrdK b want (vcOne P w0 W op ty ((t, .bool want) :: σ) H fun v H' => k (put dst v ((t, .bool want) :: σ)) H')
            (k (put dst undef ((t, .bool (!want)) :: σ)) H)
        | some (.tuple _) => k (put dst undef σ) H
        | _ => False
      | none => False
noncomputable def vcL (ops : Array Oper) (l : List Oper) (σ : Sl) (H : Hp) (K : Kt) : Prop :=
  List.rec (motive := fun _ => Kt) K (fun o _ ih => vcStep P w0 W ops o ih) l σ H
theorem vcL_cons {ops : Array Oper} {o : Oper} {r : List Oper} {σ : Sl} {H : Hp} {K : Kt} : vcL P w0 W ops (o :: r) σ H K = vcStep P w0 W ops o (fun σ H => vcL P w0 W ops r σ H K) σ H := rfl
structure DrwK (ops : Array Oper) (σ : Sl) (H : Hp) (K : Kt) : Prop where
  wp : ops.toList.all (dstOk n) = true → ∀ id a w, Rep n σ a → HInv w0 W H w → (Code.region id ops true).wp P (nrm n w0 W K) a w
structure Wp (c : Code) (σ : Sl) (H : Hp) (κ : Conts) : Prop where
  wp : codeOk n c = true → ∀ a w, Rep n σ a → HInv w0 W H w → c.wp P (post n w0 W κ) a w
abbrev CT := Sl → Hp → Kt → (Nat → Kt) → Kt → Prop
def cNo : CT := fun _ _ _ _ _ => False
def cSkip : CT := fun σ H nx _ _ => nx σ H
noncomputable def cRegion (ops : Array Oper) (d : Bool) : CT := fun σ H nx _ _ => match d with
  | false => vcL P w0 W ops ops.toList σ H nx
  | true => DrwK P n w0 W ops σ H nx
def cSeq (fa fb : CT) : CT := fun σ H nx ex rt => fa σ H (fun σ H => fb σ H nx ex rt) ex rt
def cCond (c : Operand) (x y : Code) : CT := fun σ H nx ex rt => Wp P n w0 W (.cond c x y) σ H ⟨nx, ex, rt⟩
def cBlock (i : Nat) (f : CT) : CT := fun σ H nx ex rt => f σ H nx (fun j => match Nat.beq j i with | true => nx | false => ex j) rt
def cLoop (c : Code) : CT := fun σ H nx ex rt => Wp P n w0 W (.loop c) σ H ⟨nx, ex, rt⟩
def cExit (i : Nat) : CT := fun σ H _ ex _ => ex i σ H
def cRet : CT := fun σ H _ _ rt => rt σ H
noncomputable def vcC (c : Code) : CT :=
  Code.rec (motive := fun _ => CT) cSkip (fun _ ops d => cRegion P n w0 W ops d) (fun _ _ => cSeq) (fun c x y _ _ => cCond P n w0 W c x y) (fun i _ => cBlock i) (fun c _ => cLoop P n w0 W c)
    (fun _ _ _ _ _ _ => cNo) cExit (fun _ _ => cNo) (fun _ => cNo) (fun _ => cNo) cRet (fun _ => cNo) c
end
section sound
variable {P : Program} {n : Nat} {w0 : World} {W : Nat → Prop}
theorem get_tmp {σ : Sl} {a : Act} (hr : Rep n σ a) {t : Nat} {v : Value} (h : get σ t = some v) (hv : v ≠ undef) : a.tmps[t]? = some v := by
  have := hr.at_ t v h
  rw [Array.getD_eq_getD_getElem?] at this
  cases e : a.tmps[t]? with
  | none => rw [e] at this; exact absurd this.symm hv
  | some u => rw [e] at this; simpa using this
theorem put_of_dstOk {o : Oper} (h : dstOk n o = true) : ∀ t, o.dst = some t → t < n := by
  intro t ht
  unfold dstOk at h
  rw [ht] at h
  exact Nat.le_of_ble_eq_true h
theorem Rep.again {σ : Sl} {a : Act} (hr : Rep n σ a) {t : Nat} {v : Value} (h : get σ t = some v) : Rep n ((t, v) :: σ) a := by
  refine ⟨hr.size, hr.defers, fun u x hu => ?_⟩
  simp only [get] at hu
  split at hu
  · rename_i hb
    have := Nat.eq_of_beq_eq_true hb
    subst this
    injection hu with hu
    subst hu
    exact hr.at_ _ _ h
  · exact hr.at_ _ _ hu
/-- what one operation's condition gives -/
theorem vcOne_sound {o : Oper} {σ : Sl} {H : Hp} {K : Value → Hp → Prop} {a : Act} {w : World} (hr : Rep n σ a) (hw : HInv w0 W H w) (h : vcOne P w0 W o.op o.type σ H K) : OpsTo P w0 W o a w K := by
  unfold vcOne at h
  split at h
  · split at h
    · rename_i t x y vx vy he
      obtain ⟨v, w', H', h1, h2, h3⟩ := h.ex w hw
      unfold ifEq at he
      split at he
      · rename_i t' x' y' u ho
        split at he
        · rename_i a1 b1 hx
          split at he
          · rename_i c1 d1 hy
            simp only [Option.some.injEq, Prod.mk.injEq] at he
            obtain ⟨rfl, rfl, rfl, rfl, rfl⟩ := he
            have e1 := hr.ev hx
            have e2 := hr.ev hy
            refine .inl ⟨v, w', H', ?_, h2, h3⟩
            simp only [execOp, ho, e1, e2]
            rw [Sem.run_bind] at h1
            cases hg : (eqGuard BinOp.eql t' x' y' (Value.iface a1 b1) (Value.iface c1 d1)).run P w with
            | ok u1 w1 =>
              rw [hg] at h1
              simp only [Result.andThen_ok] at h1
              simp [hg, h1]
            | halt u1 w1 =>
              rw [hg] at h1
              cases h1
          · cases he
        · cases he
      · cases he
    · obtain ⟨v, hv, hk⟩ := pureOp_sound hr h
      exact .inl ⟨v, w, H, hv w, hw, hk⟩
  · split at h
    · rename_i t x ho
      have h := vget_sound hr h
      split at h
      · rename_i p he
        obtain ⟨v, hv, hk⟩ := h.ex
        exact .inl ⟨v, w, H, by simp only [execOp, ho]; rw [he]; simp [hv w hw], hw, hk⟩
      · exact h.elim
    · exact h.elim
  · exact effOp_sound hr hw h
theorem wp_of_opsTo {o : Oper} {a : Act} {w : World} {K : Value → Hp → Prop} {N : Act → World → Prop} {Q : Exit → Act → World → Prop} (h : OpsTo P w0 W o a w K)
    (hn : ∀ v w' H', HInv w0 W H' w' → K v H' → N (a.put o.dst v) w') : o.wp P a w N Q := by
  unfold Oper.wp
  rcases h with ⟨v, w', H', h1, h2, h3⟩ | ⟨w', H', h1, h2, h3⟩ | ⟨f, args, h1, h2⟩
  · rw [h1]; exact hn _ _ _ h2 h3
  · rw [h1]; exact hn _ _ _ h2 h3
  · rw [h1]
    refine Calls.mono h2 ?_
    rintro e w' ⟨v, H', rfl, h3, h4⟩
    exact hn _ _ _ h3 h4
theorem upon_monoQ {o : Oper} {a : Act} {N : Act → World → Prop} {Q Q' : Exit → Act → World → Prop} (hq : ∀ e a w, Q e a w → Q' e a w) {r : Result Next} (h : o.upon P a N Q r) : o.upon P a N Q' r := by
  cases r with
  | ok x w' =>
    cases x <;> simp only [Oper.upon] at h ⊢ <;> first
      | exact h
      | exact Calls.mono h fun e w'' he => by
          cases e with
          | returned v => exact he
          | panicked c => exact hq _ _ _ he
          | outgrown => obtain ⟨a0, w0, h0⟩ := he; exact ⟨a0, w0, hq _ _ _ h0⟩
  | halt x w' => cases x <;> simp only [Oper.upon] at h ⊢ <;> first | exact h | exact hq _ _ _ h
theorem wpList_mono {ops : Array Oper} {Q Q' : Exit → Act → World → Prop} (hq : ∀ e a w, Q e a w → Q' e a w) : ∀ {l : List Oper} {a : Act} {w : World}, wpList P ops Q l a w → wpList P ops Q' l a w := by
  intro l
  induction l with
  | nil => intro a w h; exact hq _ _ _ h
  | cons o r ih =>
    intro a w h
    unfold wpList at h ⊢
    split
    · rename_i hw
      rw [if_pos hw] at h
      rcases h with h | ⟨h1, a0, w0, h0⟩
      · exact .inl (upon_monoQ hq (Oper.wp_mono (fun a w h => ih h) h))
      · exact .inr ⟨h1, a0, w0, hq _ _ _ h0⟩
    · rename_i hw
      rw [if_neg hw] at h
      exact ih h
theorem vcL_sound {ops : Array Oper} : ∀ {l : List Oper} {σ : Sl} {H : Hp} {K : Kt} {a : Act} {w : World}, l.all (dstOk n) = true → vcL P w0 W ops l σ H K → Rep n σ a → HInv w0 W H w →
    wpList P ops (nrm n w0 W K) l a w := by
  intro l
  induction l with
  | nil => intro σ H K a w _ h hr hw; exact ⟨σ, H, hr, hw, h⟩
  | cons o r ih =>
    intro σ H K a w hd h hr hw
    obtain ⟨dst, op, ty, pos, after, g⟩ := o
    simp only [List.all_cons, Bool.and_eq_true] at hd
    obtain ⟨hd1, hd2⟩ := hd
    have hput := put_of_dstOk hd1
    unfold wpList
    rw [vcL_cons] at h
    simp only [vcStep] at h
    split at h
    · rw [if_pos (by simp [Region.wanted])]
      refine .inl (wp_of_opsTo (vcOne_sound (o := ⟨dst, op, ty, pos, after, none⟩) hr hw h) fun v w' H' h1 h2 => ?_)
      exact ih hd2 h2 (hr.put hput v) h1
    · rename_i j want
      split at h
      · rename_i t ht
        split at h
        · rename_i b hb
          have hy : yielded ops a.tmps j = some b := by
            unfold yielded
            rw [ht, Option.bind_some, get_tmp hr hb (by rintro ⟨⟩)]
          by_cases e : b = want
          · subst e
            rw [if_pos (by simp [Region.wanted, hy])]
            have hr' := hr.again hb
            refine .inl (wp_of_opsTo (vcOne_sound (o := ⟨dst, op, ty, pos, after, some (j, b)⟩) hr' hw (h.yes rfl)) fun v w' H' h1 h2 => ?_)
            exact ih hd2 h2 (hr'.put hput v) h1
          · have e' : b = (!want) := by cases b <;> cases want <;> simp_all
            rw [if_neg (by simp [Region.wanted, hy, e])]
            subst e'
            exact ih hd2 (h.no rfl) ((hr.again hb).put hput undef) hw
        · rename_i vs hb
          have hy : yielded ops a.tmps j = none := by
            unfold yielded
            rw [ht, Option.bind_some]
            have := hr.at_ _ _ hb
            rw [Array.getD_eq_getD_getElem?] at this
            cases e : a.tmps[t]? with
            | none => rfl
            | some u => rw [e] at this; simp only [Option.getD_some] at this; rw [this]
          rw [if_neg (by simp [Region.wanted, hy])]
          exact ih hd2 h (hr.put hput undef) hw
        · exact h.elim
      · exact h.elim
theorem nrm_post {K : Kt} {κ : Conts} (hk : κ.nx = K) : ∀ e a w, nrm n w0 W K e a w → post n w0 W κ e a w := by
  subst hk
  intro e a w h
  cases e <;> first | exact h | exact h.elim
theorem Wp.of_vc : ∀ {c : Code} {σ : Sl} {H : Hp} {nx : Kt} {ex : Nat → Kt} {rt : Kt}, vcC P n w0 W c σ H nx ex rt → Wp P n w0 W c σ H ⟨nx, ex, rt⟩ := by
  intro c
  induction c with
  | skip => intro σ H nx ex rt h; exact ⟨fun _ a w hr hw => wp_skip ⟨σ, H, hr, hw, h⟩⟩
  | region id ops d =>
    intro σ H nx ex rt h
    cases d with
    | false =>
      refine ⟨fun hok a w hr hw => wp_region_list ?_⟩
      have := vcL_sound (n := n) hok h hr hw
      exact wpList_mono (fun e a w => nrm_post (κ := ⟨nx, ex, rt⟩) rfl e a w) this
    | true => exact ⟨fun hok a w hr hw => wp_mono (h.wp hok id a w hr hw) (fun e a w => nrm_post (κ := ⟨nx, ex, rt⟩) rfl e a w)⟩
  | seq x y ihx ihy =>
    intro σ H nx ex rt h
    refine ⟨fun hok a w hr hw => ?_⟩
    simp only [codeOk, Bool.and_eq_true] at hok
    refine wp_seq (wp_mono ((ihx h).wp hok.1 a w hr hw) fun e a' w' he => ?_)
    cases e with
    | normal => obtain ⟨σ', H', h1, h2, h3⟩ := he; exact (ihy h3).wp hok.2 a' w' h1 h2
    | _ => exact he
  | cond c x y ihx ihy => intro σ H nx ex rt h; exact h
  | block i c ih =>
    intro σ H nx ex rt h
    refine ⟨fun hok a w hr hw => ?_⟩
    refine wp_block (wp_mono ((ih h).wp hok a w hr hw) fun e a' w' he => ?_)
    cases e with
    | exit j =>
      simp only [post, Exit.inBlock] at he ⊢
      split
      · rename_i hj
        subst hj
        simp only [Nat.beq_refl] at he
        exact he
      · rename_i hj
        have : Nat.beq j i = false := by
          cases hq : Nat.beq j i with
          | false => rfl
          | true => exact absurd (Nat.eq_of_beq_eq_true hq) hj
        rw [this] at he
        exact he
    | _ => exact he
  | loop c ih => intro σ H nx ex rt h; exact h
  | rangeFunc f ps as b => intro σ H nx ex rt h; exact h.elim
  | exit i => intro σ H nx ex rt h; exact ⟨fun _ a w hr hw => wp_exit ⟨σ, H, hr, hw, h⟩⟩
  | scope c => intro σ H nx ex rt h; exact h.elim
  | label l => intro σ H nx ex rt h; exact h.elim
  | goto l => intro σ H nx ex rt h; exact h.elim
  | ret => intro σ H nx ex rt h; exact ⟨fun _ a w hr hw => wp_ret ⟨σ, H, hr, hw, h⟩⟩
  | refuse why => intro σ H nx ex rt h; exact h.elim
theorem Wp.cond {c : Operand} {x y : Code} {σ : Sl} {H : Hp} {nx : Kt} {ex : Nat → Kt} {rt : Kt} {b : Bool} (hc : ev σ c = some (.bool b)) (ht : b = true → vcC P n w0 W x σ H nx ex rt) (hf : b = false → vcC P n w0 W y σ H nx ex rt) :
    Wp P n w0 W (.cond c x y) σ H ⟨nx, ex, rt⟩ := by
  refine ⟨fun hok a w hr hw => ?_⟩
  simp only [codeOk, Bool.and_eq_true] at hok
  exact wp_cond_split (hr.ev hc) (fun hb => (Wp.of_vc (ht hb)).wp hok.1 a w hr hw) fun hb => (Wp.of_vc (hf hb)).wp hok.2 a w hr hw
theorem Wp.condT {c : Operand} {x y : Code} {σ : Sl} {H : Hp} {nx : Kt} {ex : Nat → Kt} {rt : Kt} {b : Bool} (hc : ev σ c = some (.bool b)) (hb : b = true) (h : vcC P n w0 W x σ H nx ex rt) : Wp P n w0 W (.cond c x y) σ H ⟨nx, ex, rt⟩ :=
  Wp.cond hc (fun _ => h) fun hf => by subst hb; cases hf
theorem Wp.condF {c : Operand} {x y : Code} {σ : Sl} {H : Hp} {nx : Kt} {ex : Nat → Kt} {rt : Kt} {b : Bool} (hc : ev σ c = some (.bool b)) (hb : b = false) (h : vcC P n w0 W y σ H nx ex rt) : Wp P n w0 W (.cond c x y) σ H ⟨nx, ex, rt⟩ :=
  Wp.cond hc (fun hf => by subst hb; cases hf) fun _ => h
/-- part of the blocks, in whatever order -/
def HSub (H' H : Hp) : Prop := ∃ L : Hp, L.Sublist H ∧ L.Perm H'
theorem HSub.refl (H : Hp) : HSub H H := ⟨H, List.Sublist.refl H, List.Perm.refl H⟩
theorem HSub.nil (H : Hp) : HSub [] H := ⟨[], List.nil_sublist H, List.Perm.refl _⟩
theorem HInv.hsub {H H' : Hp} {w : World} (h : HInv w0 W H w) (hs : HSub H' H) : HInv w0 W H' w :=
  let ⟨_, h1, h2⟩ := hs
  (h.drop h1).perm h2
def At {S : Type} (st : S → Sl) (hs : S → Hp) (I : S → Prop) : Kt := fun σ H => ∃ s, Sub (st s) σ ∧ HSub (hs s) H ∧ I s
theorem Wp.mono_nx {c : Code} {σ : Sl} {H : Hp} {κ : Conts} {K : Kt} (h : Wp P n w0 W c σ H ⟨K, κ.ex, κ.rt⟩) (hk : ∀ a w, Sem_ n w0 W K a w → Sem_ n w0 W κ.nx a w) : Wp P n w0 W c σ H κ :=
  ⟨fun hok a w hr hw => wp_mono (h.wp hok a w hr hw) fun e a' w' he => by cases e <;> first | exact hk _ _ he | exact he⟩
theorem Wp.cut {S : Type} (st : S → Sl) (hs : S → Hp) (I : S → Prop) {c : Code} {σ : Sl} {H : Hp} {nx : Kt} {ex : Nat → Kt} {rt : Kt} (h : Wp P n w0 W c σ H ⟨At st hs I, ex, rt⟩)
    (k : ∀ s, I s → nx (st s) (hs s)) : Wp P n w0 W c σ H ⟨nx, ex, rt⟩ :=
  Wp.mono_nx (κ := ⟨nx, ex, rt⟩) (K := At st hs I) h fun _ _ ⟨_, _, h1, h2, s, h3, h4, h5⟩ => ⟨st s, hs s, h1.sub h3, h2.hsub h4, k s h5⟩
theorem Wp.loop {S : Type} (st : S → Sl) (hs : S → Hp) (I : S → Prop) (μ : S → Nat) {c : Code} {σ : Sl} {H : Hp} {nx : Kt} {ex : Nat → Kt} {rt : Kt} (s0 : S) (h1 : Sub (st s0) σ) (h2 : HSub (hs s0) H) (h3 : I s0)
    (round : ∀ s, I s → vcC P n w0 W c (st s) (hs s) (At st hs fun s' => I s' ∧ μ s' < μ s) ex rt) : Wp P n w0 W (.loop c) σ H ⟨nx, ex, rt⟩ := by
  refine ⟨fun hok a w hr hw => ?_⟩
  let J : Act → World → S → Prop := fun a w s => Rep n (st s) a ∧ HInv w0 W (hs s) w ∧ I s
  have least : ∀ (a : Act) (w : World), (∃ s, J a w s) → ∃ s, J a w s ∧ ∀ t, J a w t → μ s ≤ μ t := by
    intro a w ⟨s, hs⟩
    have : ∀ m s, μ s = m → J a w s → ∃ s, J a w s ∧ ∀ t, J a w t → μ s ≤ μ t := by
      intro m
      induction m using Nat.strongRecOn with
      | _ m ih =>
        intro s hm hs
        by_cases hx : ∃ t, J a w t ∧ μ t < μ s
        · obtain ⟨t, ht, hlt⟩ := hx
          exact ih (μ t) (hm ▸ hlt) t rfl ht
        · exact ⟨s, hs, fun t ht => Nat.le_of_not_lt fun hlt => hx ⟨t, ht, hlt⟩⟩
    exact this _ s rfl hs
  have hch : ∀ (a : Act) (w : World), ∃ m : Nat, ∀ h : (∃ s, J a w s), ∃ s, J a w s ∧ μ s = m ∧ ∀ t, J a w t → m ≤ μ t := by
    intro a w
    by_cases h : ∃ s, J a w s
    · obtain ⟨s, h1, h2⟩ := least a w h
      exact ⟨μ s, fun _ => ⟨s, h1, rfl, h2⟩⟩
    · exact ⟨0, fun h' => absurd h' h⟩
  let m : Act → World → Nat := fun a w => Classical.choose (hch a w)
  have hm : ∀ a w, (∃ s, J a w s) → ∃ s, J a w s ∧ μ s = m a w ∧ ∀ t, J a w t → m a w ≤ μ t := fun a w => Classical.choose_spec (hch a w)
  refine wp_loop (fun a w => ∃ s, J a w s) m ⟨s0, hr.sub h1, hw.hsub h2, h3⟩ fun a w hI => ?_
  obtain ⟨s, ⟨j1, j2, j3⟩, hs1, _⟩ := hm a w hI
  refine wp_mono ((Wp.of_vc (round s j3)).wp hok a w j1 j2) fun e a' w' he => ?_
  cases e with
  | normal =>
    obtain ⟨σ', H', r1, r2, s', r3, r4, r5, r6⟩ := he
    have hJ : J a' w' s' := ⟨r1.sub r3, r2.hsub r4, r5⟩
    obtain ⟨_, _, _, hmin⟩ := hm a' w' ⟨s', hJ⟩
    exact ⟨⟨s', hJ⟩, by have := hmin s' hJ; omega⟩
  | _ => exact he
end sound
/-! ## A region that asks in which order its operations come -/
section
variable (P : Program) (n : Nat) (w0 : World) (W : Nat → Prop)
abbrev Fact := TypeId × Option Addr × Value
def Facts (Fs : List Fact) (w : World) : Prop := ∀ f ∈ Fs, (Instr.loadAt f.1 (.pointer f.2.1)).run P w = .ok f.2.2 w
/-- what was read is still so -/
structure KfK (H : Hp) (t : TypeId) (p : Option Addr) (v : Value) (K : Prop) : Prop where
  keep : ∀ w, HInv w0 W H w → (Instr.loadAt t (.pointer p)).run P w = .ok v w
  k : K
noncomputable def KpK (Fs : List Fact) (H : Hp) (K : Prop) : Prop :=
  List.rec (motive := fun _ => Prop) K (fun f _ ih => match f with | (t, p, v) => KfK P w0 W H t p v ih) Fs
noncomputable def vcDOne (op : Op) (ty : TypeId) (σ : Sl) (H : Hp) (Fs : List Fact) (last : Bool) (K : Value → Hp → List Fact → Prop) : Prop :=
  match kd op with
  | 0 => pureOp P σ op fun v => K v H Fs
  | 1 => match op with
    | .load t x => vget σ x fun v => match v with
      | .pointer p => LdK P w0 W H t p fun v => K v H ((t, p, v) :: Fs)
      | _ => False
    | _ => False
  | _ => effOp P w0 W σ H op ty fun v H' => match last with
    | true => K v H' []
    | false => KpK P w0 W Fs H' (K v H' Fs)
abbrev Dt := Sl → Hp → List Fact → Prop
noncomputable def vcDStep (ops : Array Oper) (i : Nat) (last : Bool) (k : Dt) : Dt := fun σ H Fs =>
  match ops[i]? with
  | some ⟨dst, op, ty, _, _, g⟩ =>
    match g with
    | none => vcDOne P w0 W op ty σ H Fs last fun v H' Fs' => k (put dst v σ) H' Fs'
    | some (j, want) => match (ops[j]?).bind (·.dst) with
      | some t => match get σ t with
        | some (.bool b) => GrdK b want (vcDOne P w0 W op ty ((t, .bool want) :: σ) H Fs last fun v H' Fs' => k (put dst v ((t, .bool want) :: σ)) H' Fs')
            (k (put dst undef ((t, .bool (!want)) :: σ)) H Fs)
        | some (.tuple _) => k (put dst undef σ) H Fs
        | _ => False
      | none => False
  | none => False
noncomputable def vcD (ops : Array Oper) (l : List Nat) (σ : Sl) (H : Hp) (Fs : List Fact) (K : Kt) : Prop :=
  List.rec (motive := fun _ => Dt) (fun σ H _ => K σ H) (fun i r ih => vcDStep P w0 W ops i r.isEmpty ih) l σ H Fs
theorem vcD_cons {ops : Array Oper} {i : Nat} {r : List Nat} {σ : Sl} {H : Hp} {Fs : List Fact} {K : Kt} : vcD P w0 W ops (i :: r) σ H Fs K = vcDStep P w0 W ops i r.isEmpty (fun σ H Fs => vcD P w0 W ops r σ H Fs K) σ H Fs := rfl
end
def loud (op : Op) : Bool := match kd op with | 0 => false | 1 => false | _ => true
/-- what an operation waits for by itself -/
def afters (ops : Array Oper) (k : Nat) : List Nat := match ops[k]? with | some o => o.after.toList.filterMap fun e => if Region.binds .any e then some e.on else none | none => []
def closeStep (ops : Array Oper) (S : List Nat) (k : Nat) : List Nat := if S.contains k then afters ops k ++ S else S
/-- what an operation waits for, also through others -/
def closeAll (ops : Array Oper) (j : Nat) : List Nat := (List.range ops.size).reverse.foldl (closeStep ops) (afters ops j)
def waitsAll (ops : Array Oper) (i : Nat) : Bool := (List.range ops.size).all fun k => k == i || (closeAll ops i).contains k
def ordGo (ops : Array Oper) : List Nat → Array Bool → Bool
  | [], listed => (Region.ready .any ops listed).isEmpty
  | i :: r, listed =>
    (Region.ready .any ops listed).contains i &&
    (match ops[i]? with
     | some o => if loud o.op then (Region.ready .any ops listed == [i] && (!r.isEmpty || waitsAll ops i)) else Region.free .any ops listed i
     | none => false) &&
    ordGo ops r (listed.setIfInBounds i true)
def ordOk (ops : Array Oper) (l : List Nat) : Bool := Region.noSelect ops && l.length == ops.size && ordGo ops l (Array.replicate ops.size false)
section sound
variable {P : Program} {n : Nat} {w0 : World} {W : Nat → Prop} {ops : Array Oper} {C : World → Prop} {Qn : Act → World → Prop}
/-- whatever order comes: and each loud operation that does not wait for all others leaves a world of the class -/
def anyG (P : Program) (ops : Array Oper) (C : World → Prop) (Q : Exit → Act → World → Prop) : Nat → Array Bool → Act → World → Prop
  | 0, listed, a, w => Region.ready .any ops listed = [] ∧ Q .normal a w
  | fuel + 1, listed, a, w =>
    (Region.ready .any ops listed = [] → Q .normal a w) ∧
    ∀ i ∈ Region.ready .any ops listed, wpOp P ops Q i (fun a' w' => (C w' ∨ waitsAll ops i = true) ∧ anyG P ops C Q fuel (listed.setIfInBounds i true) a' w') a w
theorem anyG_any {Q : Exit → Act → World → Prop} : ∀ (fuel : Nat) (listed : Array Bool) (a : Act) (w : World), anyG P ops C Q fuel listed a w → wpAny P .any ops Q fuel listed a w
  | 0, _, _, _, h => h
  | fuel + 1, _, _, _, h => ⟨h.1, fun i hi => wpOp_mono (fun _ _ h' => anyG_any fuel _ _ _ h'.2) (h.2 i hi)⟩
theorem anyG_mono {C' : World → Prop} {Q : Exit → Act → World → Prop} (hc : ∀ w, C' w → C w) : ∀ (fuel : Nat) (listed : Array Bool) (a : Act) (w : World), anyG P ops C' Q fuel listed a w → anyG P ops C Q fuel listed a w
  | 0, _, _, _, h => h
  | fuel + 1, _, _, _, h => ⟨h.1, fun i hi => wpOp_mono (fun _ _ h' => ⟨h'.1.imp_left (hc _), anyG_mono hc fuel _ _ _ h'.2⟩) (h.2 i hi)⟩
def YieldsC (P : Program) (ops : Array Oper) (C : World → Prop) (o : Oper) (v : Value) (a : Act) : Prop :=
  (Region.wanted o (yielded ops a.tmps) = true ∧ ∀ w, C w → (execOp a.eval o).run P w = .ok (.value v) w) ∨ (Region.wanted o (yielded ops a.tmps) = false ∧ v = undef)
theorem YieldsC.wpOp {Q : Exit → Act → World → Prop} {i : Nat} {o : Oper} {v : Value} {a : Act} (hi : ops[i]? = some o) (hy : YieldsC P ops C o v a) {K : Act → World → Prop} {w : World} (hw : C w)
    (h : K (a.put o.dst v) w) : wpOp P ops Q i K a w := by
  unfold Go.wpOp
  simp only [hi]
  rcases hy with ⟨h1, hv⟩ | ⟨h1, rfl⟩
  · simp only [h1, if_true, Oper.wp, hv w hw, Oper.upon]; exact .inl h
  · simp only [h1, Bool.false_eq_true, if_false]; exact h
theorem YieldsC.of_same {o : Oper} {v : Value} {a a' : Act} (hy : YieldsC P ops C o v a) (he : execOp a'.eval o = execOp a.eval o)
    (hw : Region.wanted o (yielded ops a'.tmps) = Region.wanted o (yielded ops a.tmps)) : YieldsC P ops C o v a' := by
  unfold YieldsC at *
  rw [he, hw]
  exact hy
theorem wpOp_putC {Q : Exit → Act → World → Prop} {j : Nat} {oi oj : Oper} {v : Value} (hj : ops[j]? = some oj) (hap : oi.apart ops oj = true)
    (hsi : ∀ cs b, oi.op ≠ .select cs b) (hsj : ∀ cs b, oj.op ≠ .select cs b)
    (hQ : ∀ c a w, Q (.panic c) (a.put oi.dst v) w → Q (.panic c) a w) {K : Act → World → Prop} {a : Act} {w : World}
    (hy : YieldsC P ops C oi v a) (h : wpOp P ops Q j K (a.put oi.dst v) w) :
    wpOp P ops Q j (fun a' w' => YieldsC P ops C oi v a' ∧ K (a'.put oi.dst v) w') a w := by
  obtain ⟨h1, h2, h3⟩ := Oper.apart_spec hap
  have keep : ∀ (a : Act), YieldsC P ops C oi v a → ∀ u, YieldsC P ops C oi v (a.put oj.dst u) := fun a hy u =>
    hy.of_same (execOp_put oi hsi a oj.dst u h3) (wanted_put oi a oj.dst u h3)
  have keepD : ∀ d, YieldsC P ops C oi v { a with defers := d :: a.defers } := fun d => hy.of_same rfl rfl
  unfold wpOp at *
  simp only [hj] at *
  rw [wanted_put oj a oi.dst v h1] at h
  split
  · rename_i hw
    simp only [hw, if_true] at h
    rcases h with h | ⟨hasks, hlets⟩
    case inr => exact .inr ⟨by unfold Oper.asks at *; rw [execOp_put oj hsj a oi.dst v h1] at hasks; exact hasks, hlets⟩
    refine .inl ?_
    unfold Oper.wp at *
    rw [execOp_put oj hsj a oi.dst v h1] at h
    generalize (execOp a.eval oj).run P w = r at *
    cases r with
    | ok x w' =>
      cases x <;> simp only [Oper.upon] at h ⊢
      case value u => exact ⟨keep a hy u, by rw [← Act.put_comm a v u h2]; exact h⟩
      case skip => exact ⟨keep a hy _, by rw [← Act.put_comm a v undef h2]; exact h⟩
      case defer d =>
        refine ⟨keep _ (keepD d) _, ?_⟩
        rw [← Act.put_comm _ v undef h2, ← Act.put_defers]
        exact h
      case enter f args =>
        refine Calls.mono h fun e w'' he => ?_
        cases e with
        | returned u => exact ⟨keep a hy u, by rw [← Act.put_comm a v u h2]; exact he⟩
        | panicked c => exact hQ _ _ _ he
        | outgrown => exact he
      case row row args => exact Rows.mono h fun u w'' he => ⟨keep a hy u, by rw [← Act.put_comm a v u h2]; exact he⟩
    | halt x w' =>
      cases x <;> simp only [Oper.upon] at h ⊢
      case panic u => exact hQ _ _ _ h
  · rename_i hw
    simp only [hw] at h
    exact ⟨keep a hy _, by rw [← Act.put_comm a v undef h2]; exact h⟩
def Closed (ops : Array Oper) (listed : Array Bool) : Prop := ∀ k, listed.getD k false = true → ∀ m ∈ afters ops k, listed.getD m false = true
theorem afters_ready {j : Nat} {listed : Array Bool} (hj : j ∈ Region.ready .any ops listed) : ∀ m ∈ afters ops j, listed.getD m false = true := by
  obtain ⟨_, o, ho, hall⟩ := mem_ready.1 hj
  intro m hm
  unfold afters at hm
  rw [ho] at hm
  obtain ⟨e, he, h2⟩ := List.mem_filterMap.1 hm
  split at h2
  · rename_i hb
    injection h2 with h2
    subst h2
    exact hall e (by simpa using he) hb
  · cases h2
theorem Closed.set {j : Nat} {listed : Array Bool} (h : Closed ops listed) (hj : j ∈ Region.ready .any ops listed) : Closed ops (listed.setIfInBounds j true) := by
  intro k hk m hm
  refine getD_set_true ?_
  by_cases hkj : j = k
  · subst hkj; exact afters_ready hj m hm
  · rw [getD_set_ne false hkj] at hk
    exact h k hk m hm
theorem closeAll_listed {j : Nat} {listed : Array Bool} (h : Closed ops listed) (hj : j ∈ Region.ready .any ops listed) : ∀ m ∈ closeAll ops j, listed.getD m false = true := by
  have key : ∀ (l S : List Nat), (∀ m ∈ S, listed.getD m false = true) → ∀ m ∈ l.foldl (closeStep ops) S, listed.getD m false = true := by
    intro l
    induction l with
    | nil => intro S hS; exact hS
    | cons k r ih =>
      intro S hS
      refine ih _ fun m hm => ?_
      unfold closeStep at hm
      split at hm
      · rename_i hk
        rcases List.mem_append.1 hm with hm | hm
        · exact h k (hS k (by simpa using hk)) m hm
        · exact hS m hm
      · exact hS m hm
  exact key _ _ (afters_ready hj)
theorem waitsAll_spec {i j : Nat} {listed : Array Bool} (hcl : Closed ops listed) (h : waitsAll ops j = true) (hj : j ∈ Region.ready .any ops listed) (hi : i ∈ Region.ready .any ops listed) : i = j := by
  obtain ⟨hiun, oi, hoi, _⟩ := mem_ready.1 hi
  unfold waitsAll at h
  simp only [List.all_eq_true, List.mem_range, Bool.or_eq_true, beq_iff_eq] at h
  have hlt : i < ops.size := (Array.getElem?_eq_some_iff.1 hoi).1
  rcases h i hlt with e | e
  · exact e
  · have := closeAll_listed hcl hj i (by simpa using e)
    rcases Nat.lt_or_ge i listed.size with h' | h'
    · simp [h'] at hiun this; rw [hiun] at this; cases this
    · simp [Array.getElem?_eq_none h'] at this
theorem anyG_first {Q : Exit → Act → World → Prop} {i : Nat} {oi : Oper} {v : Value} (hi : ops[i]? = some oi) (hsel : ∀ (j : Nat) (o : Oper) cs b, ops[j]? = some o → o.op ≠ .select cs b)
    (hQ : ∀ c a w, Q (.panic c) (a.put oi.dst v) w → Q (.panic c) a w) :
    ∀ (fuel : Nat) (listed : Array Bool) (a : Act) (w : World),
      (∀ j oj, ops[j]? = some oj → j ≠ i → listed.getD j true = false → (∀ e ∈ oj.after, Region.binds .any e = true → e.on ≠ i) → oi.apart ops oj = true) →
      Closed ops listed → i ∈ Region.ready .any ops listed → C w → YieldsC P ops C oi v a →
      anyG P ops C Q fuel (listed.setIfInBounds i true) (a.put oi.dst v) w → anyG P ops C Q (fuel + 1) listed a w := by
  intro fuel
  induction fuel with
  | zero =>
    intro listed a w _ _ hr hC hy H
    refine ⟨fun h => (by rw [h] at hr; cases hr), fun j hj => ?_⟩
    by_cases hji : j = i
    · subst hji; exact hy.wpOp hi hC ⟨.inl hC, H⟩
    · have := ready_mono hj hji
      rw [H.1] at this
      cases this
  | succ fuel ih =>
    intro listed a w hfree hcl hr hC hy H
    refine ⟨fun h => (by rw [h] at hr; cases hr), fun j hj => ?_⟩
    by_cases hji : j = i
    · subst hji; exact hy.wpOp hi hC ⟨.inl hC, H⟩
    · have h1 := H.2 j (ready_mono hj hji)
      obtain ⟨hjun, oj, hoj, hall⟩ := mem_ready.1 hj
      have hnot : ∀ e ∈ oj.after, Region.binds .any e = true → e.on ≠ i := fun e he hb heq => by
        have h1 := hall e he hb
        have h0 := (mem_ready.1 hr).1
        rw [heq] at h1
        rcases Nat.lt_or_ge i listed.size with h' | h'
        · simp [h'] at h0 h1; rw [h0] at h1; cases h1
        · simp [Array.getElem?_eq_none h'] at h1
      have h2 := wpOp_putC hoj (hfree j oj hoj hji hjun hnot) (fun cs b => hsel i oi cs b hi) (fun cs b => hsel j oj cs b hoj) hQ hy h1
      have hfree' : ∀ k ok, ops[k]? = some ok → k ≠ i → (listed.setIfInBounds j true).getD k true = false →
          (∀ e ∈ ok.after, Region.binds .any e = true → e.on ≠ i) → oi.apart ops ok = true := fun k ok hk hki hun hno => by
        refine hfree k ok hk hki ?_ hno
        by_cases hjk : j = k
        · subst hjk; exact hjun
        · rw [getD_set_ne true hjk] at hun; exact hun
      refine wpOp_mono (fun a' w' h3 => ?_) h2
      have hC' : C w' := h3.2.1.resolve_right fun hw => hji (waitsAll_spec hcl hw hj hr).symm
      refine ⟨.inl hC', ih (listed.setIfInBounds j true) a' w' hfree' (hcl.set hj) (ready_mono hr (Ne.symm hji)) hC' h3.1 ?_⟩
      rw [Array.setIfInBounds_comm _ _ hji]
      exact h3.2.2
theorem KpK_sound {Fs : List Fact} {H : Hp} {K : Prop} (h : KpK P w0 W Fs H K) : K ∧ ∀ w, HInv w0 W H w → Facts P Fs w := by
  induction Fs with
  | nil => exact ⟨h, fun w _ f hf => by cases hf⟩
  | cons f r ih =>
    obtain ⟨t, p, v⟩ := f
    obtain ⟨h1, h2⟩ := ih h.k
    refine ⟨h1, fun w hw f hf => ?_⟩
    rcases List.mem_cons.1 hf with rfl | hf
    · exact h.keep w hw
    · exact h2 w hw f hf
/-- one operation of the region, in the order that was chosen -/
theorem one_sound {i : Nat} {o : Oper} {r : List Nat} {σ : Sl} {H : Hp} {Fs : List Fact} {a : Act} {w : World} {listed : Array Bool} {Kc : Value → Hp → List Fact → Prop} {K : Kt}
    (hi : ops[i]? = some o) (hsel : Region.noSelect ops = true) (hcl : Closed ops listed) (hord : ordGo ops (i :: r) listed = true) (hr : Rep n σ a) (hw : HInv w0 W H w) (hF : Facts P Fs w)
    (hwant : Region.wanted o (yielded ops a.tmps) = true)
    (h : vcDOne P w0 W o.op o.type σ H Fs r.isEmpty Kc)
    (next : ∀ v H' Fs' w', HInv w0 W H' w' → Kc v H' Fs' → (r = [] ∨ Facts P Fs' w') → anyG P ops (Facts P Fs') (nrm n w0 W K) r.length (listed.setIfInBounds i true) (a.put o.dst v) w') :
    anyG P ops (Facts P Fs) (nrm n w0 W K) (r.length + 1) listed a w := by
  simp only [ordGo, hi, Bool.and_eq_true] at hord
  obtain ⟨⟨hrd, hmode⟩, _⟩ := hord
  have hrd : i ∈ Region.ready .any ops listed := by simpa using hrd
  unfold vcDOne at h
  split at h
  · rename_i hk
    have hl : loud o.op = false := by simp [loud, hk]
    rw [hl] at hmode
    obtain ⟨v, hv, hK⟩ := pureOp_sound hr h
    exact anyG_first hi (Region.noSelect_spec hsel) (fun c a w hh => hh.elim) r.length listed a w (Region.free_spec hi (by simpa using hmode)) hcl hrd hF (.inl ⟨hwant, fun w _ => hv w⟩)
      (next v H Fs w hw hK (.inr hF))
  · rename_i hk
    have hl : loud o.op = false := by simp [loud, hk]
    rw [hl] at hmode
    split at h
    · rename_i t x ho
      have h := vget_sound hr h
      split at h
      · rename_i p he
        obtain ⟨v, hv, hK⟩ := h.ex
        have hF' : Facts P ((t, p, v) :: Fs) w := fun f hf => by
          rcases List.mem_cons.1 hf with rfl | hf
          · exact hv w hw
          · exact hF f hf
        refine anyG_mono (C' := Facts P ((t, p, v) :: Fs)) (fun w hw f hf => hw f (List.mem_cons_of_mem _ hf)) _ _ _ _ ?_
        refine anyG_first hi (Region.noSelect_spec hsel) (fun c a w hh => hh.elim) r.length listed a w (Region.free_spec hi (by simpa using hmode)) hcl hrd hF' (.inl ⟨hwant, fun w hw => ?_⟩)
          (next v H _ w hw hK (.inr hF'))
        have := hw _ List.mem_cons_self
        simp only at this
        simp only [execOp, ho]
        rw [he]
        simp [this]
      · exact h.elim
    · exact h.elim
  · rename_i hk
    have hl : loud o.op = true := by simp [loud]
    rw [hl] at hmode
    simp only [if_true, Bool.and_eq_true, beq_iff_eq] at hmode
    obtain ⟨hone, hlast⟩ := hmode
    refine ⟨fun h0 => (by rw [hone] at h0; cases h0), fun j hj => ?_⟩
    rw [hone] at hj
    obtain rfl := List.mem_singleton.1 hj
    unfold wpOp
    simp only [hi, hwant, if_true]
    refine .inl (wp_of_opsTo (effOp_sound hr hw h) fun v w' H' h1 h2 => ?_)
    cases hre : r with
    | nil =>
      simp only [hre, List.isEmpty_nil] at h2
      have := next v H' [] w' h1 (by simpa [hre] using h2) (.inl hre)
      rw [hre] at this
      exact ⟨.inr (by simpa [hre] using hlast), this⟩
    | cons x y =>
      simp only [hre, List.isEmpty_cons] at h2
      obtain ⟨h3, h4⟩ := KpK_sound h2
      have := next v H' Fs w' h1 h3 (.inr (h4 w' h1))
      rw [hre] at this
      exact ⟨.inl (h4 w' h1), this⟩
theorem skip_sound {i : Nat} {o : Oper} {r : List Nat} {Fs : List Fact} {a : Act} {w : World} {listed : Array Bool} {K : Kt}
    (hi : ops[i]? = some o) (hsel : Region.noSelect ops = true) (hcl : Closed ops listed) (hord : ordGo ops (i :: r) listed = true) (hF : Facts P Fs w) (hwant : Region.wanted o (yielded ops a.tmps) = false)
    (next : anyG P ops (Facts P Fs) (nrm n w0 W K) r.length (listed.setIfInBounds i true) (a.put o.dst undef) w) :
    anyG P ops (Facts P Fs) (nrm n w0 W K) (r.length + 1) listed a w := by
  simp only [ordGo, hi, Bool.and_eq_true] at hord
  obtain ⟨⟨hrd, hmode⟩, _⟩ := hord
  have hrd : i ∈ Region.ready .any ops listed := by simpa using hrd
  split at hmode
  · simp only [Bool.and_eq_true, beq_iff_eq] at hmode
    obtain ⟨hone, _⟩ := hmode
    refine ⟨fun h0 => (by rw [hone] at h0; cases h0), fun j hj => ?_⟩
    rw [hone] at hj
    obtain rfl := List.mem_singleton.1 hj
    unfold wpOp
    simp only [hi, hwant, Bool.false_eq_true, if_false]
    exact ⟨.inl hF, next⟩
  · exact anyG_first hi (Region.noSelect_spec hsel) (fun c a w hh => hh.elim) r.length listed a w (Region.free_spec hi (by simpa using hmode)) hcl hrd hF (.inr ⟨hwant, rfl⟩) next
theorem vcD_sound {K : Kt} (hsel : Region.noSelect ops = true) (hd : ops.toList.all (dstOk n) = true) : ∀ {l : List Nat} {σ : Sl} {H : Hp} {Fs : List Fact} {a : Act} {w : World} {listed : Array Bool},
    Closed ops listed → ordGo ops l listed = true → vcD P w0 W ops l σ H Fs K → Rep n σ a → HInv w0 W H w → (l = [] ∨ Facts P Fs w) → anyG P ops (Facts P Fs) (nrm n w0 W K) l.length listed a w := by
  intro l
  induction l with
  | nil =>
    intro σ H Fs a w listed _ hord h hr hw _
    exact ⟨by simpa [ordGo] using hord, σ, H, hr, hw, h⟩
  | cons i r ih =>
    intro σ H Fs a w listed hcl hord h hr hw hF
    have hF : Facts P Fs w := hF.resolve_left (by simp)
    have hcl' : Closed ops (listed.setIfInBounds i true) := hcl.set (by
      simp only [ordGo, Bool.and_eq_true] at hord; simpa using hord.1.1)
    have hord' : ordGo ops r (listed.setIfInBounds i true) = true := by
      simp only [ordGo, Bool.and_eq_true] at hord; exact hord.2
    rw [vcD_cons] at h
    simp only [vcDStep] at h
    split at h
    · rename_i dst op ty pos after g hi
      have hput : ∀ t, dst = some t → t < n := put_of_dstOk (o := ⟨dst, op, ty, pos, after, g⟩) (List.all_eq_true.1 hd _ (List.mem_of_getElem? (by simpa using hi)))
      split at h
      · exact one_sound hi hsel hcl hord hr hw hF (by simp [Region.wanted]) h fun v H' Fs' w' h1 h2 h3 => ih hcl' hord' h2 (hr.put hput v) h1 h3
      · rename_i j want
        split at h
        · rename_i t ht
          split at h
          · rename_i b hb
            have hy : yielded ops a.tmps j = some b := by
              unfold yielded
              rw [ht, Option.bind_some, get_tmp hr hb (by rintro ⟨⟩)]
            by_cases e : b = want
            · subst e
              have hr' := hr.again hb
              exact one_sound hi hsel hcl hord hr' hw hF (by simp [Region.wanted, hy]) (h.yes rfl) fun v H' Fs' w' h1 h2 h3 => ih hcl' hord' h2 (hr'.put hput v) h1 h3
            · have e' : b = (!want) := by cases b <;> cases want <;> simp_all
              subst e'
              exact skip_sound hi hsel hcl hord hF (by simp [Region.wanted, hy]) (ih hcl' hord' (h.no rfl) ((hr.again hb).put hput undef) hw (.inr hF))
          · rename_i vs hb
            have hy : yielded ops a.tmps j = none := by
              unfold yielded
              rw [ht, Option.bind_some]
              have := hr.at_ _ _ hb
              rw [Array.getD_eq_getD_getElem?] at this
              cases e : a.tmps[t]? with
              | none => rfl
              | some u => rw [e] at this; simp only [Option.getD_some] at this; rw [this]
            exact skip_sound hi hsel hcl hord hF (by simp [Region.wanted, hy]) (ih hcl' hord' h (hr.put hput undef) hw (.inr hF))
          · exact h.elim
        · exact h.elim
    · exact h.elim
/-- an order is chosen: that one walk serves every order -/
theorem DrwK.ord {σ : Sl} {H : Hp} {K : Kt} (hm : P.follows .mixedOrders = true) (l : List Nat) (ho : ordOk ops l = true) (h : vcD P w0 W ops l σ H [] K) : DrwK P n w0 W ops σ H K := by
  simp only [ordOk, Bool.and_eq_true, beq_iff_eq] at ho
  obtain ⟨⟨hsel, hlen⟩, hgo⟩ := ho
  refine ⟨fun hd id a w hr hw => wp_region_any hm ?_⟩
  have h' := vcD_sound (a := a) hsel hd (fun k hk => by simp only [Array.getD_eq_getD_getElem?, Array.getElem?_replicate] at hk; split at hk <;> cases hk) hgo h hr hw.drew (.inr fun f hf => by cases hf)
  rw [hlen] at h'
  exact anyG_any _ _ _ _ h'
end sound

/-! ## Functions -/
section
variable (P : Program)
/-- `f`, called with these arguments over these blocks, where `pre` holds of the world, returns a value and leaves blocks for which `Q` holds; all other blocks stay -/
def FnS (f : FuncId) (args : List Value) (Hin : Hp) (pre : World → Prop) (Q : Value → Hp → Prop) : Prop :=
  ∀ w, HOk Hin w → pre w → Calls P f args.toArray w fun e w' => ∃ v H', e = .returned v ∧ HInv w (blocks Hin) H' w' ∧ Q v H'
def initSl : Nat → List Value → Sl
  | _, [] => []
  | k, v :: r => (k, v) :: initSl (k + 1) r
noncomputable def resK (w0 : World) (W : Nat → Prop) (σ : Sl) (H : Hp) (rs : List ResultVar) (K : List Value → Prop) : Prop :=
  List.rec (motive := fun _ => (List Value → Prop) → Prop) (fun K => K []) (fun r _ ih => match r with
    | .tmp t => fun K => match get σ t with
      | some v => ih fun vs => K (v :: vs)
      | none => False
    | .cell t T => fun K => match get σ t with
      | some (.pointer p) => LdK P w0 W H T p fun v => ih fun vs => K (v :: vs)
      | _ => False) rs K
theorem resK_tmp {w0 : World} {W : Nat → Prop} {σ : Sl} {H : Hp} {t : Nat} {r : List ResultVar} {K : List Value → Prop} : resK P w0 W σ H (.tmp t :: r) K = (match get σ t with | some v => resK P w0 W σ H r fun vs => K (v :: vs) | none => False) := rfl
theorem resK_cell {w0 : World} {W : Nat → Prop} {σ : Sl} {H : Hp} {t : Nat} {T : TypeId} {r : List ResultVar} {K : List Value → Prop} : resK P w0 W σ H (.cell t T :: r) K = (match get σ t with
    | some (.pointer p) => LdK P w0 W H T p fun v => resK P w0 W σ H r fun vs => K (v :: vs)
    | _ => False) := rfl
noncomputable def retK (w0 : World) (W : Nat → Prop) (rs : List ResultVar) (Q : Value → Hp → Prop) : Kt := fun σ H =>
  resK P w0 W σ H rs fun vs => match vs with
    | [v] => Q v H
    | vs => Q (.tuple vs.toArray) H
end
section sound
variable {P : Program}
theorem asAddr_some (ad : Addr) : asAddr (.pointer (some ad)) = pure ad := rfl
theorem resK_sound {n : Nat} {w0 w : World} {W : Nat → Prop} {σ : Sl} {H : Hp} {a : Act} (hr : Rep n σ a) (hw : HInv w0 W H w) : ∀ {rs : List ResultVar} {K : List Value → Prop}, resK P w0 W σ H rs K →
    ∃ vs, (rs.mapM fun r => (match r with | .tmp t => pure (a.tmps.getD t undef) | .cell t T => do loadVar T (← asAddr (a.tmps.getD t undef)) : Sem Value)).run P w = .ok vs w ∧ K vs := by
  intro rs
  induction rs with
  | nil => intro K h; exact ⟨[], rfl, h⟩
  | cons r rs ih =>
    intro K h
    cases r with
    | tmp t =>
      rw [resK_tmp] at h
      split at h
      · rename_i v hv
        obtain ⟨vs, h1, h2⟩ := ih h
        refine ⟨v :: vs, ?_, h2⟩
        simp only [List.mapM_cons, Sem.run_bind, Sem.run_pure, Result.andThen_ok, h1, hr.at_ t v hv]
      · exact h.elim
    | cell t T =>
      rw [resK_cell] at h
      split at h
      · rename_i p hv
        obtain ⟨v, hl, hk⟩ := h.ex
        obtain ⟨vs, h1, h2⟩ := ih hk
        refine ⟨v :: vs, ?_, h2⟩
        have hl := hl w hw
        cases p with
        | none => simp [Instr.loadAt, Instr.sureAddr] at hl
        | some ad =>
          simp only [Instr.loadAt, Instr.sureAddr, Sem.run_bind, Sem.run_pure, Result.andThen_ok] at hl
          simp only [List.mapM_cons, Sem.run_bind, Sem.run_pure, Result.andThen_ok, hr.at_ t _ hv, asAddr_some, hl, h1]
      · exact h.elim
theorem initSl_rep {args : List Value} {n : Nat} (hn : args.length ≤ n) : Rep n (initSl 0 args) ⟨args.toArray ++ Array.replicate (n - args.toArray.size) undef, []⟩ := by
  have key : ∀ (l : List Value) (k t : Nat) (v : Value), get (initSl k l) t = some v → k ≤ t ∧ l[t - k]? = some v := by
    intro l
    induction l with
    | nil => intro k t v h; cases h
    | cons u r ih =>
      intro k t v h
      simp only [initSl, get] at h
      split at h
      · rename_i hb
        have := Nat.eq_of_beq_eq_true hb
        subst this
        simpa using h
      · rename_i hb
        obtain ⟨h1, h2⟩ := ih (k + 1) t v h
        refine ⟨by omega, ?_⟩
        rw [show t - k = (t - (k + 1)) + 1 from by omega]
        simpa using h2
  refine ⟨by simp; omega, rfl, fun t v h => ?_⟩
  obtain ⟨_, h⟩ := key args 0 t v h
  simp only [Nat.sub_zero] at h
  have hlt : t < args.length := (List.getElem?_eq_some_iff.1 h).1
  rw [Array.getD_eq_getD_getElem?, Array.getElem?_append_left (by simpa using hlt)]
  simp [h]
theorem HOk.inv {Hin : Hp} {w : World} (h : HOk Hin w) : HInv w (blocks Hin) Hin w :=
  ⟨Keeps.refl _ _, h, fun c hc _ hb => .inl ⟨c, hc, hb⟩⟩
theorem bodyPost_of {f : Func} {n : Nat} {w0 w : World} {W : Nat → Prop} {Q : Value → Hp → Prop} {a : Act} {R : Ending → World → Prop} (hR : ∀ v H w, HInv w0 W H w → Q v H → R (.returned v) w)
    (h : Sem_ n w0 W (retK P w0 W f.results.toList Q) a w) : a.defers = [] ∧ ∃ v, (results f a.tmps).run P w = .ok v w ∧ R (.returned v) w := by
  obtain ⟨σ, H, hr, hw, hk⟩ := h
  refine ⟨hr.defers, ?_⟩
  obtain ⟨vs, h1, h2⟩ := resK_sound hr hw hk
  have hm : (f.results.mapM fun r => (match r with | .tmp t => pure (a.tmps.getD t undef) | .cell t T => do loadVar T (← asAddr (a.tmps.getD t undef)) : Sem Value)).run P w = .ok vs.toArray w := by
    rw [Array.mapM_eq_mapM_toList]
    simp only [Sem.run_map, h1, Result.andThen_ok]
  have hm' : (results f a.tmps).run P w = .ok (if h : vs.toArray.size = 1 then vs.toArray[0] else .tuple vs.toArray) w := by
    unfold results
    simp only [Sem.run_bind]
    erw [hm]
    rfl
  refine ⟨_, hm', ?_⟩
  cases vs with
  | nil => exact hR _ _ _ hw h2
  | cons v r =>
    cases r with
    | nil => exact hR _ _ _ hw h2
    | cons u r =>
      have : ¬ ((v :: u :: r).toArray.size = 1) := by simp
      rw [dif_neg this]
      exact hR _ _ _ hw h2
/-- A function from its body. -/
theorem FnS.intro {f : FuncId} {fn : Func} {c : Code} {args : List Value} {Hin : Hp} {pre : World → Prop} {Q : Value → Hp → Prop} (hf : P.funcs[f]? = some fn) (hb : fn.body = some c)
    (hok : codeOk fn.ntmps c = true) (hn : Nat.ble args.length fn.ntmps = true)
    (h : ∀ w, HOk Hin w → pre w → vcC P fn.ntmps w (blocks Hin) c (initSl 0 args) Hin (retK P w (blocks Hin) fn.results.toList Q) (fun _ _ _ => False) (retK P w (blocks Hin) fn.results.toList Q)) :
    FnS P f args Hin pre Q := by
  intro w hH hp
  refine calls_of_wp hf hb ?_
  refine wp_mono ((Wp.of_vc (h w hH hp)).wp hok _ w (initSl_rep (Nat.le_of_ble_eq_true hn)) hH.inv) fun e a' w' he => ?_
  have hR : ∀ v H w', HInv w (blocks Hin) H w' → Q v H → (∃ v' H', Ending.returned v = .returned v' ∧ HInv w (blocks Hin) H' w' ∧ Q v' H') := fun v H w' h1 h2 => ⟨v, H, rfl, h1, h2⟩
  cases e with
  | normal => exact bodyPost_of (R := fun e w' => ∃ v H', e = .returned v ∧ HInv w (blocks Hin) H' w' ∧ Q v H') hR he
  | ret => exact bodyPost_of (R := fun e w' => ∃ v H', e = .returned v ∧ HInv w (blocks Hin) H' w' ∧ Q v H') hR he
  | exit i => obtain ⟨_, _, _, _, h⟩ := he; exact h.elim
  | goto l => exact he.elim
  | panic c => exact he.elim
  | outgrown => exact he.elim
/-- the same, where the function leaves blocks of its own behind that nobody asks for -/
theorem FnS.introD {f : FuncId} {fn : Func} {c : Code} {args : List Value} {Hin : Hp} {pre : World → Prop} {Q : Value → Hp → Prop} (hf : P.funcs[f]? = some fn) (hb : fn.body = some c)
    (hok : codeOk fn.ntmps c = true) (hn : Nat.ble args.length fn.ntmps = true)
    (h : ∀ w, HOk Hin w → pre w → vcC P fn.ntmps w (blocks Hin) c (initSl 0 args) Hin (retK P w (blocks Hin) fn.results.toList (fun v H => ∃ H', HSub H' H ∧ Q v H')) (fun _ _ _ => False) (retK P w (blocks Hin) fn.results.toList (fun v H => ∃ H', HSub H' H ∧ Q v H'))) :
    FnS P f args Hin pre Q :=
  fun w h1 h2 => ((FnS.intro hf hb hok hn h) w h1 h2).mono fun _ _ ⟨v, _, e, h3, H', h4, h5⟩ => ⟨v, H', e, h3.hsub h4, h5⟩
theorem FnS.mono {f : FuncId} {args : List Value} {Hin : Hp} {pre pre' : World → Prop} {Q Q' : Value → Hp → Prop} (h : FnS P f args Hin pre Q) (hp : ∀ w, pre' w → pre w) (hq : ∀ v H, Q v H → Q' v H) : FnS P f args Hin pre' Q' :=
  fun w h1 h2 => (h w h1 (hp w h2)).mono fun _ _ ⟨v, H', e, h3, h4⟩ => ⟨v, H', e, h3, hq _ _ h4⟩
end sound
/-! ## Laws for memory -/
theorem Addr_add_mid (b o j : Nat) : (⟨b, o, none⟩ : Addr).add j = ⟨b, o + j, none⟩ := by unfold Addr.add; split <;> simp_all
theorem perm_erase {α : Type} : ∀ {l : List α} {k : Nat} {c : α}, l[k]? = some c → l.Perm (c :: l.eraseIdx k)
  | [], _, _, h => by simp at h
  | x :: r, 0, c, h => by simp only [List.getElem?_cons_zero, Option.some.injEq] at h; subst h; exact List.Perm.refl _
  | x :: r, k + 1, c, h => (List.Perm.cons x (perm_erase (by simpa using h))).trans (List.Perm.swap c x _)
theorem perm_set {α : Type} : ∀ {l : List α} {k : Nat} {c d : α}, l[k]? = some c → (l.set k d).Perm (d :: l.eraseIdx k)
  | [], _, _, _, h => by simp at h
  | x :: r, 0, _, _, _ => List.Perm.refl _
  | x :: r, k + 1, c, d, h => (List.Perm.cons x (perm_set (d := d) (by simpa using h))).trans (List.Perm.swap d x _)
theorem HInv.turnAt {w0 : World} {W : Nat → Prop} {H : Hp} {w w' : World} {c d : Chunk} {k : Nat} (h : HInv w0 W H w) (hk : H[k]? = some c) (ho : w'.os = w.os) (ht : w'.tape = w.tape) (hu : w'.output = w.output)
    (hs : w.heap.size ≤ w'.heap.size) (hb : ∀ k, k < w.heap.size → c.block ≠ some k → w'.heap[k]? = w.heap[k]?) (hd : d.ok w')
    (hdb : ∀ b, d.block = some b → c.block = some b ∨ w.heap.size ≤ b) : HInv w0 W (H.set k d) w' := by
  have p1 := perm_erase hk
  have p2 := perm_set (d := d) hk
  exact ((h.perm p1).turn ho ht hu hs hb hd hdb).perm p2.symm
theorem HInv.at_ {w0 : World} {W : Nat → Prop} {H : Hp} {w : World} {c : Chunk} {k : Nat} (h : HInv w0 W H w) (hk : H[k]? = some c) : c.ok w := h.hok.ok c (List.mem_of_getElem? hk)
def aggB : TypeDesc → Bool
  | .struct _ => true
  | .array _ _ => true
  | _ => false
theorem run_load1 {P : Program} {t : TypeId} {d : TypeDesc} (ht : P.underlying t = some d) (hd : aggB d = false) {ad : Addr} {w : World} {v : Value} (hc : w.cell? ad = some v) :
    (Instr.loadAt t (.pointer (some ad))).run P w = .ok v w := by
  have : (isAgg t).run P w = .ok false w := by
    simp only [isAgg, Sem.run_bind, run_underlying ht, Result.andThen_ok]
    cases d <;> first | rfl | cases hd
  simp [Instr.loadAt, Instr.sureAddr, loadVar, this, hc]
theorem run_loadN {P : Program} {t : TypeId} {d : TypeDesc} {i : TypeInfo} (ht : P.underlying t = some d) (hd : aggB d = true) (hi : P.info? t = some i) {ad : Addr} {w : World} {cs : List Value} (hl : cs.length = i.size)
    (hc : ∀ j v, cs[j]? = some v → w.cell? (ad.add j) = some v) : (Instr.loadAt t (.pointer (some ad))).run P w = .ok (.agg cs.toArray) w := by
  have : (isAgg t).run P w = .ok true w := by
    simp only [isAgg, Sem.run_bind, run_underlying ht, Result.andThen_ok]
    cases d <;> first | rfl | cases hd
  have h2 := run_loadCells_list (P := P) w ad cs hc
  rw [hl] at h2
  simp [Instr.loadAt, Instr.sureAddr, loadVar, this, run_sizeOf hi, h2]
theorem blk_cell {w : World} {b : Nat} {T : TypeId} {cs : List Value} (h : (Chunk.blk b T cs).ok w) (o : Nat) : w.cell? ⟨b, o, none⟩ = cs[o]? := by
  rw [cell_of_row w b o cs.toArray T (0, 0) h]; simp
theorem own_cell {w : World} {A : Option Addr} {n cap : Nat} {E : TypeId} {sz : Nat} {xs : List Value} (h : (Chunk.own A n cap E sz xs).ok w) {j : Nat} {v : Value} (hv : xs[j]? = some v) :
    ∃ g, A = some ⟨g, 0, none⟩ ∧ w.cell? ⟨g, j, none⟩ = some v := by
  rcases h.2 with ⟨h1, h2⟩ | ⟨g, cap', cur, h1, _, hg, _, _, _, htake⟩
  · subst h2
    have := h.1
    simp only [Nat.zero_mul] at this
    rw [List.eq_nil_of_length_eq_zero this] at hv
    cases hv
  · injection h1 with h1
    refine ⟨g, h1, ?_⟩
    rw [cell_of_row w g j cur E (0, 0) hg]
    rw [← htake, List.getElem?_take] at hv
    split at hv
    · simpa using hv
    · cases hv
/-- a slice that is read and not written: where it lies, in blocks that this call does not write -/
structure Rd (w : World) (W : Nat → Prop) (A : Option Addr) (n sz : Nat) (xs : List Value) : Prop where
  len : xs.length = n * sz
  ad : 0 < n → ∃ b o, A = some ⟨b, o, none⟩ ∧ ¬ W b ∧ b < w.heap.size
  cell : ∀ b o, A = some ⟨b, o, none⟩ → ∀ j v, xs[j]? = some v → w.cell? ⟨b, o + j, none⟩ = some v
section
variable {P : Program} {n : Nat} {w0 : World} {W : Nat → Prop} {H : Hp}
theorem Rd.cell_at {A : Option Addr} {m sz : Nat} {xs : List Value} (h : Rd w0 W A m sz xs) {j : Nat} {v : Value} (hv : xs[j]? = some v) :
    ∃ b o, A = some ⟨b, o, none⟩ ∧ ∀ w, HInv w0 W H w → w.cell? ⟨b, o + j, none⟩ = some v := by
  have hm : 0 < m := by
    rcases Nat.eq_zero_or_pos m with e | e
    · have := h.len
      subst e
      simp only [Nat.zero_mul] at this
      rw [List.eq_nil_of_length_eq_zero this] at hv
      cases hv
    · exact e
  obtain ⟨b, o, hA, hW, hlt⟩ := h.ad hm
  refine ⟨b, o, hA, fun w hw => ?_⟩
  rw [World.cell?_of_block (w := w0) (hw.keeps.block b hlt hW)]
  exact h.cell b o hA j v hv
theorem InsK.lit {b o : Nat} {i : Int} {m : Nat} {K : Prop} (h0 : 0 ≤ i) (h1 : i < m) (hk : K) : InsK (some ⟨b, o, none⟩) i m K := ⟨fun _ => ⟨b, o, rfl⟩, h0, h1, hk⟩
theorem InsK.rd {A : Option Addr} {i : Int} {m sz : Nat} {xs : List Value} {K : Prop} (h : Rd w0 W A m sz xs) (h0 : 0 ≤ i) (h1 : i < m) (hk : K) : InsK A i m K :=
  ⟨fun hm => let ⟨b, o, e, _⟩ := h.ad hm; ⟨b, o, e⟩, h0, h1, hk⟩
/-! ### Reads -/
theorem LdK.blk (k : Nat) {t : TypeId} {b o : Nat} {T : TypeId} {cs : List Value} {d : TypeDesc} {v : Value} {K : Value → Prop} (hk : H[k]? = some (.blk b T cs)) (ht : P.underlying t = some d) (hd : aggB d = false)
    (hv : cs[o]? = some v) (h : K v) : LdK P w0 W H t (some ⟨b, o, none⟩) K :=
  ⟨v, fun _ hw => run_load1 ht hd ((blk_cell (hw.at_ hk) o).trans hv), h⟩
theorem LdK.blkN (k : Nat) {t : TypeId} {b o : Nat} {T : TypeId} {cs : List Value} {d : TypeDesc} {i : TypeInfo} {K : Value → Prop} (hk : H[k]? = some (.blk b T cs)) (ht : P.underlying t = some d) (hd : aggB d = true)
    (hi : P.info? t = some i) (hl : Nat.ble (o + i.size) cs.length = true) (h : listK ((cs.drop o).take i.size) fun l => K (.agg l.toArray)) : LdK P w0 W H t (some ⟨b, o, none⟩) K := by
  have hl := Nat.le_of_ble_eq_true hl
  refine ⟨_, fun w hw => run_loadN ht hd hi (cs := (cs.drop o).take i.size) (by simp; omega) (fun j v hv => ?_), listK_sound h⟩
  rw [Addr_add_mid, blk_cell (hw.at_ hk), ← hv, List.getElem?_take]
  split
  · rw [List.getElem?_drop]
  · rename_i hj
    rw [List.getElem?_take, if_neg hj] at hv
    cases hv
theorem LdK.own (k : Nat) (j : Nat) {t : TypeId} {A : Option Addr} {m cap : Nat} {E : TypeId} {sz : Nat} {xs : List Value} {p : Option Addr} {d : TypeDesc} {v : Value} {K : Value → Prop} (hk : H[k]? = some (.own A m cap E sz xs))
    (hp : p = adv A j) (ht : P.underlying t = some d) (hd : aggB d = false) (hv : xs[j]? = some v) (h : K v) : LdK P w0 W H t p K := by
  refine ⟨v, fun w hw => ?_, h⟩
  obtain ⟨g, rfl, hc⟩ := own_cell (hw.at_ hk) hv
  subst hp
  exact run_load1 ht hd (by simpa using hc)
theorem LdK.ownN (k : Nat) (j : Nat) {t : TypeId} {A : Option Addr} {m cap : Nat} {E : TypeId} {sz : Nat} {xs : List Value} {p : Option Addr} {d : TypeDesc} {i : TypeInfo} {cs : List Value} {K : Value → Prop} (hk : H[k]? = some (.own A m cap E sz xs))
    (hp : p = adv A j) (ht : P.underlying t = some d) (hd : aggB d = true) (hi : P.info? t = some i) (hz : Nat.blt 0 i.size = true) (hl : cs.length = i.size) (hv : ∀ q v, cs[q]? = some v → xs[j + q]? = some v) (h : K (.agg cs.toArray)) : LdK P w0 W H t p K := by
  refine ⟨_, fun w hw => ?_, h⟩
  have hz : 0 < i.size := Nat.le_of_ble_eq_true hz
  obtain ⟨g, rfl, _⟩ := own_cell (hw.at_ hk) (hv 0 cs[0] (List.getElem?_eq_getElem (by omega)))
  subst hp
  refine run_loadN ht hd hi hl fun q v hq => ?_
  obtain ⟨g', e, hc⟩ := own_cell (hw.at_ hk) (hv q v hq)
  injection e with e; injection e with e
  subst e
  rw [Addr_add_mid]
  simpa [Nat.zero_add] using hc
theorem LdK.rd {t : TypeId} {A : Option Addr} {m sz : Nat} {xs : List Value} {p : Option Addr} {d : TypeDesc} {v : Value} {K : Value → Prop} (hr : Rd w0 W A m sz xs) (j : Nat)
    (hp : p = adv A j) (ht : P.underlying t = some d) (hd : aggB d = false) (hv : xs[j]? = some v) (h : K v) : LdK P w0 W H t p K := by
  refine ⟨v, fun w hw => ?_, h⟩
  obtain ⟨b, o, rfl, hc⟩ := hr.cell_at (H := H) hv
  subst hp
  exact run_load1 ht hd (hc w hw)
theorem LdK.rdN {t : TypeId} {A : Option Addr} {m sz : Nat} {xs : List Value} {p : Option Addr} {d : TypeDesc} {i : TypeInfo} {cs : List Value} {K : Value → Prop} (hr : Rd w0 W A m sz xs) (j : Nat)
    (hp : p = adv A j) (ht : P.underlying t = some d) (hd : aggB d = true) (hi : P.info? t = some i) (hz : Nat.blt 0 i.size = true) (hl : cs.length = i.size) (hv : ∀ q v, cs[q]? = some v → xs[j + q]? = some v) (h : K (.agg cs.toArray)) : LdK P w0 W H t p K := by
  refine ⟨_, fun w hw => ?_, h⟩
  have hz : 0 < i.size := Nat.le_of_ble_eq_true hz
  obtain ⟨b, o, rfl, _⟩ := hr.cell_at (H := H) (hv 0 cs[0] (List.getElem?_eq_getElem (by omega)))
  subst hp
  refine run_loadN ht hd hi hl fun q v hq => ?_
  obtain ⟨b', o', e, hc⟩ := hr.cell_at (H := H) (hv q v hq)
  injection e with e; injection e with e1 e2
  subst e1 e2
  rw [Addr_add_mid]
  have := hc w hw
  simpa [Nat.add_assoc] using this
/-! ### Writes -/
/-- a list with one place turned, written out -/
def setK : List Value → Nat → Value → (List Value → Prop) → Prop
  | [], _, _, K => K []
  | x :: r, i, v, K => match i with
    | 0 => K (v :: r)
    | i + 1 => setK r i v fun r' => K (x :: r')
def setH : Hp → Nat → Chunk → (Hp → Prop) → Prop
  | [], _, _, K => K []
  | x :: r, i, v, K => match i with
    | 0 => K (v :: r)
    | i + 1 => setH r i v fun r' => K (x :: r')
theorem setK_sound : ∀ {l : List Value} {i : Nat} {v : Value} {K : List Value → Prop}, setK l i v K → K (l.set i v)
  | [], _, _, _, h => h
  | _ :: _, 0, _, _, h => h
  | _ :: r, _ + 1, _, _, h => setK_sound (l := r) h
theorem setH_sound : ∀ {l : Hp} {i : Nat} {v : Chunk} {K : Hp → Prop}, setH l i v K → K (l.set i v)
  | [], _, _, _, h => h
  | _ :: _, 0, _, _, h => h
  | _ :: r, _ + 1, _, _, h => setH_sound (l := r) h
theorem HInv.setRow {w : World} (hw : HInv w0 W H w) {k b : Nat} {T : TypeId} {cs cs' : List Value} (hk : H[k]? = some (.blk b T cs)) : HInv w0 W (H.set k (.blk b T cs')) (w.setRow b cs'.toArray) := by
  have hb : w.heap[b]? = some (.cells cs.toArray T (0, 0)) := hw.at_ hk
  exact hw.turnAt hk rfl rfl rfl (by simp [World.setRow]) (fun k _ hne => setRow_other w b k _ (fun e => hne (by simp [Chunk.block, e]))) (setRow_heap w b _ _ _ _ hb)
    (fun b' hb' => .inl hb')
theorem run_store {t : TypeId} {i : TypeInfo} (hi : P.info? t = some i) {v : Value} (hs : v.cells.size = i.size) (h1 : ∀ u ∈ v.cells.toList, u.oneCell' = true) {b o : Nat} {T : TypeId} {cs : List Value} {w : World} (hg : w.heap[b]? = some (.cells cs.toArray T (0, 0)))
    (hl : o + i.size ≤ cs.length) : (Instr.storeAt t (.pointer (some ⟨b, o, none⟩)) v).run P w = .ok () (w.setRow b (cs.take o ++ v.cells.toList ++ cs.drop (o + i.size)).toArray) := by
  have := run_storeCells_at P b o T v.cells.toList 0 cs.toArray w hg (by simp [hs]; omega) h1
  simp only [Nat.add_zero, Array.length_toList, hs] at this
  simp only [Instr.storeAt, Instr.sureAddr, storeVar, Sem.run_bind, Sem.run_pure, Result.andThen_ok, run_sizeOf hi, hs, ne_eq, not_true_eq_false, if_false]
  exact this
theorem one_cells {v : Value} (h : v.oneCell' = true) : v.cells = #[v] := by
  cases v <;> first | rfl | cases h
theorem take_set {l : List Value} {o : Nat} (h : o < l.length) (v : Value) : l.take o ++ [v] ++ l.drop (o + 1) = l.set o v := by
  rw [List.set_eq_take_append_cons_drop, if_pos h]; simp
theorem StK.blk_ (k : Nat) {t : TypeId} {b o : Nat} {T : TypeId} {cs : List Value} {i : TypeInfo} {v : Value} {K : Hp → Prop} (hk : H[k]? = some (.blk b T cs)) (hi : P.info? t = some i) (hs : Nat.beq i.size 1 = true) (h1 : v.oneCell' = true)
    (hl : o < cs.length) (h : K (H.set k (.blk b T (cs.set o v)))) : StK P w0 W H t (some ⟨b, o, none⟩) v K := by
  have hs := Nat.eq_of_beq_eq_true hs
  refine ⟨_, fun w hw => ⟨_, run_store (cs := cs) (T := T) hi (by rw [one_cells h1, hs]; rfl) (by rw [one_cells h1]; simpa using h1) (hw.at_ hk) (by rw [hs]; omega), ?_⟩, h⟩
  rw [one_cells h1, hs]
  have : cs.take o ++ [v] ++ cs.drop (o + 1) = cs.set o v := take_set hl v
  rw [this]
  exact hw.setRow hk
/-- into a block that is written out -/
theorem StK.blk (k : Nat) {t : TypeId} {b o : Nat} {T : TypeId} {cs : List Value} {i : TypeInfo} {v : Value} {K : Hp → Prop} (hk : H[k]? = some (.blk b T cs)) (hi : P.info? t = some i) (hs : Nat.beq i.size 1 = true) (h1 : v.oneCell' = true)
    (hl : Nat.blt o cs.length = true) (h : setK cs o v fun cs' => setH H k (.blk b T cs') K) : StK P w0 W H t (some ⟨b, o, none⟩) v K :=
  StK.blk_ k hk hi hs h1 (Nat.le_of_ble_eq_true hl) (setH_sound (setK_sound h))
/-- into a block whose cells are not written out: the place is told -/
theorem StK.blkS (k : Nat) {t : TypeId} {b o : Nat} {T : TypeId} {cs : List Value} {i : TypeInfo} {v : Value} {K : Hp → Prop} (hk : H[k]? = some (.blk b T cs)) (hi : P.info? t = some i) (hs : Nat.beq i.size 1 = true) (h1 : v.oneCell' = true)
    (hl : o < cs.length) (h : setH H k (.blk b T (cs.set o v)) K) : StK P w0 W H t (some ⟨b, o, none⟩) v K :=
  StK.blk_ k hk hi hs h1 hl (setH_sound h)
/-- a value of several cells -/
theorem StK.blkN (k : Nat) {t : TypeId} {b o : Nat} {T : TypeId} {cs : List Value} {i : TypeInfo} {vs : Array Value} {K : Hp → Prop} (hk : H[k]? = some (.blk b T cs)) (hi : P.info? t = some i) (hs : vs.size = i.size) (h1 : ∀ u ∈ vs.toList, u.oneCell' = true)
    (hl : o + i.size ≤ cs.length) (h : setH H k (.blk b T (cs.take o ++ vs.toList ++ cs.drop (o + i.size))) K) : StK P w0 W H t (some ⟨b, o, none⟩) (.agg vs) K :=
  ⟨_, fun _ hw => ⟨_, run_store (cs := cs) (T := T) (v := .agg vs) hi hs h1 (hw.at_ hk) hl, hw.setRow hk⟩, setH_sound h⟩
theorem own_set {w : World} {A : Option Addr} {m cap : Nat} {E : TypeId} {sz : Nat} {xs : List Value} (h : (Chunk.own A m cap E sz xs).ok w) {j : Nat} {vs : List Value} (hvs : 0 < vs.length) (hl : j + vs.length ≤ xs.length) :
    ∃ g cur, A = some ⟨g, 0, none⟩ ∧ w.heap[g]? = some (.cells cur E (0, 0)) ∧ j + vs.length ≤ cur.size ∧
      (Chunk.own A m cap E sz (xs.take j ++ vs ++ xs.drop (j + vs.length))).ok (w.setRow g (cur.toList.take j ++ vs ++ cur.toList.drop (j + vs.length)).toArray) := by
  rcases h.2 with ⟨h1, h2⟩ | ⟨g, cap', cur, h1, hb, hg, h2, h3, h4, htake⟩
  · subst h2
    have := h.1
    simp only [Nat.zero_mul] at this
    omega
  · injection h1 with h1 h1' h1''
    subst h1 h1''
    have hm : m * sz ≤ cur.size := by rw [h4]; exact Nat.mul_le_mul_right _ h2
    have hx := h.1
    refine ⟨g, cur, rfl, hg, by omega, ?_, .inr ⟨g, cap, _, rfl, hb, setRow_heap w g cur _ E _ hg, h2, h3, ?_, ?_⟩⟩
    · simp; omega
    · simp; omega
    · rw [← htake]
      apply List.ext_getElem?
      intro q
      simp only [List.getElem?_take, List.getElem?_append, List.length_take, List.getElem?_drop, List.length_append, Array.length_toList]
      by_cases h1 : q < j
      · have e1 : q < min j (cur.size) := by omega
        have e2 : q < min j (min (m * sz) cur.size) := by omega
        have e3 : q < min j cur.size + vs.length := by omega
        have e4 : q < min j (min (m * sz) cur.size) + vs.length := by omega
        simp [h1, e1, e2, e3, e4, show q < m * sz by omega]
      · by_cases h2 : q < j + vs.length
        · have e5 : min j cur.size = j := by omega
          have e6 : min j (min (m * sz) cur.size) = j := by omega
          simp [h1, e5, e6, h2, show q < m * sz by omega]
        · have e5 : min j cur.size = j := by omega
          have e6 : min j (min (m * sz) cur.size) = j := by omega
          simp only [e5, e6, h1, h2, if_false]
          have : j + vs.length + (q - (j + vs.length)) = q := by omega
          rw [this]
theorem HInv.ownSet {w : World} (hw : HInv w0 W H w) {k : Nat} {A : Option Addr} {m cap : Nat} {E : TypeId} {sz : Nat} {xs xs' : List Value} {g : Nat} {row : Array Value} (hk : H[k]? = some (.own A m cap E sz xs)) (hA : A = some ⟨g, 0, none⟩)
    (hok : (Chunk.own A m cap E sz xs').ok (w.setRow g row)) : HInv w0 W (H.set k (.own A m cap E sz xs')) (w.setRow g row) := by
  subst hA
  exact hw.turnAt hk rfl rfl rfl (by simp [World.setRow]) (fun k _ hne => setRow_other w g k _ (fun e => hne (by simp [Chunk.block, Value.ownBlock, e]))) hok (fun b' hb' => .inl hb')
theorem StK.own (k : Nat) (j : Nat) {t : TypeId} {A : Option Addr} {m cap : Nat} {E : TypeId} {sz : Nat} {xs : List Value} {p : Option Addr} {i : TypeInfo} {v : Value} {K : Hp → Prop} (hk : H[k]? = some (.own A m cap E sz xs)) (hA : ∃ g, A = some ⟨g, 0, none⟩)
    (hp : p = adv A j) (hi : P.info? t = some i) (hs : Nat.beq i.size 1 = true) (h1 : v.oneCell' = true) (hl : j < xs.length) (h : setH H k (.own A m cap E sz (xs.set j v)) K) : StK P w0 W H t p v K := by
  have hs := Nat.eq_of_beq_eq_true hs
  obtain ⟨g, rfl⟩ := hA
  subst hp
  refine ⟨_, fun w hw => ?_, setH_sound h⟩
  obtain ⟨g', cur, e, hg, hlen, hok⟩ := own_set (hw.at_ hk) (j := j) (vs := [v]) (by simp) (by simp; omega)
  injection e with e; injection e with e
  subst e
  refine ⟨_, run_store (cs := cur.toList) (T := E) hi (by rw [one_cells h1, hs]; rfl) (by rw [one_cells h1]; simpa using h1) (by simpa using hg) (by simp at hlen; simp; omega), ?_⟩
  rw [one_cells h1, hs]
  have e2 : xs.take j ++ [v] ++ xs.drop (j + [v].length) = xs.set j v := take_set hl v
  rw [e2] at hok
  simp only [Nat.zero_add]
  exact hw.ownSet hk rfl hok
theorem StK.ownN (k : Nat) (j : Nat) {t : TypeId} {A : Option Addr} {m cap : Nat} {E : TypeId} {sz : Nat} {xs : List Value} {p : Option Addr} {i : TypeInfo} {vs : Array Value} {K : Hp → Prop} (hk : H[k]? = some (.own A m cap E sz xs)) (hA : ∃ g, A = some ⟨g, 0, none⟩)
    (hp : p = adv A j) (hi : P.info? t = some i) (hz : Nat.blt 0 i.size = true) (hs : vs.size = i.size) (h1 : ∀ u ∈ vs.toList, u.oneCell' = true) (hl : j + i.size ≤ xs.length) (h : setH H k (.own A m cap E sz (xs.take j ++ vs.toList ++ xs.drop (j + i.size))) K) :
    StK P w0 W H t p (.agg vs) K := by
  have hz : 0 < i.size := Nat.le_of_ble_eq_true hz
  obtain ⟨g, rfl⟩ := hA
  subst hp
  refine ⟨_, fun w hw => ?_, setH_sound h⟩
  obtain ⟨g', cur, e, hg, hlen, hok⟩ := own_set (hw.at_ hk) (j := j) (vs := vs.toList) (by simp; omega) (by simp; omega)
  injection e with e; injection e with e
  subst e
  refine ⟨_, run_store (cs := cur.toList) (T := E) (v := .agg vs) hi hs h1 (by simpa using hg) (by simp [hs] at hlen; simp; omega), ?_⟩
  simp only [Array.length_toList, hs] at hok
  simp only [Nat.zero_add, Value.cells]
  exact hw.ownSet hk rfl hok
end
section
variable {P : Program} {n : Nat} {w0 : World} {W : Nat → Prop} {H : Hp}
/-! ### New slices -/
theorem HInv.new_own {w : World} (h : HInv w0 W H w) (E : TypeId) (m sz : Nat) (cs : List Value) (hl : cs.length = m * sz) (hm : m ≤ maxLen) :
    HInv w0 W (.own (some ⟨w.heap.size, 0, none⟩) m m E sz cs :: H) (w.alloc (.cells cs.toArray E)) := by
  have h1 := h.new_blk E cs
  have hlow := World.ownsRow_lit (base := 0) (e := E) (size := sz) w cs.toArray m (Nat.zero_le _) hm (by simpa using hl)
  refine ⟨h1.keeps, ⟨fun c hc => ?_, ?_⟩, fun c hc b hb => ?_⟩
  · rcases List.mem_cons.1 hc with rfl | hc
    · exact hlow
    · exact h1.hok.ok c (List.mem_cons_of_mem _ hc)
  · exact List.pairwise_cons.2 ⟨fun d hd b hb hb' => (List.pairwise_cons.1 h1.hok.apart).1 d hd b hb hb', (List.pairwise_cons.1 h1.hok.apart).2⟩
  · rcases List.mem_cons.1 hc with rfl | hc
    · exact h1.new _ List.mem_cons_self b hb
    · exact h1.new c (List.mem_cons_of_mem _ hc) b hb
theorem EffK.made {t e : TypeId} {i : TypeInfo} {z : Value} {K : Value → Hp → Prop} {kl kc : IntKind} {l : Int} (m : Nat) (ht : P.underlying t = some (.slice e)) (hi : P.info? e = some i) (hz : i.zero = some z)
    (hl : l = m) (hb : i.bytes * m ≤ 281474976710656) (h63 : m ≤ maxLen)
    (h : ∀ b, K (.slice (some ⟨b, 0, none⟩) m m) (.own (some ⟨b, 0, none⟩) m m e i.size (madeCells z.cells (m * i.size)).toList :: H)) :
    EffK P w0 W H (Instr.makeSlice t (.int kl l) (.int kc l)) K := by
  subst hl
  refine ⟨fun w hw => ?_⟩
  have h63' : (m : Int) ≤ 9223372036854775807 := by
    have h := h63
    simp [maxLen] at h
    omega
  have hb' : (i.bytes : Int) * (m : Int) ≤ 281474976710656 := by
    have h : ((i.bytes * m : Nat) : Int) ≤ 281474976710656 := by omega
    rwa [Int.natCast_mul] at h
  have hr := run_make (P := P) w t e i z ht hi hz kl kc m m (by omega) (Int.le_refl _) hb' h63'
  simp only [Int.toNat_natCast] at hr
  exact ⟨_, _, _, hr, hw.new_own e m i.size (madeCells z.cells (m * i.size)).toList (by rw [Array.length_toList, size_madeCells]) h63, h _⟩
/-- `make([]T, 0, c)` -/
theorem EffK.made0 {t e : TypeId} {i : TypeInfo} {z : Value} {K : Value → Hp → Prop} {kl kc : IntKind} {l c : Int} (m : Nat) (ht : P.underlying t = some (.slice e)) (hi : P.info? e = some i) (hz : i.zero = some z)
    (hl : l = 0) (hc : c = m) (hb : i.bytes * m ≤ 281474976710656) (h63 : m ≤ maxLen) (h : ∀ b, K (.slice (some ⟨b, 0, none⟩) 0 m) (.own (some ⟨b, 0, none⟩) 0 m e i.size [] :: H)) :
    EffK P w0 W H (Instr.makeSlice t (.int kl l) (.int kc c)) K := by
  subst hl hc
  refine ⟨fun w hw => ?_⟩
  have h63' : (m : Int) ≤ 9223372036854775807 := by
    have h := h63
    simp [maxLen] at h
    omega
  have hb' : (i.bytes : Int) * (m : Int) ≤ 281474976710656 := by
    have h : ((i.bytes * m : Nat) : Int) ≤ 281474976710656 := by omega
    rwa [Int.natCast_mul] at h
  have hr := run_make (P := P) w t e i z ht hi hz kl kc 0 m (by omega) (by omega) hb' h63'
  simp only [Int.toNat_natCast] at hr
  refine ⟨_, _, _, hr, ?_, h _⟩
  have h1 := hw.new_own e m i.size (madeCells z.cells (m * i.size)).toList (by rw [Array.length_toList, size_madeCells]) h63
  have hs := World.ownsRow_made (base := 0) (e := e) (size := i.size) w (madeCells z.cells (m * i.size)) m (Nat.zero_le _) h63 (size_madeCells _ _)
  refine ⟨h1.keeps, ⟨fun c hc => ?_, ?_⟩, fun c hc b hb => ?_⟩
  · rcases List.mem_cons.1 hc with rfl | hc
    · exact hs
    · exact h1.hok.ok c (List.mem_cons_of_mem _ hc)
  · exact List.pairwise_cons.2 ⟨fun d hd b hb hb' => (List.pairwise_cons.1 h1.hok.apart).1 d hd b hb hb', (List.pairwise_cons.1 h1.hok.apart).2⟩
  · rcases List.mem_cons.1 hc with rfl | hc
    · exact h1.new _ List.mem_cons_self b hb
    · exact h1.new c (List.mem_cons_of_mem _ hc) b hb
/-- `[]T{..}`: the cells are reckoned -/
def litCells (zero : Array Value) (len size : Nat) (ps : List (Nat × Value)) : Option (Array Value) :=
  Instr.fill (fun i => some (i * size, size)) ((Array.range (len * size)).map (zero[· % zero.size]!)) ps
theorem EffK.lit {t e : TypeId} {i : TypeInfo} {z : Value} {len : Nat} {ps : List (Nat × Value)} {cs : Array Value} {K : Value → Hp → Prop} (ht : P.underlying t = some (.slice e)) (hi : P.info? e = some i) (hz : i.zero = some z)
    (hlen : Nat.ble (len * i.size) 16777216 = true) (hlen2 : Nat.ble len 16777216 = true) (hcs : litCells z.cells len i.size ps = some cs) (hsz : Nat.beq cs.size (len * i.size) = true)
    (h : listK cs.toList fun l => ∀ b, K (.slice (some ⟨b, 0, none⟩) len len) (.own (some ⟨b, 0, none⟩) len len e i.size l :: H)) :
    EffK P w0 W H (Instr.buildSlice t len ps.toArray) K := by
  have hlen := Nat.le_of_ble_eq_true hlen
  have hlen2 := Nat.le_of_ble_eq_true hlen2
  have hsz := Nat.eq_of_beq_eq_true hsz
  have hk := listK_sound h
  refine ⟨fun w hw => ?_⟩
  have h63 : len ≤ maxLen := by
    simp [maxLen]
    omega
  have hn := hw.new_own e len i.size cs.toList (by rw [Array.length_toList, hsz]) h63
  refine ⟨.slice (some ⟨w.heap.size, 0, none⟩) len len, w.alloc (.cells cs e), _, ?_, hn, hk _⟩
  have hnot : ¬ (len * i.size > 2 ^ 24) := by omega
  unfold litCells at hcs
  by_cases h0 : len * i.size = 0
  · simp only [h0, Array.range_zero', List.map_toArray, List.map_nil] at hcs
    simp only [Instr.buildSlice, Sem.run_bind, run_underlying ht, Result.andThen_ok, run_sizeOf hi, h0, if_true]
    simp [hcs, newRow, Array.range_zero']
  · simp only [Instr.buildSlice, Sem.run_bind, run_underlying ht, Result.andThen_ok, run_sizeOf hi, hnot, if_false, h0, Sem.run_pure, zeroValue, typeInfo, run_program, hi, hz]
    simp [hcs, newRow]
/-- `[]T{}` -/
theorem EffK.lit0 {t e : TypeId} {i : TypeInfo} {K : Value → Hp → Prop} (ht : P.underlying t = some (.slice e)) (hi : P.info? e = some i)
    (h : ∀ b, K (.slice (some ⟨b, 0, none⟩) 0 0) (.own (some ⟨b, 0, none⟩) 0 0 e i.size [] :: H)) : EffK P w0 W H (Instr.buildSlice t 0 [].toArray) K := by
  refine ⟨fun w hw => ?_⟩
  have hn := hw.new_own e 0 i.size [] (by simp) (Nat.zero_le _)
  refine ⟨.slice (some ⟨w.heap.size, 0, none⟩) 0 0, w.alloc (.cells #[] e), _, ?_, hn, h _⟩
  simp [Instr.buildSlice, run_underlying ht, run_sizeOf hi, newRow, Instr.fill, Array.range_zero']
/-! ### append, copy -/
/-- what is appended: cells that lie somewhere, in whatever world has these blocks -/
def Src (w0 : World) (W : Nat → Prop) (H : Hp) (A : Option Addr) (m sz : Nat) (news : List Value) : Prop :=
  news.length = m * sz ∧ ∀ w, HInv w0 W H w → 0 < m → ∃ ad, A = some ad ∧ ∀ j v, news[j]? = some v → w.cell? (ad.add j) = some v
theorem Src.own {k : Nat} {A : Option Addr} {m' m cap : Nat} {E : TypeId} {sz : Nat} {xs : List Value} (hk : H[k]? = some (.own A m' cap E sz xs)) (hm : m ≤ m') (hl : xs.length = m' * sz) : Src w0 W H A m sz (xs.take (m * sz)) := by
  have hle : m * sz ≤ m' * sz := Nat.mul_le_mul_right _ hm
  refine ⟨by rw [List.length_take, hl]; omega, fun w hw h0 => ?_⟩
  rcases (hw.at_ hk).2 with ⟨h1, h2⟩ | ⟨g, cap', cur, h1, hb, hg, h2, h3, h4, htake⟩
  · omega
  · injection h1 with h1
    refine ⟨_, h1, fun j v hv => ?_⟩
    rw [Addr_add_mid, Nat.zero_add]
    obtain ⟨g', e, hc⟩ := own_cell (hw.at_ hk) (j := j) (v := v) (by
      rw [List.getElem?_take] at hv
      split at hv
      · exact hv
      · cases hv)
    rw [h1] at e
    injection e with e; injection e with e
    rw [e]; exact hc
theorem Src.rd {A : Option Addr} {m sz : Nat} {xs : List Value} (h : Rd w0 W A m sz xs) : Src w0 W H A m sz xs := by
  refine ⟨h.len, fun w hw h0 => ?_⟩
  obtain ⟨b, o, hA, hW, hlt⟩ := h.ad h0
  refine ⟨_, hA, fun j v hv => ?_⟩
  rw [Addr_add_mid, World.cell?_of_block (w := w0) (hw.keeps.block b hlt hW)]
  exact h.cell b o hA j v hv
/-- part of it -/
theorem Src.rdCut {A : Option Addr} {m sz : Nat} {xs : List Value} (h : Rd w0 W A m sz xs) {l q c : Nat} (hl : l + q ≤ m) (hc : m ≤ c) : Src w0 W H (cutA A l c sz) q sz ((xs.drop (l * sz)).take (q * sz)) := by
  have hle : l * sz + q * sz ≤ m * sz := by rw [← Nat.add_mul]; exact Nat.mul_le_mul_right _ hl
  refine ⟨by rw [List.length_take, List.length_drop, h.len]; omega, fun w hw h0 => ?_⟩
  obtain ⟨b, o, hA, hW, hlt⟩ := h.ad (by omega)
  have hcut : cutA A l c sz = some ⟨b, o + l * sz, none⟩ := by
    unfold cutA
    rw [if_neg (by omega), hA]; rfl
  refine ⟨_, hcut, fun j v hv => ?_⟩
  rw [Addr_add_mid, World.cell?_of_block (w := w0) (hw.keeps.block b hlt hW), Nat.add_assoc]
  refine h.cell b o hA (l * sz + j) v ?_
  rw [List.getElem?_take] at hv
  split at hv
  · rw [List.getElem?_drop] at hv; exact hv
  · cases hv
theorem run_append_types {t t2 ty e e2 : TypeId} (ht : P.underlying t = some (.slice e)) (ht2 : P.underlying t2 = some (.slice e2)) (A : Option Addr) (m c : Nat) (x : Value) (w : World) :
    (Builtin.append_ #[t, t2] ty #[.slice A m c, x]).run P w = (Builtin.append_ #[t, t] ty #[.slice A m c, x]).run P w := by
  simp [Builtin.append_, run_underlying ht, run_underlying ht2]
theorem EffK.append (k : Nat) {t t2 ty e e2 : TypeId} {i : TypeInfo} {z : Value} {A A2 : Option Addr} {m cap m2 c2 sz : Nat} {xs news : List Value} {K : Value → Hp → Prop} (hk : H[k]? = some (.own A m cap e sz xs))
    (ht : P.underlying t = some (.slice e)) (ht2 : P.underlying t2 = some (.slice e2)) (hi : P.info? e = some i) (hz : i.zero = some z) (hsz : Nat.beq i.size sz = true) (hzs : Nat.beq z.cells.size sz = true) (hpos : Nat.blt 0 sz = true)
    (hs : Src w0 W H A2 m2 sz news) (h1 : ∀ u ∈ news, u.oneCell' = true) (h63 : m + m2 ≤ maxLen) (hb : (m + m2) * i.bytes ≤ 140737488355328)
    (h : ∀ A' cap', setH H k (.own A' (m + m2) cap' e sz (xs ++ news)) fun H' => K (.slice A' (m + m2) cap') H') :
    EffK P w0 W H (Builtin.append_ #[t, t2] ty #[.slice A m cap, .slice A2 m2 c2]) K := by
  have hsz := Nat.eq_of_beq_eq_true hsz
  have hzs := Nat.eq_of_beq_eq_true hzs
  have hpos : 0 < sz := Nat.le_of_ble_eq_true hpos
  refine ⟨fun w hw => ?_⟩
  have hown : w.ownsRow 0 e sz (.slice A m cap) m xs := hw.at_ hk
  have key : ∃ v' w', (Builtin.append_ #[t, t] ty #[.slice A m cap, .slice A2 m2 c2]).run P w = .ok v' w' ∧ w'.ownsRow 0 e sz v' (m + m2) (xs ++ news) ∧ w.grownBy w' (Value.slice A m cap).ownBlock ∧
      (v'.ownBlock = (Value.slice A m cap).ownBlock ∨ v'.ownBlock = some w.heap.size) := by
    rcases Nat.eq_zero_or_pos m2 with h0 | h0
    · subst h0
      have hn : news = [] := List.eq_nil_of_length_eq_zero (by simpa using hs.1)
      subst hn
      refine ⟨.slice A m cap, w, ?_, by simpa using hown, ⟨rfl, rfl, rfl, Nat.le_refl _, fun _ _ _ => rfl⟩, .inl rfl⟩
      rcases hown.2 with ⟨h1, h2⟩ | ⟨g, cap', cur, h1, _, _, hnc, _⟩
      · injection h1 with h1 h2 h3
        subst h1 h2 h3
        rcases A2 with _ | a2 <;> simp [Builtin.append_, run_underlying ht, sizeOf, typeInfo, hi, Builtin.lenOf, Builtin.firstCells, loadCells, loadCellsFrom]
      · injection h1 with h1 h2 h3
        subst h1 h3
        rcases A2 with _ | a2 <;> simp [Builtin.append_, run_underlying ht, sizeOf, typeInfo, hi, Builtin.lenOf, Builtin.firstCells, hnc, storeCells, loadCells, loadCellsFrom]
    · obtain ⟨ad, rfl, hc⟩ := hs.2 w hw h0
      obtain ⟨v', w', r1, r2, r3, _, r5⟩ := run_append_own_at (P := P) w 0 t ty e i z sz i.bytes ht hi hz hsz rfl hzs hpos (.slice A m cap) m xs hown ad m2 c2 news hs.1 hc h1 h63 hb (Nat.zero_le _)
      exact ⟨v', w', r1, r2, r3, r5⟩
  obtain ⟨v', w', r1, r2, r3, r4⟩ := key
  have hform : ∃ A' cap', v' = .slice A' (m + m2) cap' := by
    rcases r2.2 with ⟨e1, e2⟩ | ⟨g, cap', cur, e1, _⟩
    · exact ⟨none, 0, by rw [e1, e2]⟩
    · exact ⟨_, _, e1⟩
  obtain ⟨A', cap', rfl⟩ := hform
  refine ⟨_, w', _, (run_append_types ht ht2 _ _ _ _ _).trans r1, ?_, setH_sound (h A' cap')⟩
  exact hw.turnAt hk r3.os r3.tape r3.output r3.size (fun b hb hne => r3.block b hb (fun e => hne e.symm)) r2
    (fun b hb => by rcases r4 with e | e
                    · exact .inl (by rw [← hb]; exact e.symm)
                    · refine .inr ?_
                      have hb' : (Value.slice A' (m + m2) cap').ownBlock = some b := hb
                      rw [e] at hb'
                      injection hb' with hb'
                      omega)
end
/-! ## Calls -/
/-- chunks taken out one by one: the first number is a place in the whole list, the second one in what is left, and so on -/
def pick1 {α : Type} : List α → Nat → Option (α × List α)
  | [], _ => none
  | x :: r, 0 => some (x, r)
  | x :: r, k + 1 => match pick1 r k with
    | some (y, r') => some (y, x :: r')
    | none => none
theorem pick1_perm {α : Type} : ∀ {l : List α} {k : Nat} {y : α} {r : List α}, pick1 l k = some (y, r) → l.Perm (y :: r)
  | [], _, _, _, h => by simp [pick1] at h
  | x :: l, 0, y, r, h => by simp only [pick1, Option.some.injEq, Prod.mk.injEq] at h; obtain ⟨rfl, rfl⟩ := h; exact List.Perm.refl _
  | x :: l, k + 1, y, r, h => by
    simp only [pick1] at h
    split at h
    · rename_i y' r' hp
      simp only [Option.some.injEq, Prod.mk.injEq] at h
      obtain ⟨rfl, rfl⟩ := h
      exact (List.Perm.cons x (pick1_perm hp)).trans (List.Perm.swap _ _ _)
    · cases h
def picks : Hp → List Nat → Option (Hp × Hp)
  | H, [] => some ([], H)
  | H, k :: ks => match pick1 H k with
    | some (c, r) => match picks r ks with
      | some (a, b) => some (c :: a, b)
      | none => none
    | none => none
theorem picks_perm : ∀ {ks : List Nat} {H a b : Hp}, picks H ks = some (a, b) → H.Perm (a ++ b)
  | [], H, a, b, h => by simp only [picks, Option.some.injEq, Prod.mk.injEq] at h; obtain ⟨rfl, rfl⟩ := h; exact List.Perm.refl _
  | k :: ks, H, a, b, h => by
    simp only [picks] at h
    split at h
    · rename_i c r hp
      split at h
      · rename_i a' b' hq
        simp only [Option.some.injEq, Prod.mk.injEq] at h
        obtain ⟨rfl, rfl⟩ := h
        exact (pick1_perm hp).trans (List.Perm.cons c (picks_perm hq))
      · cases h
    · cases h
/-- the rest of the blocks, behind those that a call left, written out -/
def restK (H : Hp) (ks : List Nat) (K : Hp → Prop) : Prop := match picks H ks with | some (_, b) => K b | none => False
def appK : Hp → Hp → (Hp → Prop) → Prop
  | [], r, K => K r
  | c :: l, r, K => appK l r fun l' => K (c :: l')
theorem appK_sound : ∀ {l r : Hp} {K : Hp → Prop}, appK l r K → K (l ++ r)
  | [], _, _, h => h
  | _ :: l, _, _, h => appK_sound (l := l) h
section
variable {P : Program} {n : Nat} {w0 : World} {W : Nat → Prop} {H : Hp}
theorem blocks_lt {Hin Hr : Hp} {w : World} (hw : HInv w0 W (Hin ++ Hr) w) : HOk Hin w := (hw.drop (List.sublist_append_left Hin Hr)).hok
/-- A call by its contract; `ks`: which blocks it is given. -/
theorem CallK.of (ks : List Nat) {f : FuncId} {args : List Value} {Hin Hr : Hp} {pre : World → Prop} {Q : Value → Hp → Prop} {K : Value → Hp → Prop} (hf : FnS P f args Hin pre Q) (hk : picks H ks = some (Hin, Hr))
    (hp : ∀ w, HInv w0 W (Hin ++ Hr) w → pre w) (h : ∀ v H', Q v H' → restK H ks fun Hr => appK H' Hr fun H'' => K v H'') : CallK P w0 W H f args K := by
  refine ⟨fun w hw => ?_⟩
  have hw' := hw.perm (picks_perm hk)
  refine (hf w (blocks_lt hw') (hp w hw')).mono ?_
  rintro e w' ⟨v, H', rfl, h1, h2⟩
  have h3 := h v H' h2
  unfold restK at h3
  rw [hk] at h3
  exact ⟨v, H' ++ Hr, rfl, hw'.frame h1, appK_sound h3⟩
theorem CallK.cast {f : FuncId} {args : List Value} {K : Value → Hp → Prop} (args' : List Value) (h : args = args') (hk : CallK P w0 W H f args' K) : CallK P w0 W H f args K := h ▸ hk
/-- a contract without any block of the caller's -/
theorem CallK.of0 {f : FuncId} {args : List Value} {Q : Value → Hp → Prop} {K : Value → Hp → Prop} (hf : FnS P f args [] (fun _ => True) Q) (h : ∀ v H', Q v H' → appK H' H fun H'' => K v H'') : CallK P w0 W H f args K :=
  CallK.of [] hf rfl (fun _ _ => trivial) h
/-! ### What a callee reads -/
/-- a slice that this call reads: a callee may read it, too -/
theorem Rd.pass {Hin Hr : Hp} {w : World} (hw : HInv w0 W (Hin ++ Hr) w) {A : Option Addr} {m sz : Nat} {xs : List Value} (h : Rd w0 W A m sz xs) : Rd w (blocks Hin) A m sz xs := by
  refine ⟨h.len, fun hm => ?_, fun b o hA j v hv => ?_⟩
  · obtain ⟨b, o, hA, hW, hlt⟩ := h.ad hm
    refine ⟨b, o, hA, fun ⟨c, hc, hcb⟩ => ?_, Nat.lt_of_lt_of_le hlt hw.keeps.size⟩
    rcases hw.new c (List.mem_append_left _ hc) b hcb with h1 | h1
    · exact hW h1
    · omega
  · obtain ⟨b', o', hA', hc⟩ := h.cell_at (H := Hin ++ Hr) hv
    rw [hA] at hA'
    injection hA' with e; injection e with e1 e2
    subst e1 e2
    exact hc w hw
/-- a slice of this call's own that is not given to the callee to write -/
theorem Rd.ofOwn {Hin Hr : Hp} {w : World} (hw : HInv w0 W (Hin ++ Hr) w) (k : Nat) {A : Option Addr} {m cap : Nat} {E : TypeId} {sz : Nat} {xs : List Value} (hk : Hr[k]? = some (.own A m cap E sz xs)) : Rd w (blocks Hin) A m sz xs := by
  have hm := List.mem_of_getElem? hk
  have hok := hw.hok.ok _ (List.mem_append_right Hin hm)
  have hap := (List.pairwise_append.1 hw.hok.apart).2.2
  refine ⟨hok.1, fun h0 => ?_, fun b o hA j v hv => ?_⟩
  · rcases hok.2 with ⟨h1, h2⟩ | ⟨g, cap', cur, h1, hb, hg, h2, h3, h4, htake⟩
    · omega
    · injection h1 with h1
      refine ⟨g, 0, h1, fun ⟨c, hc, hcb⟩ => ?_, (Array.getElem?_eq_some_iff.1 hg).1⟩
      exact hap c hc _ hm g hcb (by rw [h1]; rfl)
  · obtain ⟨g, e, hc⟩ := own_cell hok hv
    rw [e] at hA
    injection hA with e; injection e with e1 e2
    subst e1 e2
    simpa using hc
/-- the same, up to a place -/
theorem Rd.take {w : World} {A : Option Addr} {m m' sz : Nat} {xs : List Value} (h : Rd w W A m sz xs) (hm : m' ≤ m) : Rd w W A m' sz (xs.take (m' * sz)) := by
  have hle : m' * sz ≤ m * sz := Nat.mul_le_mul_right _ hm
  refine ⟨by rw [List.length_take, h.len]; omega, fun h0 => h.ad (by omega), fun b o hA j v hv => ?_⟩
  rw [List.getElem?_take] at hv
  split at hv
  · exact h.cell b o hA j v hv
  · cases hv
/-- a slice of a slice -/
theorem Rd.cut {w : World} {A : Option Addr} {m sz : Nat} {xs : List Value} (h : Rd w W A m sz xs) {l q c : Nat} (hl : l + q ≤ m) (hc : m ≤ c) : Rd w W (cutA A l c sz) q sz ((xs.drop (l * sz)).take (q * sz)) := by
  have hle : l * sz + q * sz ≤ m * sz := by rw [← Nat.add_mul]; exact Nat.mul_le_mul_right _ hl
  refine ⟨by rw [List.length_take, List.length_drop, h.len]; omega, fun h0 => ?_, fun b o hA j v hv => ?_⟩
  · obtain ⟨b, o, hA, hW, hlt⟩ := h.ad (by omega)
    refine ⟨b, o + l * sz, ?_, hW, hlt⟩
    unfold cutA
    rw [if_neg (by omega), hA]; rfl
  · have h0 : 0 < q := by
      rcases Nat.eq_zero_or_pos q with e | e
      · subst e; simp at hv
      · exact e
    obtain ⟨b', o', hA', hW, hlt⟩ := h.ad (by omega)
    have hcut : cutA A l c sz = some ⟨b', o' + l * sz, none⟩ := by
      unfold cutA
      rw [if_neg (by omega), hA']; rfl
    rw [hcut] at hA
    injection hA with e; injection e with e1 e2
    subst e1 e2
    rw [Nat.add_assoc]
    refine h.cell b' o' hA' (l * sz + j) v ?_
    rw [List.getElem?_take] at hv
    split at hv
    · rw [List.getElem?_drop] at hv; exact hv
    · cases hv
/-- a part of a block that is known whole (an array), from a place on -/
theorem Rd.ofBlk {Hin Hr : Hp} {w : World} (hw : HInv w0 W (Hin ++ Hr) w) (k : Nat) {b o : Nat} {T : TypeId} {cs : List Value} {m sz : Nat} (hk : Hr[k]? = some (.blk b T cs)) (hl : o + m * sz ≤ cs.length) :
    Rd w (blocks Hin) (some ⟨b, o, none⟩) m sz ((cs.drop o).take (m * sz)) := by
  have hm := List.mem_of_getElem? hk
  have hok := hw.hok.ok _ (List.mem_append_right Hin hm)
  have hap := (List.pairwise_append.1 hw.hok.apart).2.2
  refine ⟨by rw [List.length_take, List.length_drop]; omega, fun h0 => ⟨b, o, rfl, fun ⟨c, hc, hcb⟩ => hap c hc _ hm b hcb rfl, Chunk.lt hok rfl⟩, fun b' o' hA j v hv => ?_⟩
  injection hA with e; injection e with e1 e2
  subst e1 e2
  rw [blk_cell hok]
  rw [List.getElem?_take] at hv
  split at hv
  · rw [List.getElem?_drop] at hv; exact hv
  · cases hv
theorem Rd.nil {w : World} (sz : Nat) : Rd w W none 0 sz [] := ⟨by simp, fun h => absurd h (by omega), fun b o h => by cases h⟩
theorem Rd.mono {w : World} {W' : Nat → Prop} {A : Option Addr} {m sz : Nat} {xs : List Value} (h : Rd w W A m sz xs) (hW : ∀ b, W' b → W b) : Rd w W' A m sz xs :=
  ⟨h.len, fun h0 => let ⟨b, o, h1, h2, h3⟩ := h.ad h0; ⟨b, o, h1, fun hb => h2 (hW b hb), h3⟩, h.cell⟩
/-! ### copy -/
theorem run_copy {t t2 e : TypeId} {i : TypeInfo} {A A2 : Option Addr} {m cap m2 c2 : Nat} {q : Nat} (ht : P.underlying t = some (.slice e)) (hi : P.info? e = some i) (hs : i.size = 1) (hq : q = min m2 m) {w : World} {news : List Value} {b o : Nat} {T : TypeId} {cs : List Value}
    (hl : news.length = q) (hsrc : 0 < q → ∃ ad, A2 = some ad ∧ ∀ j v, news[j]? = some v → w.cell? (ad.add j) = some v) (h1 : ∀ u ∈ news, u.oneCell' = true)
    (hA : A = some ⟨b, o, none⟩) (hg : w.heap[b]? = some (.cells cs.toArray T (0, 0))) (hfit : o + q ≤ cs.length) (ty : TypeId) :
    (Builtin.copy_ #[t, t2] ty #[.slice A m cap, .slice A2 m2 c2]).run P w = .ok (.int .i64 q) (w.setRow b (cs.take o ++ news ++ cs.drop (o + q)).toArray) := by
  subst hA
  have hf : (Builtin.firstCells 1 q (.slice A2 m2 c2)).run P w = .ok news.toArray w := by
    rcases Nat.eq_zero_or_pos q with h0 | h0
    · have hn : news = [] := List.eq_nil_of_length_eq_zero (by omega)
      rw [h0, hn]
      rcases A2 with _ | a2 <;> simp [Builtin.firstCells, loadCells, loadCellsFrom]
    · obtain ⟨ad, rfl, hc⟩ := hsrc h0
      exact run_firstCells_some (P := P) w 1 q ad m2 c2 news (by omega) hc
  have hst := run_storeCells_at P b o T news 0 cs.toArray w hg (by simp only [List.size_toArray, Nat.add_zero]; omega) h1
  simp only [Nat.add_zero] at hst
  have hmin : Nat.min m2 m = q := hq.symm
  simp only [Builtin.copy_, Sem.run_bind, run_underlying ht, Result.andThen_ok, List.getElem?_toArray, List.getElem?_cons_zero, List.getElem?_cons_succ, Builtin.lenOf, Sem.run_pure, run_sizeOf hi, hs, hmin, hf, hst, goInt, hl]
theorem EffK.copyBlk (k : Nat) {t t2 ty e : TypeId} {i : TypeInfo} {A2 : Option Addr} {m cap m2 c2 b o : Nat} {T : TypeId} {cs news : List Value} {K : Value → Hp → Prop} (q : Nat) (hk : H[k]? = some (.blk b T cs)) (ht : P.underlying t = some (.slice e)) (hi : P.info? e = some i)
    (hs : Nat.beq i.size 1 = true) (hq : q = min m2 m) (hsrc : Src w0 W H A2 q 1 news) (h1 : ∀ u ∈ news, u.oneCell' = true) (hfit : o + q ≤ cs.length)
    (h : setH H k (.blk b T (cs.take o ++ news ++ cs.drop (o + q))) fun H' => K (.int .i64 q) H') : EffK P w0 W H (Builtin.copy_ #[t, t2] ty #[.slice (some ⟨b, o, none⟩) m cap, .slice A2 m2 c2]) K := by
  have hs := Nat.eq_of_beq_eq_true hs
  refine ⟨fun w hw => ⟨_, _, _, run_copy (cs := cs) (T := T) ht hi hs hq (by simpa using hsrc.1) (hsrc.2 w hw) h1 rfl (hw.at_ hk) hfit ty, hw.setRow hk, setH_sound h⟩⟩
theorem EffK.copyOwn (k : Nat) {t t2 ty e E : TypeId} {i : TypeInfo} {A2 A : Option Addr} {m cap m2 c2 o mo capo : Nat} {xs news : List Value} {K : Value → Hp → Prop} (q : Nat) {p : Option Addr} (hk : H[k]? = some (.own A mo capo E 1 xs)) (hA : ∃ g, A = some ⟨g, 0, none⟩) (hp : p = adv A o)
    (ht : P.underlying t = some (.slice e)) (hi : P.info? e = some i)
    (hs : Nat.beq i.size 1 = true) (hq : q = min m2 m) (h0 : 0 < q) (hsrc : Src w0 W H A2 q 1 news) (h1 : ∀ u ∈ news, u.oneCell' = true) (hfit : o + q ≤ xs.length)
    (h : setH H k (.own A mo capo E 1 (xs.take o ++ news ++ xs.drop (o + q))) fun H' => K (.int .i64 q) H') : EffK P w0 W H (Builtin.copy_ #[t, t2] ty #[.slice p m cap, .slice A2 m2 c2]) K := by
  have hs := Nat.eq_of_beq_eq_true hs
  obtain ⟨g, rfl⟩ := hA
  subst hp
  have hl : news.length = q := by simpa using hsrc.1
  refine ⟨fun w hw => ?_⟩
  obtain ⟨g', cur, e', hg, hlen, hok⟩ := own_set (hw.at_ hk) (j := o) (vs := news) (by omega) (by omega)
  injection e' with e'; injection e' with e'
  subst e'
  rw [hl] at hok hlen
  have hr := run_copy (P := P) (t2 := t2) (A := adv (some ⟨g, 0, none⟩) o) (cap := cap) (c2 := c2) (cs := cur.toList) (T := E) ht hi hs hq hl (hsrc.2 w hw) h1 (b := g) (o := o) (by simp [adv]) (by simpa using hg) (by simpa using hlen) ty
  exact ⟨_, _, _, hr, hw.ownSet hk rfl hok, setH_sound h⟩
/-- nothing is copied -/
theorem EffK.copy0 {t t2 ty e : TypeId} {i : TypeInfo} {A2 A : Option Addr} {m cap m2 c2 : Nat} {K : Value → Hp → Prop} (ht : P.underlying t = some (.slice e)) (hi : P.info? e = some i) (hq : min m2 m = 0) (h : K (.int .i64 0) H) :
    EffK P w0 W H (Builtin.copy_ #[t, t2] ty #[.slice A m cap, .slice A2 m2 c2]) K := by
  refine ⟨fun w hw => ⟨_, w, H, ?_, hw, h⟩⟩
  have hmin : Nat.min m2 m = 0 := hq
  have hf : (Builtin.firstCells i.size 0 (.slice A2 m2 c2)).run P w = .ok #[] w := by
    rcases A2 with _ | a2 <;> simp [Builtin.firstCells, loadCells, loadCellsFrom]
  rcases A with _ | a <;>
    simp [Builtin.copy_, Sem.run_bind, run_underlying ht, Builtin.lenOf, run_sizeOf hi, hmin, hf, goInt, storeCells]
end
theorem dT {p : Prop} [Decidable p] (h : decide p = true) : p := of_decide_eq_true h
theorem dF {p : Prop} [Decidable p] (h : decide p = false) : ¬ p := of_decide_eq_false h
theorem neT {a b : Int} (h : (a != b) = true) : a ≠ b := by simpa using h
theorem neF {a b : Int} (h : (a != b) = false) : a = b := by simpa using h
theorem eqT {a b : Int} (h : (a == b) = true) : a = b := by simpa using h
theorem eqF {a b : Int} (h : (a == b) = false) : a ≠ b := by simpa using h
/-! ## The end: a law returns true, and what was there stays -/
theorem law_calls {P : Program} {f : FuncId} {args : List Value} {pre : World → Prop} {Q : Value → Hp → Prop} {v : Value} (h : FnS P f args [] pre Q) (hq : ∀ u H, Q u H → u = v) (w : World) (hp : pre w) :
    Calls P f args.toArray w fun e w' => e = .returned v ∧ Below w.heap.size w w' := by
  refine (h w ⟨fun _ hc => (by cases hc), List.Pairwise.nil⟩ hp).mono ?_
  rintro e w' ⟨u, H, rfl, h1, h2⟩
  refine ⟨by rw [hq u H h2], h1.keeps.os, h1.keeps.tape, h1.keeps.output, h1.keeps.size, fun k hk => h1.keeps.block k hk ?_⟩
  rintro ⟨c, hc, _⟩
  cases hc
end Go.Sx
