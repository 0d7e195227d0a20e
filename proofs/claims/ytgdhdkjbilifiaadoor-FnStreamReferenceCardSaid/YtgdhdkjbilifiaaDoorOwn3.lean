/- A call by its contract, with what is known of the slices that it leaves. No program. -/
import Derived.Test.YtgdhdkjbilifiaaDoorOwn2
namespace Go.Sx
open Go
def ownAll (H : Hp) : Prop := ∀ A m cap E sz xs, Chunk.own A m cap E sz xs ∈ H → OwnA A m cap
theorem CallK.ofA {P : Program} {w0 : World} {W : Nat → Prop} {H : Hp} (ks : List Nat) {f : FuncId} {args : List Value} {Hin Hr : Hp} {pre : World → Prop} {Q : Value → Hp → Prop} {K : Value → Hp → Prop} (hf : FnS P f args Hin pre Q) (hk : picks H ks = some (Hin, Hr))
    (hp : ∀ w, HInv w0 W (Hin ++ Hr) w → pre w) (h : ∀ v H', Q v H' → ownAll H' → restK H ks fun Hr => appK H' Hr fun H'' => K v H'') : CallK P w0 W H f args K :=
  CallK.of (Q := fun v H' => Q v H' ∧ ownAll H') ks (fun w h1 h2 => (hf w h1 h2).mono fun _ _ ⟨v, H', e, h3, h4⟩ => ⟨v, H', e, h3, h4, fun _ _ _ _ _ _ hm => OwnA.of (h3.hok.ok _ hm)⟩) hk hp fun v H' hq => h v H' hq.1 hq.2
end Go.Sx
