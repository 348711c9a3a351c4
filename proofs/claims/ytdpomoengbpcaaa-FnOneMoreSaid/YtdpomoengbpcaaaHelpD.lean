/- Walks: laws.arranged, laws.same, spec.Arranged. -/
import Derived.Test.YtdpomoengbpcaaaHelpC
import Derived.Laws.MakeOwn
namespace Go.Proofs.Ytdpomoengbpcaaa
open Go.RowKit Go.Sort Go.Lib

/-- Entry i of the list is the one that the index k tells of. -/
def arrAt (xs : List It) (ks : List Int) (i : Nat) (k : Int) : Bool := decide ((xs.getD i (0, 0)).2 = k) && decide ((xs.getD i (0, 0)).1 = ks.getD k.toNat 0)
/-- What laws.arranged tells. -/
def arrB (xs : List It) (ks os : List Int) : Bool := decide (xs.length = os.length) && (List.range os.length).all fun i => arrAt xs ks i (os.getD i 0)

end Go.Proofs.Ytdpomoengbpcaaa
