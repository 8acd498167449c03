/- The thin package's functions on single tiles: what each returns. Conditions: the numbers' bounds. -/
import Derived.Test.YtdkknlnlfaoapaaTileA
import Derived.Test.YtdkknlnlfaoapaaTileB
import Derived.Test.YtdkknlnlfaoapaaRegion
namespace Go.Proofs.Ytdkknlnlfaoapaa
open Go.ChangeShapes Go.WideShapes Go.ChangeAt Go.RowKit

/-- Whether a tile of the package contains another one. -/
def contB (x y z v u k : Int) : Bool := decide (z ≤ k) && (x == v / 2 ^ (k - z).toNat && y == u / 2 ^ (k - z).toNat)

end Go.Proofs.Ytdkknlnlfaoapaa
