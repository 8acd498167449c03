/- Three whole numbers. No condition. -/
import Derived.Test.YtmmmknmncdlopaaDoorRegionE
namespace Go.Proofs.YtmmmknmncdlopaaDoor

/-- Three whole numbers: an item's column, row and number. -/
abbrev T3 := Int × Int × Int

end Go.Proofs.YtmmmknmncdlopaaDoor
