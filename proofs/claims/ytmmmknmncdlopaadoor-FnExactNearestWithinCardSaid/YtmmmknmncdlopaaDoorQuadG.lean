/- The methods of the three visitors, as the program's tables have them. No condition. -/
import Derived.Test.YtmmmknmncdlopaaDoorQuadF
namespace Go.Proofs.YtmmmknmncdlopaaDoor
open Go.ChangeShapes Go.WideShapes Go.ChangeAt Go.RowKit
open Go.Proofs.YtmmmknmncdlopaaDoor.F

theorem fin_nB (a : Nat) : ∀ w, (nilAhead 266 96 (pt a) "Bound").run Tryd.prog w = .ok (some false) w := fun w => by kernel_rfl
theorem fin_mB (a : Nat) : ∀ w, (method 266 96 (pt a) "Bound").run Tryd.prog w = .ok (100, pt a) w := fun w => by kernel_rfl
theorem fin_eB : ∀ xs w, (callFunc 100 xs).run Tryd.prog w = .ok (.enter 100 xs) w := fun xs w => by kernel_rfl
theorem fin_nP (a : Nat) : ∀ w, (nilAhead 266 96 (pt a) "Point").run Tryd.prog w = .ok (some false) w := fun w => by kernel_rfl
theorem fin_mP (a : Nat) : ∀ w, (method 266 96 (pt a) "Point").run Tryd.prog w = .ok (101, pt a) w := fun w => by kernel_rfl
theorem fin_eP : ∀ xs w, (callFunc 101 xs).run Tryd.prog w = .ok (.enter 101 xs) w := fun xs w => by kernel_rfl
theorem fin_nV (a : Nat) : ∀ w, (nilAhead 266 96 (pt a) "Visit").run Tryd.prog w = .ok (some false) w := fun w => by kernel_rfl
theorem fin_mV (a : Nat) : ∀ w, (method 266 96 (pt a) "Visit").run Tryd.prog w = .ok (102, pt a) w := fun w => by kernel_rfl
theorem fin_eV : ∀ xs w, (callFunc 102 xs).run Tryd.prog w = .ok (.enter 102 xs) w := fun xs w => by kernel_rfl
theorem inb_nB (a : Nat) : ∀ w, (nilAhead 266 106 (pt a) "Bound").run Tryd.prog w = .ok (some false) w := fun w => by kernel_rfl
theorem inb_mB (a : Nat) : ∀ w, (method 266 106 (pt a) "Bound").run Tryd.prog w = .ok (106, pt a) w := fun w => by kernel_rfl
theorem inb_eB : ∀ xs w, (callFunc 106 xs).run Tryd.prog w = .ok (.enter 106 xs) w := fun xs w => by kernel_rfl
theorem inb_nP (a : Nat) : ∀ w, (nilAhead 266 106 (pt a) "Point").run Tryd.prog w = .ok (some false) w := fun w => by kernel_rfl
theorem inb_mP (a : Nat) : ∀ w, (method 266 106 (pt a) "Point").run Tryd.prog w = .ok (107, pt a) w := fun w => by kernel_rfl
theorem inb_eP : ∀ xs w, (callFunc 107 xs).run Tryd.prog w = .ok (.enter 107 xs) w := fun xs w => by kernel_rfl
theorem inb_nV (a : Nat) : ∀ w, (nilAhead 266 106 (pt a) "Visit").run Tryd.prog w = .ok (some false) w := fun w => by kernel_rfl
theorem inb_mV (a : Nat) : ∀ w, (method 266 106 (pt a) "Visit").run Tryd.prog w = .ok (108, pt a) w := fun w => by kernel_rfl
theorem inb_eV : ∀ xs w, (callFunc 108 xs).run Tryd.prog w = .ok (.enter 108 xs) w := fun xs w => by kernel_rfl
theorem nea_nB (a : Nat) : ∀ w, (nilAhead 266 112 (pt a) "Bound").run Tryd.prog w = .ok (some false) w := fun w => by kernel_rfl
theorem nea_mB (a : Nat) : ∀ w, (method 266 112 (pt a) "Bound").run Tryd.prog w = .ok (109, pt a) w := fun w => by kernel_rfl
theorem nea_eB : ∀ xs w, (callFunc 109 xs).run Tryd.prog w = .ok (.enter 109 xs) w := fun xs w => by kernel_rfl
theorem nea_nP (a : Nat) : ∀ w, (nilAhead 266 112 (pt a) "Point").run Tryd.prog w = .ok (some false) w := fun w => by kernel_rfl
theorem nea_mP (a : Nat) : ∀ w, (method 266 112 (pt a) "Point").run Tryd.prog w = .ok (110, pt a) w := fun w => by kernel_rfl
theorem nea_eP : ∀ xs w, (callFunc 110 xs).run Tryd.prog w = .ok (.enter 110 xs) w := fun xs w => by kernel_rfl
theorem nea_nV (a : Nat) : ∀ w, (nilAhead 266 112 (pt a) "Visit").run Tryd.prog w = .ok (some false) w := fun w => by kernel_rfl
theorem nea_mV (a : Nat) : ∀ w, (method 266 112 (pt a) "Visit").run Tryd.prog w = .ok (111, pt a) w := fun w => by kernel_rfl
theorem nea_eV : ∀ xs w, (callFunc 111 xs).run Tryd.prog w = .ok (.enter 111 xs) w := fun xs w => by kernel_rfl
theorem item_n (x : T3) : ∀ w, (nilAhead 266 25 (.agg #[.int .i64 x.1, .int .i64 x.2.1, .int .i64 x.2.2]) "Point").run Tryd.prog w = .ok (some false) w := fun w => by kernel_rfl
theorem item_m (x : T3) : ∀ w, (method 266 25 (.agg #[.int .i64 x.1, .int .i64 x.2.1, .int .i64 x.2.2]) "Point").run Tryd.prog w = .ok (31, .agg #[.int .i64 x.1, .int .i64 x.2.1, .int .i64 x.2.2]) w := fun w => by kernel_rfl

end Go.Proofs.YtmmmknmncdlopaaDoor
