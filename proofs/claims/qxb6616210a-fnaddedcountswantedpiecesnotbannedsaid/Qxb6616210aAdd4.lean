import Derived.Test.Qxb6616210aAdd3
import Derived.Test.Qxb6616210aShuf
namespace Go.Proofs.Qxb6616210a
open Go.RowKit

theorem shuf_holds (RB Q P OB PB GB n i : Nat) (hi : i < n) (hn : n ≤ 65536) : Shuf RB Q P OB PB GB n i :=
  fun SB L C order pos group start w hL h hI => shuffle1_c RB Q P OB PB GB SB n L C order pos group start i hi hn hL w h hI

/-- rarity.add. -/
theorem add_c (RB Q P OB PB GB SB n L C : Nat) (order pos group start : Nat → Nat) (i : Nat) (hi : i < n) (hn : n ≤ 65536) (hL : L < 65536) (w : World) (h : RarH RB Q P OB PB GB SB n L C order pos group start w) (hI : Inv0 n L order pos group start) :
    Calls Try.prog 34 #[.pointer (some ⟨RB, 0, Option.none⟩), .int .i64 (i : Int)] w fun e w' => e = .returned (.tuple #[]) ∧ RetAdd RB Q P OB PB GB SB n L group i w w' :=
  add_w RB Q P OB PB GB SB n L C order pos group start i hi hn hL w h hI (shuf_holds RB Q P OB PB GB n i hi hn)

end Go.Proofs.Qxb6616210a
