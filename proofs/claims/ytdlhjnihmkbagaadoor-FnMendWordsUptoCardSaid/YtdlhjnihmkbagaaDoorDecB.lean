/- The contract of utf8.DecodeRune at bytes that lie at an address. Conditions: the tables of utf8. -/
import Derived.Test.YtdlhjnihmkbagaaDoorShelf7
import Derived.Test.YtdlhjnihmkbagaaDoorTabs
import Derived.Test.YtdlhjnihmkbagaaDoorBV
import Derived.Shelf.Spec.DecodeRune
namespace Go.Proofs.YtdlhjnihmkbagaaDoor
open Go.RowKit

theorem decodeB_any (s : ByteArray) (b o c : Nat) (w : World) (hT : Tabs w) (hp : BytesAt s b o w) :
    Calls Tryd.prog 35 #[.slice (some ⟨b, o, none⟩) s.size c] w fun e w' => e = .returned (.tuple #[.int .i32 (Lib.decodeGo s).1, .int .i64 (Lib.decodeGo s).2]) ∧ Below w.heap.size w w' :=
  Any7.utf8_DecodeRune Tryd.lays7_32 s b o c w hT hp
theorem tail_len (s : ByteArray) (i : Nat) : (s.extract i s.size).size = s.size - i := by rw [Lib.size_eq, Lib.extract_data]; simp
end Go.Proofs.YtdlhjnihmkbagaaDoor
