/-
  THE LAW (3), ALL ROADS TOGETHER.
-/
import Derived.Test.YbulkayawDoorLaw0tw
import Derived.Test.YbulkayawDoorLaw0t
import Derived.Test.YbulkayawDoorLaw0w
import Derived.Test.YbulkayawDoorLaw0o
import Derived.Test.YbulkayawDoorLaw1tw
import Derived.Test.YbulkayawDoorLaw1t
import Derived.Test.YbulkayawDoorLaw1w
import Derived.Test.YbulkayawDoorLaw1o
import Derived.Test.YbulkayawDoorLaw2tw
import Derived.Test.YbulkayawDoorLaw2t
import Derived.Test.YbulkayawDoorLaw2w
import Derived.Test.YbulkayawDoorLaw2o
import Derived.Test.YbulkayawDoorLaw3tw
import Derived.Test.YbulkayawDoorLaw3t
import Derived.Test.YbulkayawDoorLaw3w
import Derived.Test.YbulkayawDoorLaw3o
import Derived.Test.YbulkayawDoorPlain
namespace Go.Proofs.YbulkayawDoor
open Go.RowKit

theorem law_any (x0 x1 x2 x3 x4 x5 t sl md : Int) (tm why : Bool) (m : ByteArray) (z : Option Addr) (w : World) (hz : w.cell? ⟨1, 0, none⟩ = some (.pointer z))
    (ht0 : 0 ≤ t) (ht1 : t ≤ 65535) (hs : 0 ≤ sl ∧ sl ≤ 255) (hm : 0 ≤ md ∧ md ≤ 255) (h0 : 0 ≤ x0 ∧ x0 ≤ 255) (h1 : 0 ≤ x1 ∧ x1 ≤ 255) (h2 : 0 ≤ x2 ∧ x2 ≤ 255) (h3 : 0 ≤ x3 ∧ x3 ≤ 255) (h4 : 0 ≤ x4 ∧ x4 ≤ 255) (h5 : 0 ≤ x5 ∧ x5 ≤ 255) :
    Calls Ybad.prog 3 #[.agg #[.int .u8 x0, .int .u8 x1, .int .u8 x2, .int .u8 x3, .int .u8 x4, .int .u8 x5], .int .u16 t, .int .u8 sl, .int .u8 md, .bool tm, .bool why, .string m] w fun e w' => e = .returned (.bool true) ∧ Below w.heap.size w w' := by
  obtain ⟨n, idx, hn0, hn, hi, hlt, hsh⟩ := sizes sl t hs ht0 ht1
  rcases modes md hm with hmd | hmd | hmd | hmd
  · cases tm <;> cases why
    · exact law0_o x0 x1 x2 x3 x4 x5 t sl md m z w n idx hz hmd ht0 ht1 hn0 hn hi hlt hsh
    · exact law0_w x0 x1 x2 x3 x4 x5 t sl md m z w n idx hz hmd ht0 ht1 hn0 hn hi hlt h0 h1 h2 h3 h4 h5 hsh
    · exact law0_t x0 x1 x2 x3 x4 x5 t sl md m z w n idx hz hmd ht0 ht1 hn0 hn hi hlt hsh
    · exact law0_tw x0 x1 x2 x3 x4 x5 t sl md m z w n idx hz hmd ht0 ht1 hn0 hn hi hlt h0 h1 h2 h3 h4 h5 hsh
  · cases tm <;> cases why
    · exact law1_o x0 x1 x2 x3 x4 x5 t sl md m z w n idx hz hmd ht0 ht1 hn0 hn hi hlt hsh
    · exact law1_w x0 x1 x2 x3 x4 x5 t sl md m z w n idx hz hmd ht0 ht1 hn0 hn hi hlt hsh
    · exact law1_t x0 x1 x2 x3 x4 x5 t sl md m z w n idx hz hmd ht0 ht1 hn0 hn hi hlt hsh
    · exact law1_tw x0 x1 x2 x3 x4 x5 t sl md m z w n idx hz hmd ht0 ht1 hn0 hn hi hlt hsh
  · cases tm <;> cases why
    · exact law2_o x0 x1 x2 x3 x4 x5 t sl md m z w n idx hz hmd ht0 ht1 hn0 hn hi hlt hsh
    · exact law2_w x0 x1 x2 x3 x4 x5 t sl md m z w n idx hz hmd ht0 ht1 hn0 hn hi hlt hsh
    · exact law2_t x0 x1 x2 x3 x4 x5 t sl md m z w n idx hz hmd ht0 ht1 hn0 hn hi hlt hsh
    · exact law2_tw x0 x1 x2 x3 x4 x5 t sl md m z w n idx hz hmd ht0 ht1 hn0 hn hi hlt hsh
  · cases tm <;> cases why
    · exact law3_o x0 x1 x2 x3 x4 x5 t sl md m z w n idx hz hmd ht0 ht1 hn0 hn hi hlt hsh
    · exact law3_w x0 x1 x2 x3 x4 x5 t sl md m z w n idx hz hmd ht0 ht1 hn0 hn hi hlt hsh
    · exact law3_t x0 x1 x2 x3 x4 x5 t sl md m z w n idx hz hmd ht0 ht1 hn0 hn hi hlt hsh
    · exact law3_tw x0 x1 x2 x3 x4 x5 t sl md m z w n idx hz hmd ht0 ht1 hn0 hn hi hlt hsh
end Go.Proofs.YbulkayawDoor
