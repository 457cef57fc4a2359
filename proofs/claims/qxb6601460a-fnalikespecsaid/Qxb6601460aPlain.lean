/-
  DERIVED. THE PLAIN FUNCTIONS OF THIS SEAT: no Go in sight.
-/
import Derived.WalkKit
namespace Go.Proofs.Qxb6601460a.Plain

def dtInt (d : ByteArray) : Bool := d.toList == [116, 105, 110, 121, 105, 110, 116] || d.toList == [115, 109, 97, 108, 108, 105, 110, 116] || d.toList == [109, 101, 100, 105, 117, 109, 105, 110, 116] || d.toList == [105, 110, 116] || d.toList == [98, 105, 103, 105, 110, 116]
def dtText (d : ByteArray) : Bool := d.toList == [99, 104, 97, 114] || d.toList == [118, 97, 114, 99, 104, 97, 114] || d.toList == [116, 105, 110, 121, 116, 101, 120, 116] || d.toList == [116, 101, 120, 116] || d.toList == [109, 101, 100, 105, 117, 109, 116, 101, 120, 116] || d.toList == [108, 111, 110, 103, 116, 101, 120, 116]
def dtVar (d : ByteArray) : Bool := d.toList == [118, 97, 114, 98, 105, 110, 97, 114, 121] || d.toList == [116, 105, 110, 121, 98, 108, 111, 98] || d.toList == [98, 108, 111, 98] || d.toList == [109, 101, 100, 105, 117, 109, 98, 108, 111, 98] || d.toList == [108, 111, 110, 103, 98, 108, 111, 98]

/-- The family of a data type. -/
def fam (d : ByteArray) : Int := if dtInt d then 1 else if dtText d then 2 else if dtVar d then 3 else 0

/-- Two columns of data types d1, d2, whole types t1, t2, collations y1, y2 are alike. -/
def alikeB (d1 t1 y1 d2 t2 y2 : ByteArray) : Bool :=
  if dtInt d1 && dtInt d2 then true
  else if dtText d1 || dtText d2 then dtText d1 && dtText d2 && y1.toList == y2.toList
  else if dtVar d1 && dtVar d2 then true
  else t1.toList == t2.toList

end Go.Proofs.Qxb6601460a.Plain
