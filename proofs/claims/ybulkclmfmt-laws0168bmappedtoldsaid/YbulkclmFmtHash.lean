import Derived.Test.YbulkclmFmtSmall
namespace Go.Proofs.YbulkclmFmt
set_option linter.unusedVariables false

def hashN (key : ByteArray) : Nat := (hashTo (strB key) key.size).toNat
theorem hashN_eq (key : ByteArray) : hashTo (strB key) key.size = (hashN key : Int) := by
  have := hashTo_range (strB key) key.size
  unfold hashN; omega
theorem hashN_lt (key : ByteArray) : hashN key < 4294967296 := by
  have := hashTo_range (strB key) key.size
  unfold hashN; omega

end Go.Proofs.YbulkclmFmt
