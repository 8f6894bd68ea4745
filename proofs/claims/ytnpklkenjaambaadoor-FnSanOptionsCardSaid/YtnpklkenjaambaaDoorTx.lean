/- Bytes as a text. For every list of bytes. -/
import Derived.Test.YtnpklkenjaambaaDoorKit
namespace Go.Proofs.YtnpklkenjaambaaDoor
open Go Go.RowKit
set_option linter.unusedSimpArgs false
set_option linter.unusedVariables false
set_option maxRecDepth 100000

/-- Bytes as a text. -/
def bs (l : List UInt8) : ByteArray := ⟨l.toArray⟩
theorem bs_of (s : ByteArray) : s = bs s.data.toList := by cases s; simp [bs]
theorem bs_size (l : List UInt8) : (bs l).size = l.length := by simp [bs, ByteArray.size]
theorem bs_extract (l : List UInt8) (a b : Nat) : (bs l).extract a b = bs ((l.take b).drop a) := by
  apply ByteArray.ext
  apply Array.ext'
  simp [bs, ByteArray.data_extract, List.extract_eq_take_drop, List.drop_take]
theorem bs_get (l : List UInt8) (k : Nat) (h : k < (bs l).size) : (bs l)[k]'h = l.getD k 0 := by
  have h' : k < l.length := by rw [bs_size] at h; exact h
  show (l.toArray)[k] = _
  simp [h']
theorem bs_list (l : List UInt8) : (bs l).toList = l := by
  rw [ByteArray.toList_eq]
  simp [bs]
end Go.Proofs.YtnpklkenjaambaaDoor
