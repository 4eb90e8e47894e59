/-
  Seat b6615727a: the plain side of the law on text behind a line's end, and of the document's start.
-/
import Derived.Test.Qxb6615727aPlain
namespace Go.Proofs.Qxb6615727a

theorem size_list (s : ByteArray) : s.data.toList.length = s.size := rfl
theorem ext_take (s : ByteArray) (a : Nat) : (s.extract 0 a).data.toList = s.data.toList.take a := by
  simp only [ByteArray.data_extract, Array.toList_extract]; simp [List.extract]
theorem ext_drop (s : ByteArray) (a : Nat) : (s.extract a s.size).data.toList = s.data.toList.drop a := by
  simp only [ByteArray.data_extract, Array.toList_extract]; simp only [List.extract]; rw [List.take_of_length_le]; simp
theorem ext_seg (s : ByteArray) (a n : Nat) : (s.extract a n).data.toList = seg s a n := by
  simp only [ByteArray.data_extract, Array.toList_extract]; simp only [List.extract, seg]; rw [List.drop_take]
theorem seg_all (s : ByteArray) : seg s 0 s.size = s.data.toList := by
  unfold seg; rw [List.drop_zero, List.take_of_length_le]; exact Nat.le_of_eq (size_list s)

/-- text put at the end n of the line. -/
theorem seg_end (s : ByteArray) (a n m : Nat) (t : ByteArray) (ha : a ≤ n) (hn : n ≤ s.size) (hm : m = n + t.size) :
    seg (s.extract 0 n ++ t ++ s.extract n s.size) a m = seg s a n ++ t.data.toList ∧ (s.extract 0 n ++ t ++ s.extract n s.size).size = s.size + t.size := by
  have hsz := size_list s
  have htz := size_list t
  constructor
  · unfold seg
    simp only [ByteArray.data_append, Array.toList_append, ext_take, ext_drop]
    have l1 : (s.data.toList.take n).length = n := by rw [List.length_take]; omega
    have l2 : (s.data.toList.take n ++ t.data.toList).length = m := by rw [List.length_append, l1]; omega
    rw [← l2, List.take_left', List.drop_append_of_le_length (by omega)]
    rfl
  · simp [ByteArray.size_append, ByteArray.size_extract]; omega

/-- the rest from a on cut to t and then x. -/
theorem seg_cut (s : ByteArray) (a n m : Nat) (t x : ByteArray) (ha : a ≤ n) (hn : n ≤ s.size) (hm : m = a + t.size + x.size) :
    seg (s.extract 0 a ++ t ++ x ++ s.extract n s.size) a m = t.data.toList ++ x.data.toList ∧ (s.extract 0 a ++ t ++ x ++ s.extract n s.size).size = a + t.size + x.size + (s.size - n) := by
  have hsz := size_list s
  have htz := size_list t
  have hxz := size_list x
  constructor
  · unfold seg
    simp only [ByteArray.data_append, Array.toList_append, ext_take, ext_drop]
    have l1 : (s.data.toList.take a).length = a := by rw [List.length_take]; omega
    have l2 : (s.data.toList.take a ++ t.data.toList ++ x.data.toList).length = m := by rw [List.length_append, List.length_append, l1]; omega
    rw [← l2, List.take_left', List.append_assoc, List.drop_left' l1]
    rfl
  · simp [ByteArray.size_append, ByteArray.size_extract]; omega

theorem spaces_step (s : ByteArray) (k n : Nat) (h : k < n) (hn : n ≤ s.size) (hk : k < s.size) (e : ((s[k].toNat : Int) != 32) = false) : spaces (seg s k n) = spaces (seg s (k + 1) n) := by
  have e1 : ((s[k].toNat : Int) == 32) = true := by simpa [bne] using e
  have e2 : (s[k] == (32 : UInt8)) = true := by rw [← byteEq]; exact e1
  rw [seg_cons s k n h hn hk]
  unfold spaces
  rw [List.all_cons, e2]; rfl
theorem spaces_stop (s : ByteArray) (k n : Nat) (h : k < n) (hn : n ≤ s.size) (hk : k < s.size) (e : ((s[k].toNat : Int) != 32) = true) : spaces (seg s k n) = false := by
  have e1 : ((s[k].toNat : Int) == 32) = false := by simpa [bne] using e
  have e2 : (s[k] == (32 : UInt8)) = false := by rw [← byteEq]; exact e1
  rw [seg_cons s k n h hn hk]
  unfold spaces
  rw [List.all_cons, e2]; rfl
theorem spaces_end (s : ByteArray) (n : Nat) : spaces (seg s n n) = true := by rw [seg_nil]; rfl
theorem seg_ne_nil (s : ByteArray) (a n : Nat) (h : a < n) (hn : n ≤ s.size) : seg s a n ≠ [] := by
  rw [seg_cons s a n h hn (by omega)]; simp

end Go.Proofs.Qxb6615727a
