/-
  Seat b6615727a: the plain side of the document's marker.
-/
import Derived.Test.Qxb6615727aPlainB
namespace Go.Proofs.Qxb6615727a

theorem marker (s : ByteArray) (l : Nat) (hl : l + 3 ≤ s.size) (h : seg s l (l + 3) = [45, 45, 45]) : ((s[l].toNat : Int) != 45) = false := by
  rw [seg_cons s l (l + 3) (by omega) hl (by omega)] at h
  have e : s[l] = 45 := (List.cons.inj h).1
  rw [e]; rfl
theorem seg_before (s t : ByteArray) (l m : Nat) (hm : m ≤ s.size) : seg (s.extract 0 m ++ t ++ s.extract m s.size) l m = seg s l m := by
  unfold seg
  simp only [ByteArray.data_append, Array.toList_append, ext_take, ext_drop]
  have hsz := size_list s
  have l1 : (s.data.toList.take m).length = m := by rw [List.length_take]; omega
  rw [List.append_assoc, List.take_left' l1]
theorem ext_size (s : ByteArray) (a n : Nat) (h : a ≤ n) (hn : n ≤ s.size) : (s.extract a n).size = n - a := by
  rw [← size_list, ext_seg, seg_length s a n h hn]
theorem ext_get (s : ByteArray) (a n : Nat) (h : a < n) (hn : n ≤ s.size) (h0 : 0 < (s.extract a n).size) : (s.extract a n)[0] = s[a] := by
  have e1 : (s.extract a n)[0] = (s.extract a n).data.toList[0]'(by rw [size_list]; exact h0) := rfl
  rw [e1]
  have e2 := ext_seg s a n
  rw [seg_cons s a n h hn (by omega)] at e2
  simp only [e2, List.getElem_cons_zero]
end Go.Proofs.Qxb6615727a
