/- What nameIn prints, place by place. -/
import Derived.Test.Qxb6603145aDoorName
import Derived.Lib.Strings
namespace Go.Proofs.Qxb6603145aDoor
open Go.RowKit

theorem sz (s : ByteArray) : s.size = s.data.toList.length := by
  show s.data.size = _; rw [Array.length_toList]

theorem byte_at (s : ByteArray) (i : Nat) (h : i < s.size) : s[i] = s.data.toList[i]'(by rw [← sz]; exact h) := by
  rw [Array.getElem_toList]; rfl

theorem nm_data (t : ByteArray) (v : Int) : (nm t v).data.toList = t.data.toList ++ [40] ++ (num v).data.toList ++ [41] := by
  simp [nm, ByteArray.data_append]

theorem ba_ext {a b : ByteArray} (h : a.data.toList = b.data.toList) : a = b := by
  apply ByteArray.ext
  exact Array.toList_inj.1 h

theorem nm_head (t : ByteArray) (v : Int) : (nm t v).extract 0 t.size = t := by
  apply ba_ext
  rw [Lib.extract_data, nm_data]
  rw [sz t]
  generalize t.data.toList = a
  rw [List.drop_zero, List.append_assoc, List.append_assoc, Nat.sub_zero, List.take_left']
  rfl

theorem nm_mid (t : ByteArray) (v : Int) : (nm t v).extract (t.size + 1) ((nm t v).size - 1) = num v := by
  apply ba_ext
  rw [Lib.extract_data, nm_data, nm_size]
  have e : t.size = t.data.toList.length := sz t
  have e2 : (num v).size = (num v).data.toList.length := sz _
  rw [e, e2]
  generalize t.data.toList = a
  generalize (num v).data.toList = b
  rw [List.append_assoc, List.append_assoc, List.drop_append, List.drop_of_length_le (by omega)]
  rw [show a.length + 1 - a.length = 1 from by omega]
  rw [show a.length + 2 + b.length - 1 - (a.length + 1) = b.length from by omega]
  show List.take b.length (b ++ [41]) = b
  rw [List.take_left' rfl]

theorem nm_open (t : ByteArray) (v : Int) (h : t.size < (nm t v).size) : ((nm t v)[t.size]).toNat = 40 := by
  rw [byte_at]
  simp only [nm_data, sz t]
  rw [List.getElem_append_left (by simp), List.getElem_append_left (by simp), List.getElem_append_right (by omega)]
  simp

theorem nm_close (t : ByteArray) (v : Int) (h : (nm t v).size - 1 < (nm t v).size) : ((nm t v)[(nm t v).size - 1]).toNat = 41 := by
  rw [byte_at]
  have e1 : (nm t v).size - 1 = (t.data.toList ++ [40] ++ (num v).data.toList).length := by
    rw [nm_size, sz t, sz (num v)]; simp only [List.length_append, List.length_cons, List.length_nil]; omega
  simp only [e1, nm_data]
  rw [List.getElem_append_right (by omega)]
  simp
end Go.Proofs.Qxb6603145aDoor
