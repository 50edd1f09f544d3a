/-
  Plain facts on cutting a row of octets. No Go program in sight.
-/
namespace Go.Proofs.Qxb6618280a

theorem list_of (s : ByteArray) (a b : Nat) : (s.extract a b).data.toList = (s.data.toList.drop a).take (b - a) := by
  rw [ByteArray.data_extract, Array.toList_extract]

theorem ba_ext {a b : ByteArray} (h : a.data.toList = b.data.toList) : a = b := ByteArray.ext (Array.toList_inj.1 h)

theorem size_list (s : ByteArray) : s.size = s.data.toList.length := rfl

theorem size_sub {s : ByteArray} {n : Nat} (h : n < s.size) : (s.extract 0 (n + 1)).size = n + 1 := by
  rw [size_list, list_of]
  rw [size_list] at h
  simp at *
  omega

theorem size_rest {s : ByteArray} {n : Nat} : (s.extract (n + 1) s.size).size = s.size - (n + 1) := by
  rw [size_list, list_of]
  simp

theorem get_sub {s : ByteArray} {n i : Nat} (h : n < s.size) (hi : i ≤ n) (h1 : i < (s.extract 0 (n + 1)).size) : (s.extract 0 (n + 1))[i] = s[i] := by
  rw [ByteArray.getElem_extract]
  simp

theorem sub_append {s t : ByteArray} {n : Nat} (h : n < s.size) : (s ++ t).extract 0 (n + 1) = s.extract 0 (n + 1) := by
  apply ba_ext
  rw [size_list] at h
  rw [list_of, list_of, ByteArray.data_append, Array.toList_append]
  simp only [List.drop_zero, Nat.sub_zero]
  rw [List.take_append_of_le_length (by omega)]

theorem rest_append {s t : ByteArray} {n : Nat} (h : n < s.size) : (s ++ t).extract (n + 1) (s ++ t).size = s.extract (n + 1) s.size ++ t := by
  apply ba_ext
  rw [ByteArray.data_append, Array.toList_append, list_of, list_of, ByteArray.data_append, Array.toList_append]
  have e : (s ++ t).size = s.size + t.size := ByteArray.size_append
  rw [e]
  have hl : s.data.toList.length = s.size := rfl
  have hl2 : t.data.toList.length = t.size := rfl
  rw [List.drop_append_of_le_length (by omega), List.take_of_length_le (by rw [List.length_append, List.length_drop]; omega), List.take_of_length_le (by rw [List.length_drop]; omega)]

end Go.Proofs.Qxb6618280a
