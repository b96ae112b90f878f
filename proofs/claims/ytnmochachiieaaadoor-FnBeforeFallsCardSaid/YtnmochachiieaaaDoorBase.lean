/- Plain facts about numbers, bytes and lists that the proofs of this seat use; no program in sight. -/
import Derived.Test.YtnmochachiieaaaDoorWWords
import Derived.Test.YtnmochachiieaaaDoorWMore
namespace Go.Proofs.YtnmochachiieaaaDoor.Base
open Go.RowKit Go.Proofs.YtnmochachiieaaaDoorW.PrintWords Go.Proofs.YtnmochachiieaaaDoorW.PrintLast Go.Proofs.YtnmochachiieaaaDoorW.PrintMore

theorem wrap64_id {x : Int} (h0 : -9223372036854775808 ≤ x) (h1 : x ≤ 9223372036854775807) : wrap64 x = x := by unfold wrap64; omega
theorem wrap32_id {x : Int} (h0 : -2147483648 ≤ x) (h1 : x ≤ 2147483647) : wrap32 x = x := by unfold wrap32; omega

theorem bt_list (s : ByteArray) (i : Int) : bt s i = ((s.data.toList.getD i.toNat 0).toNat : Int) := by
  unfold bt
  split
  · rename_i h
    have h' : i.toNat < s.data.toList.length := by simpa using h
    simp [List.getD, List.getElem?_eq_getElem h']
    rfl
  · rename_i h
    have h' : s.data.toList.length ≤ i.toNat := by
      have : s.data.toList.length = s.size := by simp
      omega
    simp [List.getD, List.getElem?_eq_none h']
theorem size_list (s : ByteArray) : s.size = s.data.toList.length := by simp
theorem bytes_ext {a b : ByteArray} (h : a.data.toList = b.data.toList) : a = b := by
  cases a; cases b; congr 1; exact Array.toList_inj.1 h
theorem data_append (a b : ByteArray) : (a ++ b).data.toList = a.data.toList ++ b.data.toList := by
  rw [ByteArray.data_append, Array.toList_append]
theorem toList_data (s : ByteArray) : s.toList = s.data.toList := by
  cases s with
  | mk a => cases a with
    | mk l => exact ByteArray.toList_mk l
theorem encode_ascii {c : Int} (h0 : 0 ≤ c) (h1 : c < 128) : Go.Utf8.encode c = ⟨#[UInt8.ofNat c.toNat]⟩ := by
  unfold Go.Utf8.encode Go.Utf8.valid
  have h : (decide (0 ≤ c) && decide (c < 55296) || decide (57344 ≤ c) && decide (c ≤ 1114111)) = true := by
    simp only [Bool.or_eq_true, Bool.and_eq_true, decide_eq_true_eq]
    omega
  simp only [h, if_true]
  rw [if_pos (by omega)]
theorem wf_u8 {x : Int} (h : (Lit.int .u8 x).wf = true) : 0 ≤ x ∧ x ≤ 255 := by
  have h1 : IntKind.u8.min ≤ x ∧ x ≤ IntKind.u8.max := by simpa [Lit.wf] using h
  exact h1
theorem wf_u16 {x : Int} (h : (Lit.int .u16 x).wf = true) : 0 ≤ x ∧ x ≤ 65535 := by
  have h1 : IntKind.u16.min ≤ x ∧ x ≤ IntKind.u16.max := by simpa [Lit.wf] using h
  exact h1
theorem wf_i32 {x : Int} (h : (Lit.int .i32 x).wf = true) : -2147483648 ≤ x ∧ x ≤ 2147483647 := by
  have h1 : IntKind.i32.min ≤ x ∧ x ≤ IntKind.i32.max := by simpa [Lit.wf] using h
  exact h1
theorem wf_i64 {x : Int} (h : (Lit.int .i64 x).wf = true) : -9223372036854775808 ≤ x ∧ x ≤ 9223372036854775807 := by
  have h1 : IntKind.i64.min ≤ x ∧ x ≤ IntKind.i64.max := by simpa [Lit.wf] using h
  exact h1
theorem rd_at {l p r : List Int} {q : Int} (h : l = p ++ q :: r) : rd l (p.length : Int) = q := by rw [h]; simp [rd, List.getD]
theorem succ_len {α : Type} {p : List α} {q : α} (h : p.length < 9223372036854775807) : wrap64 ((p.length : Int) + 1) = ((p ++ [q]).length : Int) := by rw [wrap64_id (by omega) (by omega)]; simp
end Go.Proofs.YtnmochachiieaaaDoor.Base
