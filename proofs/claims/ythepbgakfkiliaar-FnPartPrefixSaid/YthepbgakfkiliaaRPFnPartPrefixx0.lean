-- Written by hprint.py, a program of this session
import Derived.Test.YthepbgakfkiliaaRProg
import Derived.Test.YthepbgakfkiliaaRIt
import Derived.Test.YthepbgakfkiliaaRHandPrefix
import Derived.Below
import Derived.Deep.Draws
import Derived.Deep.AppendLies
import Derived.Maps.AppendAt
import Derived.OwnWalk
import Derived.Laws.BytesArg
import Derived.Laws.MakeOwn
import Derived.Laws.OwnMore
import Derived.Deep.OwnRows
import Derived.Tactics
import Derived.Lib.ConvBytes
import Derived.Laws.Slices
import Derived.WalkKit
import Derived.KernelRfl
import Derived.RowKit3
import Derived.Deep.LoopGhost
import Derived.Deep.QuietTactic
import Derived.BigQuiet
import Derived.WideLaws
import Derived.Deep.DeepCutAuto
import Derived.Deep.CutBlock
import Derived.Deep.RegionHeld3
import Derived.Laws.Rows
import Derived.Lib.AppendStr
import Derived.ArgAppend
import Derived.Laws.IdiomCopy
import Derived.OrdersHeld
import Derived.Laws.BitsLemmas
import Derived.RowKit
import Derived.Test.YthepbgakfkiliaaRWWords
import Derived.Test.YthepbgakfkiliaaRWLast
import Derived.Test.YthepbgakfkiliaaRWTab
import Derived.Test.YthepbgakfkiliaaRWFour
import Derived.Test.YthepbgakfkiliaaRWQPut
import Derived.Test.YthepbgakfkiliaaRWApart
import Derived.Test.YthepbgakfkiliaaRWArr
import Derived.Test.YthepbgakfkiliaaRWZeros
import Derived.Test.YthepbgakfkiliaaRWFoot
import Derived.Test.YthepbgakfkiliaaRWKept
import Derived.Test.YthepbgakfkiliaaRWShare
import Derived.Test.YthepbgakfkiliaaRWN
import Derived.Test.YthepbgakfkiliaaRWFootNe
import Derived.Test.YthepbgakfkiliaaRWAt
import Derived.Test.YthepbgakfkiliaaRWEqStruct
import Derived.Test.YthepbgakfkiliaaRWRepsOne
import Derived.Test.YthepbgakfkiliaaRWInv
import Derived.Test.YthepbgakfkiliaaRWInvWords
import Derived.Test.YthepbgakfkiliaaRWGuard
import Derived.Test.YthepbgakfkiliaaRWNEv
import Derived.Test.YthepbgakfkiliaaRWMore
namespace Go.Proofs.YthepbgakfkiliaaR.PFnPartPrefix
open Go.RowKit Go.Proofs.YthepbgakfkiliaaR.Hand Go.Proofs.YthepbgakfkiliaaRW.PrintWords Go.Proofs.YthepbgakfkiliaaRW.PrintLast Go.Proofs.YthepbgakfkiliaaRW.PrintMore
attribute [local go_sem] max2_int min2_int max_two min_two max_three min_three max_four min_four   -- for this text's walks alone
set_option linter.unusedVariables false
set_option linter.unusedSimpArgs false



def errW : Option Int → Value
  | none => .nilIface
  | some c => .iface 0 (.int .i64 c)
theorem errW_none : errW none = .nilIface := rfl
theorem errW_some (c : Int) : errW (some c) = .iface 0 (.int .i64 c) := rfl

-- the values' own types
def rd_L1 (xs : List (List Int)) (i : Int) : (List Int) := xs.getD i.toNat ([] : List Int)
theorem at_L1 {w : World} {A : Option Addr} {n : Nat} {xs : List (List Int)} (h : Kd.C (Kd.slice 3 (Kd.int .i64)) w A n xs) (i : Int) (h0 : 0 ≤ i) (h1 : i < n) : ∃ ad A0 c0, A = some ad ∧ w.cell? (ad.add i.toNat) = some (.slice A0 (rd_L1 xs i).length c0) ∧ (rd_L1 xs i).length ≤ c0 ∧ (Kd.int .i64).C w A0 (rd_L1 xs i).length (rd_L1 xs i) := by
  obtain ⟨ad, c, e, _, hK, hc0⟩ := Kd.C_get h ([] : List Int) i h0 h1
  have hc : ∀ j u, c[j]? = some u → w.cell? (ad.add (i.toNat * 1 + j)) = some u := hc0
  obtain ⟨A0, c0, rfl, l0, g0⟩ := hK
  exact ⟨ad, A0, c0, e, by have hq := hc 0 _ rfl; rwa [Nat.mul_one, Nat.add_zero] at hq, l0, g0⟩

/-! #### struct type 42 -/
structure S42 where
  f0 : Int
  f1 : ByteArray
  f2 : ByteArray
  f3 : ByteArray
  f4 : ByteArray
  f5 : ByteArray
  f6 : ByteArray
  f7 : ByteArray
  f8 : ByteArray
  f9 : ByteArray
def z42 : S42 := ⟨(0 : Int), (⟨#[]⟩ : ByteArray), (⟨#[]⟩ : ByteArray), (⟨#[]⟩ : ByteArray), (⟨#[]⟩ : ByteArray), (⟨#[]⟩ : ByteArray), (⟨#[]⟩ : ByteArray), (⟨#[]⟩ : ByteArray), (⟨#[]⟩ : ByteArray), (⟨#[]⟩ : ByteArray)⟩
def k42 : Kd S42 := Kd.iso (Kd.pair (Kd.int .i64) (Kd.pair Kd.string (Kd.pair Kd.string (Kd.pair Kd.string (Kd.pair Kd.string (Kd.pair Kd.string (Kd.pair Kd.string (Kd.pair Kd.string (Kd.pair Kd.string Kd.string))))))))) (fun x : S42 => (x.f0, x.f1, x.f2, x.f3, x.f4, x.f5, x.f6, x.f7, x.f8, x.f9))
theorem k42_open {w : World} {x : S42} {cs : List Value} (h : k42.K w x cs) : cs = [.int .i64 x.f0, .string x.f1, .string x.f2, .string x.f3, .string x.f4, .string x.f5, .string x.f6, .string x.f7, .string x.f8, .string x.f9] := by
  obtain ⟨_, _, rfl, rfl, ⟨_, _, rfl, rfl, ⟨_, _, rfl, rfl, ⟨_, _, rfl, rfl, ⟨_, _, rfl, rfl, ⟨_, _, rfl, rfl, ⟨_, _, rfl, rfl, ⟨_, _, rfl, rfl, ⟨_, _, rfl, rfl, rfl⟩⟩⟩⟩⟩⟩⟩⟩⟩ := h
  exact rfl
theorem k42_openM {w : World} {base : Nat} {ok : Nat → Prop} {x : S42} {cs : List Value} (h : k42.M w base ok x cs) : cs = [.int .i64 x.f0, .string x.f1, .string x.f2, .string x.f3, .string x.f4, .string x.f5, .string x.f6, .string x.f7, .string x.f8, .string x.f9] := by
  obtain ⟨_, _, rfl, rfl, ⟨_, _, rfl, rfl, ⟨_, _, rfl, rfl, ⟨_, _, rfl, rfl, ⟨_, _, rfl, rfl, ⟨_, _, rfl, rfl, ⟨_, _, rfl, rfl, ⟨_, _, rfl, rfl, ⟨_, _, rfl, rfl, rfl⟩⟩⟩⟩⟩⟩⟩⟩⟩ := h
  exact rfl
theorem k42_mk (w : World) (x : S42)  : k42.K w x [.int .i64 x.f0, .string x.f1, .string x.f2, .string x.f3, .string x.f4, .string x.f5, .string x.f6, .string x.f7, .string x.f8, .string x.f9] := ⟨[.int .i64 x.f0], [.string x.f1, .string x.f2, .string x.f3, .string x.f4, .string x.f5, .string x.f6, .string x.f7, .string x.f8, .string x.f9], rfl, rfl, ⟨[.string x.f1], [.string x.f2, .string x.f3, .string x.f4, .string x.f5, .string x.f6, .string x.f7, .string x.f8, .string x.f9], rfl, rfl, ⟨[.string x.f2], [.string x.f3, .string x.f4, .string x.f5, .string x.f6, .string x.f7, .string x.f8, .string x.f9], rfl, rfl, ⟨[.string x.f3], [.string x.f4, .string x.f5, .string x.f6, .string x.f7, .string x.f8, .string x.f9], rfl, rfl, ⟨[.string x.f4], [.string x.f5, .string x.f6, .string x.f7, .string x.f8, .string x.f9], rfl, rfl, ⟨[.string x.f5], [.string x.f6, .string x.f7, .string x.f8, .string x.f9], rfl, rfl, ⟨[.string x.f6], [.string x.f7, .string x.f8, .string x.f9], rfl, rfl, ⟨[.string x.f7], [.string x.f8, .string x.f9], rfl, rfl, ⟨[.string x.f8], [.string x.f9], rfl, rfl, rfl⟩⟩⟩⟩⟩⟩⟩⟩⟩
theorem k42_mkM (w : World) (base : Nat) (ok : Nat → Prop) (x : S42)  : k42.M w base ok x [.int .i64 x.f0, .string x.f1, .string x.f2, .string x.f3, .string x.f4, .string x.f5, .string x.f6, .string x.f7, .string x.f8, .string x.f9] := ⟨[.int .i64 x.f0], [.string x.f1, .string x.f2, .string x.f3, .string x.f4, .string x.f5, .string x.f6, .string x.f7, .string x.f8, .string x.f9], rfl, rfl, ⟨[.string x.f1], [.string x.f2, .string x.f3, .string x.f4, .string x.f5, .string x.f6, .string x.f7, .string x.f8, .string x.f9], rfl, rfl, ⟨[.string x.f2], [.string x.f3, .string x.f4, .string x.f5, .string x.f6, .string x.f7, .string x.f8, .string x.f9], rfl, rfl, ⟨[.string x.f3], [.string x.f4, .string x.f5, .string x.f6, .string x.f7, .string x.f8, .string x.f9], rfl, rfl, ⟨[.string x.f4], [.string x.f5, .string x.f6, .string x.f7, .string x.f8, .string x.f9], rfl, rfl, ⟨[.string x.f5], [.string x.f6, .string x.f7, .string x.f8, .string x.f9], rfl, rfl, ⟨[.string x.f6], [.string x.f7, .string x.f8, .string x.f9], rfl, rfl, ⟨[.string x.f7], [.string x.f8, .string x.f9], rfl, rfl, ⟨[.string x.f8], [.string x.f9], rfl, rfl, rfl⟩⟩⟩⟩⟩⟩⟩⟩⟩
def rd_T42 (xs : List S42) (i : Int) : S42 := xs.getD i.toNat z42
theorem at_T42 {w : World} {A : Option Addr} {n : Nat} {xs : List S42} (h : Kd.C k42 w A n xs) (i : Int) (h0 : 0 ≤ i) (h1 : i < n) : ∃ ad , A = some ad ∧ w.cell? (ad.add (i.toNat * 10)) = some (.int .i64 (rd_T42 xs i).f0) ∧ w.cell? ⟨(ad.add (i.toNat * 10)).block, (ad.add (i.toNat * 10)).off + 1, none⟩ = some (.string (rd_T42 xs i).f1) ∧ w.cell? ⟨(ad.add (i.toNat * 10)).block, (ad.add (i.toNat * 10)).off + 2, none⟩ = some (.string (rd_T42 xs i).f2) ∧ w.cell? ⟨(ad.add (i.toNat * 10)).block, (ad.add (i.toNat * 10)).off + 3, none⟩ = some (.string (rd_T42 xs i).f3) ∧ w.cell? ⟨(ad.add (i.toNat * 10)).block, (ad.add (i.toNat * 10)).off + 4, none⟩ = some (.string (rd_T42 xs i).f4) ∧ w.cell? ⟨(ad.add (i.toNat * 10)).block, (ad.add (i.toNat * 10)).off + 5, none⟩ = some (.string (rd_T42 xs i).f5) ∧ w.cell? ⟨(ad.add (i.toNat * 10)).block, (ad.add (i.toNat * 10)).off + 6, none⟩ = some (.string (rd_T42 xs i).f6) ∧ w.cell? ⟨(ad.add (i.toNat * 10)).block, (ad.add (i.toNat * 10)).off + 7, none⟩ = some (.string (rd_T42 xs i).f7) ∧ w.cell? ⟨(ad.add (i.toNat * 10)).block, (ad.add (i.toNat * 10)).off + 8, none⟩ = some (.string (rd_T42 xs i).f8) ∧ w.cell? ⟨(ad.add (i.toNat * 10)).block, (ad.add (i.toNat * 10)).off + 9, none⟩ = some (.string (rd_T42 xs i).f9) := by
  obtain ⟨ad, c, e, _, hK, hc0⟩ := Kd.C_get h z42 i h0 h1
  have hc : ∀ j u, c[j]? = some u → w.cell? (ad.add (i.toNat * 10 + j)) = some u := hc0
  obtain rfl := k42_open hK
  exact ⟨ad, e, hc 0 _ rfl, by rw [← add_field _ _ 1 (by omega)]; exact hc 1 _ rfl, by rw [← add_field _ _ 2 (by omega)]; exact hc 2 _ rfl, by rw [← add_field _ _ 3 (by omega)]; exact hc 3 _ rfl, by rw [← add_field _ _ 4 (by omega)]; exact hc 4 _ rfl, by rw [← add_field _ _ 5 (by omega)]; exact hc 5 _ rfl, by rw [← add_field _ _ 6 (by omega)]; exact hc 6 _ rfl, by rw [← add_field _ _ 7 (by omega)]; exact hc 7 _ rfl, by rw [← add_field _ _ 8 (by omega)]; exact hc 8 _ rfl, by rw [← add_field _ _ 9 (by omega)]; exact hc 9 _ rfl⟩

/-! #### struct type 24 -/
structure S24 where
  f0 : Int
  f1 : ByteArray
  f2 : ByteArray
  f3 : ByteArray
  f4 : ByteArray
  f5 : ByteArray
  f6 : ByteArray
  f7 : ByteArray
  f8 : ByteArray
def z24 : S24 := ⟨(0 : Int), (⟨#[]⟩ : ByteArray), (⟨#[]⟩ : ByteArray), (⟨#[]⟩ : ByteArray), (⟨#[]⟩ : ByteArray), (⟨#[]⟩ : ByteArray), (⟨#[]⟩ : ByteArray), (⟨#[]⟩ : ByteArray), (⟨#[]⟩ : ByteArray)⟩
def k24 : Kd S24 := Kd.iso (Kd.pair (Kd.int .i64) (Kd.pair Kd.string (Kd.pair Kd.string (Kd.pair Kd.string (Kd.pair Kd.string (Kd.pair Kd.string (Kd.pair Kd.string (Kd.pair Kd.string Kd.string)))))))) (fun x : S24 => (x.f0, x.f1, x.f2, x.f3, x.f4, x.f5, x.f6, x.f7, x.f8))
theorem k24_open {w : World} {x : S24} {cs : List Value} (h : k24.K w x cs) : cs = [.int .i64 x.f0, .string x.f1, .string x.f2, .string x.f3, .string x.f4, .string x.f5, .string x.f6, .string x.f7, .string x.f8] := by
  obtain ⟨_, _, rfl, rfl, ⟨_, _, rfl, rfl, ⟨_, _, rfl, rfl, ⟨_, _, rfl, rfl, ⟨_, _, rfl, rfl, ⟨_, _, rfl, rfl, ⟨_, _, rfl, rfl, ⟨_, _, rfl, rfl, rfl⟩⟩⟩⟩⟩⟩⟩⟩ := h
  exact rfl
theorem k24_openM {w : World} {base : Nat} {ok : Nat → Prop} {x : S24} {cs : List Value} (h : k24.M w base ok x cs) : cs = [.int .i64 x.f0, .string x.f1, .string x.f2, .string x.f3, .string x.f4, .string x.f5, .string x.f6, .string x.f7, .string x.f8] := by
  obtain ⟨_, _, rfl, rfl, ⟨_, _, rfl, rfl, ⟨_, _, rfl, rfl, ⟨_, _, rfl, rfl, ⟨_, _, rfl, rfl, ⟨_, _, rfl, rfl, ⟨_, _, rfl, rfl, ⟨_, _, rfl, rfl, rfl⟩⟩⟩⟩⟩⟩⟩⟩ := h
  exact rfl
theorem k24_mk (w : World) (x : S24)  : k24.K w x [.int .i64 x.f0, .string x.f1, .string x.f2, .string x.f3, .string x.f4, .string x.f5, .string x.f6, .string x.f7, .string x.f8] := ⟨[.int .i64 x.f0], [.string x.f1, .string x.f2, .string x.f3, .string x.f4, .string x.f5, .string x.f6, .string x.f7, .string x.f8], rfl, rfl, ⟨[.string x.f1], [.string x.f2, .string x.f3, .string x.f4, .string x.f5, .string x.f6, .string x.f7, .string x.f8], rfl, rfl, ⟨[.string x.f2], [.string x.f3, .string x.f4, .string x.f5, .string x.f6, .string x.f7, .string x.f8], rfl, rfl, ⟨[.string x.f3], [.string x.f4, .string x.f5, .string x.f6, .string x.f7, .string x.f8], rfl, rfl, ⟨[.string x.f4], [.string x.f5, .string x.f6, .string x.f7, .string x.f8], rfl, rfl, ⟨[.string x.f5], [.string x.f6, .string x.f7, .string x.f8], rfl, rfl, ⟨[.string x.f6], [.string x.f7, .string x.f8], rfl, rfl, ⟨[.string x.f7], [.string x.f8], rfl, rfl, rfl⟩⟩⟩⟩⟩⟩⟩⟩
theorem k24_mkM (w : World) (base : Nat) (ok : Nat → Prop) (x : S24)  : k24.M w base ok x [.int .i64 x.f0, .string x.f1, .string x.f2, .string x.f3, .string x.f4, .string x.f5, .string x.f6, .string x.f7, .string x.f8] := ⟨[.int .i64 x.f0], [.string x.f1, .string x.f2, .string x.f3, .string x.f4, .string x.f5, .string x.f6, .string x.f7, .string x.f8], rfl, rfl, ⟨[.string x.f1], [.string x.f2, .string x.f3, .string x.f4, .string x.f5, .string x.f6, .string x.f7, .string x.f8], rfl, rfl, ⟨[.string x.f2], [.string x.f3, .string x.f4, .string x.f5, .string x.f6, .string x.f7, .string x.f8], rfl, rfl, ⟨[.string x.f3], [.string x.f4, .string x.f5, .string x.f6, .string x.f7, .string x.f8], rfl, rfl, ⟨[.string x.f4], [.string x.f5, .string x.f6, .string x.f7, .string x.f8], rfl, rfl, ⟨[.string x.f5], [.string x.f6, .string x.f7, .string x.f8], rfl, rfl, ⟨[.string x.f6], [.string x.f7, .string x.f8], rfl, rfl, ⟨[.string x.f7], [.string x.f8], rfl, rfl, rfl⟩⟩⟩⟩⟩⟩⟩⟩
def rd_T24 (xs : List S24) (i : Int) : S24 := xs.getD i.toNat z24
theorem at_T24 {w : World} {A : Option Addr} {n : Nat} {xs : List S24} (h : Kd.C k24 w A n xs) (i : Int) (h0 : 0 ≤ i) (h1 : i < n) : ∃ ad , A = some ad ∧ w.cell? (ad.add (i.toNat * 9)) = some (.int .i64 (rd_T24 xs i).f0) ∧ w.cell? ⟨(ad.add (i.toNat * 9)).block, (ad.add (i.toNat * 9)).off + 1, none⟩ = some (.string (rd_T24 xs i).f1) ∧ w.cell? ⟨(ad.add (i.toNat * 9)).block, (ad.add (i.toNat * 9)).off + 2, none⟩ = some (.string (rd_T24 xs i).f2) ∧ w.cell? ⟨(ad.add (i.toNat * 9)).block, (ad.add (i.toNat * 9)).off + 3, none⟩ = some (.string (rd_T24 xs i).f3) ∧ w.cell? ⟨(ad.add (i.toNat * 9)).block, (ad.add (i.toNat * 9)).off + 4, none⟩ = some (.string (rd_T24 xs i).f4) ∧ w.cell? ⟨(ad.add (i.toNat * 9)).block, (ad.add (i.toNat * 9)).off + 5, none⟩ = some (.string (rd_T24 xs i).f5) ∧ w.cell? ⟨(ad.add (i.toNat * 9)).block, (ad.add (i.toNat * 9)).off + 6, none⟩ = some (.string (rd_T24 xs i).f6) ∧ w.cell? ⟨(ad.add (i.toNat * 9)).block, (ad.add (i.toNat * 9)).off + 7, none⟩ = some (.string (rd_T24 xs i).f7) ∧ w.cell? ⟨(ad.add (i.toNat * 9)).block, (ad.add (i.toNat * 9)).off + 8, none⟩ = some (.string (rd_T24 xs i).f8) := by
  obtain ⟨ad, c, e, _, hK, hc0⟩ := Kd.C_get h z24 i h0 h1
  have hc : ∀ j u, c[j]? = some u → w.cell? (ad.add (i.toNat * 9 + j)) = some u := hc0
  obtain rfl := k24_open hK
  exact ⟨ad, e, hc 0 _ rfl, by rw [← add_field _ _ 1 (by omega)]; exact hc 1 _ rfl, by rw [← add_field _ _ 2 (by omega)]; exact hc 2 _ rfl, by rw [← add_field _ _ 3 (by omega)]; exact hc 3 _ rfl, by rw [← add_field _ _ 4 (by omega)]; exact hc 4 _ rfl, by rw [← add_field _ _ 5 (by omega)]; exact hc 5 _ rfl, by rw [← add_field _ _ 6 (by omega)]; exact hc 6 _ rfl, by rw [← add_field _ _ 7 (by omega)]; exact hc 7 _ rfl, by rw [← add_field _ _ 8 (by omega)]; exact hc 8 _ rfl⟩

end Go.Proofs.YthepbgakfkiliaaR.PFnPartPrefix
