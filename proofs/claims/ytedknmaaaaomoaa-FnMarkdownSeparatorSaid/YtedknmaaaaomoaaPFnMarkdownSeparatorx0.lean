-- Written by hprint.py, a program of this session
import Derived.Test.YtedknmaaaaomoaaProg
import Derived.Test.YtedknmaaaaomoaaIt
import Derived.Test.YtedknmaaaaomoaaHandMd
import Derived.Test.YtedknmaaaaomoaaHandRepeat
import Derived.Below
import Derived.Deep.Draws
import Derived.Deep.AppendLies
import Derived.Maps.AppendAt
import Derived.OwnWalk
import Derived.Laws.BytesArg
import Derived.Laws.MakeOwn
import Derived.Laws.OwnMore
import Derived.Deep.OwnRows
import Derived.Tactics
import Derived.Lib.ConvBytes
import Derived.Laws.Slices
import Derived.WalkKit
import Derived.KernelRfl
import Derived.RowKit3
import Derived.Deep.LoopGhost
import Derived.Deep.QuietTactic
import Derived.BigQuiet
import Derived.WideLaws
import Derived.Deep.DeepCutAuto
import Derived.Deep.CutBlock
import Derived.Deep.RegionHeld3
import Derived.Laws.Rows
import Derived.Lib.AppendStr
import Derived.ArgAppend
import Derived.Laws.IdiomCopy
import Derived.OrdersHeld
import Derived.Laws.BitsLemmas
import Derived.RowKit
import Derived.Test.YtedknmaaaaomoaaWWords
import Derived.Test.YtedknmaaaaomoaaWLast
import Derived.Test.YtedknmaaaaomoaaWTab
import Derived.Test.YtedknmaaaaomoaaWFour
import Derived.Test.YtedknmaaaaomoaaWQPut
import Derived.Test.YtedknmaaaaomoaaWApart
import Derived.Test.YtedknmaaaaomoaaWArr
import Derived.Test.YtedknmaaaaomoaaWZeros
import Derived.Test.YtedknmaaaaomoaaWFoot
import Derived.Test.YtedknmaaaaomoaaWKept
import Derived.Test.YtedknmaaaaomoaaWShare
import Derived.Test.YtedknmaaaaomoaaWN
import Derived.Test.YtedknmaaaaomoaaWFootNe
import Derived.Test.YtedknmaaaaomoaaWAt
import Derived.Test.YtedknmaaaaomoaaWEqStruct
import Derived.Test.YtedknmaaaaomoaaWRepsOne
import Derived.Test.YtedknmaaaaomoaaWInv
import Derived.Test.YtedknmaaaaomoaaWInvWords
import Derived.Test.YtedknmaaaaomoaaWGuard
import Derived.Test.YtedknmaaaaomoaaWNEv
import Derived.Test.YtedknmaaaaomoaaWMore
namespace Go.Proofs.Ytedknmaaaaomoaa.PFnMarkdownSeparator
open Go.RowKit Go.Proofs.Ytedknmaaaaomoaa.Hand Go.Proofs.YtedknmaaaaomoaaW.PrintWords Go.Proofs.YtedknmaaaaomoaaW.PrintLast Go.Proofs.YtedknmaaaaomoaaW.PrintMore
attribute [local go_sem] max2_int min2_int max_two min_two max_three min_three max_four min_four   -- for this text's walks alone
set_option linter.unusedVariables false
set_option linter.unusedSimpArgs false



def errW : Option Int → Value
  | none => .nilIface
  | some c => .iface 0 (.int .i64 c)
theorem errW_none : errW none = .nilIface := rfl
theorem errW_some (c : Int) : errW (some c) = .iface 0 (.int .i64 c) := rfl

theorem info3 : (Try.prog.info? 3).map (fun i => (i.zero, i.size, i.bytes)) = some (some (.int .i64 0), 1, 8) := by kernel_rfl
-- the values' own types
def rd_L2 (xs : List (List ByteArray)) (i : Int) : (List ByteArray) := xs.getD i.toNat ([] : List ByteArray)
theorem at_L2 {w : World} {A : Option Addr} {n : Nat} {xs : List (List ByteArray)} (h : Kd.C (Kd.slice 9 Kd.string) w A n xs) (i : Int) (h0 : 0 ≤ i) (h1 : i < n) : ∃ ad A0 c0, A = some ad ∧ w.cell? (ad.add i.toNat) = some (.slice A0 (rd_L2 xs i).length c0) ∧ (rd_L2 xs i).length ≤ c0 ∧ Kd.string.C w A0 (rd_L2 xs i).length (rd_L2 xs i) := by
  obtain ⟨ad, c, e, _, hK, hc0⟩ := Kd.C_get h ([] : List ByteArray) i h0 h1
  have hc : ∀ j u, c[j]? = some u → w.cell? (ad.add (i.toNat * 1 + j)) = some u := hc0
  obtain ⟨A0, c0, rfl, l0, g0⟩ := hK
  exact ⟨ad, A0, c0, e, by have hq := hc 0 _ rfl; rwa [Nat.mul_one, Nat.add_zero] at hq, l0, g0⟩

def rd_L4 (xs : List (List Int)) (i : Int) : (List Int) := xs.getD i.toNat ([] : List Int)
theorem at_L4 {w : World} {A : Option Addr} {n : Nat} {xs : List (List Int)} (h : Kd.C (Kd.slice 3 (Kd.int .i64)) w A n xs) (i : Int) (h0 : 0 ≤ i) (h1 : i < n) : ∃ ad A0 c0, A = some ad ∧ w.cell? (ad.add i.toNat) = some (.slice A0 (rd_L4 xs i).length c0) ∧ (rd_L4 xs i).length ≤ c0 ∧ (Kd.int .i64).C w A0 (rd_L4 xs i).length (rd_L4 xs i) := by
  obtain ⟨ad, c, e, _, hK, hc0⟩ := Kd.C_get h ([] : List Int) i h0 h1
  have hc : ∀ j u, c[j]? = some u → w.cell? (ad.add (i.toNat * 1 + j)) = some u := hc0
  obtain ⟨A0, c0, rfl, l0, g0⟩ := hK
  exact ⟨ad, A0, c0, e, by have hq := hc 0 _ rfl; rwa [Nat.mul_one, Nat.add_zero] at hq, l0, g0⟩

/-! #### struct type 29 -/
structure S29 where
  f0 : (List ByteArray)
  f1 : Int
  f2 : Bool
  f3 : (List Int)
  f4 : (List Int)
  f5 : Int
  f6 : Int
def z29 : S29 := ⟨([] : List ByteArray), (0 : Int), false, ([] : List Int), ([] : List Int), (0 : Int), (0 : Int)⟩
def k29 : Kd S29 := Kd.iso (Kd.pair (Kd.slice 9 Kd.string) (Kd.pair (Kd.int .i64) (Kd.pair Kd.bool (Kd.pair (Kd.slice 3 (Kd.int .i64)) (Kd.pair (Kd.slice 3 (Kd.int .i64)) (Kd.pair (Kd.int .i64) (Kd.int .i64))))))) (fun x : S29 => (x.f0, x.f1, x.f2, x.f3, x.f4, x.f5, x.f6))
theorem k29_open {w : World} {x : S29} {cs : List Value} (h : k29.K w x cs) : ∃ A0 c0 A3 c3 A4 c4, cs = [.slice A0 x.f0.length c0, .int .i64 x.f1, .bool x.f2, .slice A3 x.f3.length c3, .slice A4 x.f4.length c4, .int .i64 x.f5, .int .i64 x.f6] ∧ x.f0.length ≤ c0 ∧ Kd.string.C w A0 x.f0.length x.f0 ∧ x.f3.length ≤ c3 ∧ (Kd.int .i64).C w A3 x.f3.length x.f3 ∧ x.f4.length ≤ c4 ∧ (Kd.int .i64).C w A4 x.f4.length x.f4 := by
  obtain ⟨_, _, rfl, ⟨A0, c0, rfl, l0, g0⟩, ⟨_, _, rfl, rfl, ⟨_, _, rfl, rfl, ⟨_, _, rfl, ⟨A3, c3, rfl, l3, g3⟩, ⟨_, _, rfl, ⟨A4, c4, rfl, l4, g4⟩, ⟨_, _, rfl, rfl, rfl⟩⟩⟩⟩⟩⟩ := h
  exact ⟨A0, c0, A3, c3, A4, c4, rfl, l0, g0, l3, g3, l4, g4⟩
theorem k29_openM {w : World} {base : Nat} {ok : Nat → Prop} {x : S29} {cs : List Value} (h : k29.M w base ok x cs) : ∃ v0 v3 v4, cs = [v0, .int .i64 x.f1, .bool x.f2, v3, v4, .int .i64 x.f5, .int .i64 x.f6] ∧ Kd.string.R 9 w base ok v0 x.f0 ∧ (Kd.int .i64).R 3 w base ok v3 x.f3 ∧ (Kd.int .i64).R 3 w base ok v4 x.f4 := by
  obtain ⟨_, _, rfl, ⟨v0, rfl, g0⟩, ⟨_, _, rfl, rfl, ⟨_, _, rfl, rfl, ⟨_, _, rfl, ⟨v3, rfl, g3⟩, ⟨_, _, rfl, ⟨v4, rfl, g4⟩, ⟨_, _, rfl, rfl, rfl⟩⟩⟩⟩⟩⟩ := h
  exact ⟨v0, v3, v4, rfl, g0, g3, g4⟩
theorem k29_mk (w : World) (x : S29) {A0 : Option Addr} {c0 : Nat} (l0 : x.f0.length ≤ c0) (g0 : Kd.string.C w A0 x.f0.length x.f0) {A3 : Option Addr} {c3 : Nat} (l3 : x.f3.length ≤ c3) (g3 : (Kd.int .i64).C w A3 x.f3.length x.f3) {A4 : Option Addr} {c4 : Nat} (l4 : x.f4.length ≤ c4) (g4 : (Kd.int .i64).C w A4 x.f4.length x.f4) : k29.K w x [.slice A0 x.f0.length c0, .int .i64 x.f1, .bool x.f2, .slice A3 x.f3.length c3, .slice A4 x.f4.length c4, .int .i64 x.f5, .int .i64 x.f6] := ⟨[.slice A0 x.f0.length c0], [.int .i64 x.f1, .bool x.f2, .slice A3 x.f3.length c3, .slice A4 x.f4.length c4, .int .i64 x.f5, .int .i64 x.f6], rfl, ⟨A0, c0, rfl, l0, g0⟩, ⟨[.int .i64 x.f1], [.bool x.f2, .slice A3 x.f3.length c3, .slice A4 x.f4.length c4, .int .i64 x.f5, .int .i64 x.f6], rfl, rfl, ⟨[.bool x.f2], [.slice A3 x.f3.length c3, .slice A4 x.f4.length c4, .int .i64 x.f5, .int .i64 x.f6], rfl, rfl, ⟨[.slice A3 x.f3.length c3], [.slice A4 x.f4.length c4, .int .i64 x.f5, .int .i64 x.f6], rfl, ⟨A3, c3, rfl, l3, g3⟩, ⟨[.slice A4 x.f4.length c4], [.int .i64 x.f5, .int .i64 x.f6], rfl, ⟨A4, c4, rfl, l4, g4⟩, ⟨[.int .i64 x.f5], [.int .i64 x.f6], rfl, rfl, rfl⟩⟩⟩⟩⟩⟩
theorem k29_mkM (w : World) (base : Nat) (ok : Nat → Prop) (x : S29) {v0 : Value} (g0 : Kd.string.R 9 w base ok v0 x.f0) {v3 : Value} (g3 : (Kd.int .i64).R 3 w base ok v3 x.f3) {v4 : Value} (g4 : (Kd.int .i64).R 3 w base ok v4 x.f4) : k29.M w base ok x [v0, .int .i64 x.f1, .bool x.f2, v3, v4, .int .i64 x.f5, .int .i64 x.f6] := ⟨[v0], [.int .i64 x.f1, .bool x.f2, v3, v4, .int .i64 x.f5, .int .i64 x.f6], rfl, ⟨v0, rfl, g0⟩, ⟨[.int .i64 x.f1], [.bool x.f2, v3, v4, .int .i64 x.f5, .int .i64 x.f6], rfl, rfl, ⟨[.bool x.f2], [v3, v4, .int .i64 x.f5, .int .i64 x.f6], rfl, rfl, ⟨[v3], [v4, .int .i64 x.f5, .int .i64 x.f6], rfl, ⟨v3, rfl, g3⟩, ⟨[v4], [.int .i64 x.f5, .int .i64 x.f6], rfl, ⟨v4, rfl, g4⟩, ⟨[.int .i64 x.f5], [.int .i64 x.f6], rfl, rfl, rfl⟩⟩⟩⟩⟩⟩
def rd_T29 (xs : List S29) (i : Int) : S29 := xs.getD i.toNat z29
theorem at_T29 {w : World} {A : Option Addr} {n : Nat} {xs : List S29} (h : Kd.C k29 w A n xs) (i : Int) (h0 : 0 ≤ i) (h1 : i < n) : ∃ ad A0 c0 A3 c3 A4 c4, A = some ad ∧ w.cell? (ad.add (i.toNat * 7)) = some (.slice A0 (rd_T29 xs i).f0.length c0) ∧ w.cell? ⟨(ad.add (i.toNat * 7)).block, (ad.add (i.toNat * 7)).off + 1, none⟩ = some (.int .i64 (rd_T29 xs i).f1) ∧ w.cell? ⟨(ad.add (i.toNat * 7)).block, (ad.add (i.toNat * 7)).off + 2, none⟩ = some (.bool (rd_T29 xs i).f2) ∧ w.cell? ⟨(ad.add (i.toNat * 7)).block, (ad.add (i.toNat * 7)).off + 3, none⟩ = some (.slice A3 (rd_T29 xs i).f3.length c3) ∧ w.cell? ⟨(ad.add (i.toNat * 7)).block, (ad.add (i.toNat * 7)).off + 4, none⟩ = some (.slice A4 (rd_T29 xs i).f4.length c4) ∧ w.cell? ⟨(ad.add (i.toNat * 7)).block, (ad.add (i.toNat * 7)).off + 5, none⟩ = some (.int .i64 (rd_T29 xs i).f5) ∧ w.cell? ⟨(ad.add (i.toNat * 7)).block, (ad.add (i.toNat * 7)).off + 6, none⟩ = some (.int .i64 (rd_T29 xs i).f6) ∧ (rd_T29 xs i).f0.length ≤ c0 ∧ Kd.string.C w A0 (rd_T29 xs i).f0.length (rd_T29 xs i).f0 ∧ (rd_T29 xs i).f3.length ≤ c3 ∧ (Kd.int .i64).C w A3 (rd_T29 xs i).f3.length (rd_T29 xs i).f3 ∧ (rd_T29 xs i).f4.length ≤ c4 ∧ (Kd.int .i64).C w A4 (rd_T29 xs i).f4.length (rd_T29 xs i).f4 := by
  obtain ⟨ad, c, e, _, hK, hc0⟩ := Kd.C_get h z29 i h0 h1
  have hc : ∀ j u, c[j]? = some u → w.cell? (ad.add (i.toNat * 7 + j)) = some u := hc0
  obtain ⟨A0, c0, A3, c3, A4, c4, rfl, l0, g0, l3, g3, l4, g4⟩ := k29_open hK
  exact ⟨ad, A0, c0, A3, c3, A4, c4, e, hc 0 _ rfl, by rw [← add_field _ _ 1 (by omega)]; exact hc 1 _ rfl, by rw [← add_field _ _ 2 (by omega)]; exact hc 2 _ rfl, by rw [← add_field _ _ 3 (by omega)]; exact hc 3 _ rfl, by rw [← add_field _ _ 4 (by omega)]; exact hc 4 _ rfl, by rw [← add_field _ _ 5 (by omega)]; exact hc 5 _ rfl, by rw [← add_field _ _ 6 (by omega)]; exact hc 6 _ rfl, l0, g0, l3, g3, l4, g4⟩

end Go.Proofs.Ytedknmaaaaomoaa.PFnMarkdownSeparator
