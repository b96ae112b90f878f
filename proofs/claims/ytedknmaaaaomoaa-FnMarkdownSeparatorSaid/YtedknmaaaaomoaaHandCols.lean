/- A table's columns: the map of their configurations, and what getColumnWidthMax answers. -/
import Derived.Test.YtedknmaaaaomoaaProg
import Derived.Test.YtedknmaaaaomoaaWMore
import Derived.Test.YtedknmaaaaomoaaBase
import Derived.Maps.Own
import Derived.WalkArith
import Derived.Maps.OwnOps
import Derived.Maps.Views
import Derived.Lib.Builder
namespace Go.Proofs.Ytedknmaaaaomoaa.Hand
open Go.RowKit Go.Proofs.YtedknmaaaaomoaaW.PrintWords Go.Proofs.Ytedknmaaaaomoaa.Base
open Go.Maps (Keyed)
set_option linter.unusedVariables false
set_option linter.unusedSimpArgs false

/-- A column's configuration: its alignment and its greatest width. -/
def cfgC (al wm : Int) : Array Value := #[.string ⟨#[]⟩, .int .i64 0, .int .i64 al, .int .i64 0, .int .i64 0, .bool false, .slice none 0 0, .slice none 0 0, .slice none 0 0, .bool false, .int .i64 0, .int .i64 0, .int .i64 0, .int .i64 wm, .nilFunc, .int .i64 0]
theorem cfg_inj {a b c d : Int} (h : Value.agg (cfgC a b) = .agg (cfgC c d)) : a = c ∧ b = d := by
  simp only [cfgC, Value.agg.injEq, Array.mk.injEq, List.cons.injEq, Value.int.injEq] at h
  exact ⟨h.2.2.1.2, h.2.2.2.2.2.2.2.2.2.2.2.2.2.1.2⟩
theorem zero41 (w : World) : (zeroValue 41).run Try.prog w = .ok (.agg (cfgC 0 0)) w := by kernel_rfl

open Classical in
/-- How a configuration reads. -/
noncomputable def rdC (v : Value) : Option (DataW Unit × List MemPlace) :=
  if h : ∃ p : Int × Int, v = .agg (cfgC p.1 p.2) then some (.agg [.lit (.int .i64 h.choose.1), .lit (.int .i64 h.choose.2)], []) else none
theorem rdC_cfg (a b : Int) : rdC (.agg (cfgC a b)) = some (.agg [.lit (.int .i64 a), .lit (.int .i64 b)], []) := by
  have h : ∃ p : Int × Int, Value.agg (cfgC a b) = .agg (cfgC p.1 p.2) := ⟨(a, b), rfl⟩
  unfold rdC
  rw [dif_pos h]
  obtain ⟨h1, h2⟩ := cfg_inj h.choose_spec
  rw [← h1, ← h2]
theorem rdC_inv {v : Value} {d : DataW Unit} {a b : Int} {ps : List MemPlace} (h : rdC v = some (d, ps)) (hd : d = .agg [.lit (.int .i64 a), .lit (.int .i64 b)]) : v = .agg (cfgC a b) := by
  unfold rdC at h
  split at h
  · rename_i hx
    simp only [Option.some.injEq, Prod.mk.injEq] at h
    rw [← h.1] at hd
    simp only [DataW.agg.injEq, List.cons.injEq, DataW.lit.injEq, Lit.int.injEq, true_and, and_true] at hd
    rw [hx.choose_spec, hd.1, hd.2]
  · cases h

theorem store_nilFunc (P : Program) (w : World) (a : Addr) (m : Mode) : (store a .nilFunc m).run P w = stored P w a .nilFunc m := run_store P w a _ m rfl
theorem keyed3 : Keyed Try.prog 3 := Maps.int_keyed Try.underlying3
/-- Block b is a map from the columns to their configurations. -/
def CfgMap (w : World) (b : Nat) (cs : List (Int × Int)) : Prop :=
  ∃ D : DataW Unit, w.ownsMap Try.prog 3 rdC b cs.length D ∧ Maps.IsMap D ∧ ∀ (i : Nat) (c : Int × Int), cs[i]? = some c → ∀ z, D.atKey (.int .i64 (i : Int)) z = .agg [.lit (.int .i64 c.1), .lit (.int .i64 c.2)]

theorem CfgMap.lookup {w : World} {b : Nat} {cs : List (Int × Int)} (h : CfgMap w b cs) (hn : cs.length ≤ 1000000) {i : Nat} {c : Int × Int} (hi : cs[i]? = some c) :
    (Instr.lookup 74 (.map (some b)) (.int .i64 (i : Int)) true).run Try.prog w = .ok (.tuple #[.agg (cfgC c.1 c.2), .bool true]) w := by
  obtain ⟨D, ⟨es, clock, hb, F, hs, rfl⟩, hm, hat⟩ := h
  have hlt : i < cs.length := by
    rcases Nat.lt_or_ge i cs.length with h | h
    · exact h
    · rw [List.getElem?_eq_none h] at hi; cases hi
  have hkey : keyOf Try.prog 3 (.int .i64 (i : Int)) = some (.int .i64 (i : Int)) := Maps.keyOf_int_mk Try.underlying3 (WalkArith.wf_i64 (by omega))
  rcases Maps.fit_look true keyed3 Try.underlying74 (zero41 w) hb F hkey with ⟨_, _, h3⟩ | ⟨e0, y, _, _, hrun, hRv, h3, _⟩
  · have h4 := (h3 .nil).symm.trans (hat i c hi .nil)
    cases h4
  · have h4 : y.1 = _ := (h3 .nil).symm.trans (hat i c hi .nil)
    have h5 := rdC_inv (a := c.1) (b := c.2) (d := y.1) (ps := y.2) hRv h4
    rw [hrun, h5]
    rfl
theorem CfgMap.kept {w w' : World} {b : Nat} {cs : List (Int × Int)} (h : CfgMap w b cs) (hh : w'.heap[b]? = w.heap[b]?) : CfgMap w' b cs := by
  obtain ⟨D, ⟨es, clock, hb, F, hs, hD⟩, hm, hat⟩ := h
  exact ⟨D, ⟨es, clock, hh.trans hb, F, hs, hD⟩, hm, hat⟩
theorem CfgMap.blk {w : World} {b : Nat} {cs : List (Int × Int)} (h : CfgMap w b cs) : ∃ es ck, w.heap[b]? = some (.map es ck) := by
  obtain ⟨D, ⟨es, clock, hb, _⟩, _⟩ := h
  exact ⟨es, clock, hb⟩
theorem CfgMap.made {w : World} {b : Nat} (h : w.heap[b]? = some (.map #[] 0)) : CfgMap w b [] := by
  refine ⟨.map [], ⟨#[], 0, h, ⟨by simp, MapKept.stamped_empty 0, by simp⟩, Nat.le_refl _, rfl⟩, Maps.isMap_empty, ?_⟩
  intro i c hi
  simp at hi
theorem CfgMap.put {w : World} {b : Nat} {cs : List (Int × Int)} (h : CfgMap w b cs) (hn : cs.length ≤ 1000000) (c : Int × Int) :
    ∃ w', (Instr.mapUpdate 74 (.map (some b)) (.int .i64 (cs.length : Int)) (.agg (cfgC c.1 c.2))).run Try.prog w = .ok () w' ∧ CfgMap w' b (cs ++ [c]) ∧ w.grownBy w' (some b) := by
  obtain ⟨D, hown, hm, hat⟩ := h
  have hwf : (Lit.int .i64 (cs.length : Int)).wf = true := WalkArith.wf_i64 (by omega)
  have hkey : keyOf Try.prog 3 (.int .i64 (cs.length : Int)) = some (.int .i64 (cs.length : Int)) := Maps.keyOf_int_mk Try.underlying3 hwf
  obtain ⟨w', hrun, hown', hg⟩ := hown.update keyed3 Try.underlying74 (by unfold maxLen; omega) hkey (rdC_cfg c.1 c.2)
  refine ⟨w', hrun, ⟨_, by simpa using hown', hm.put _ _, ?_⟩, hg⟩
  · intro i c' hi z
    rcases Nat.lt_or_ge i cs.length with hlt | hge
    · rw [List.getElem?_append_left hlt] at hi
      rw [Maps.atKey_put_other (by intro e; injection e with _ e; omega)]
      exact hat i c' hi z
    · have hi0 : i = cs.length := by
        rcases Nat.lt_or_ge (i - cs.length) 1 with h1 | h1
        · omega
        · rw [List.getElem?_append_right hge, List.getElem?_eq_none (by simpa using h1)] at hi; cases hi
      subst hi0
      simp at hi
      subst hi
      exact Maps.atKey_put_same hm (keyed3.key hkey) _ z

/-- Configurations in line. -/
def kCfg : Kd (Int × Int) where
  sz := 16
  E := []
  K := fun _ x cs => cs = (cfgC x.1 x.2).toList
  M := fun _ _ _ x cs => cs = (cfgC x.1 x.2).toList
  K_len := fun h => by rw [h]; rfl
  K_one := fun h u hu => by
    rw [h] at hu
    simp only [cfgC, List.mem_cons, List.not_mem_nil, or_false] at hu
    rcases hu with rfl | rfl | rfl | rfl | rfl | rfl | rfl | rfl | rfl | rfl | rfl | rfl | rfl | rfl | rfl | rfl <;> rfl
  K_below := fun _ h => h
  K_of_M := fun h => h
  M_mono := fun _ h => h
  M_bound := fun h => h
  M_move := fun _ h => h
  M_lower := fun _ h => h
theorem at_cfg {w : World} {A : Option Addr} {n : Nat} {xs : List (Int × Int)} (h : kCfg.C w A n xs) (i : Nat) (h1 : i < n) (c : Int × Int) (hc : xs[i]? = some c) : ∃ ad, A = some ad ∧ w.cell? (ad.add (i * 16)) = some (.string ⟨#[]⟩) ∧ ∀ j u, 1 ≤ j → (cfgC c.1 c.2)[j]? = some u → w.cell? ⟨(ad.add (i * 16)).block, (ad.add (i * 16)).off + j, none⟩ = some u := by
  obtain ⟨ad, cs, e, _, hK, hc0⟩ := Kd.C_get h (0, 0) (i : Int) (by omega) (by omega)
  have hx : xs.getD (i : Int).toNat (0, 0) = c := by simp [List.getD, hc]
  rw [hx] at hK
  have hK : cs = (cfgC c.1 c.2).toList := hK
  rw [Int.toNat_natCast] at hc0
  have hc1 : ∀ j u, cs[j]? = some u → w.cell? (ad.add (i * 16 + j)) = some u := hc0
  refine ⟨ad, e, hc1 0 _ (by rw [hK]; rfl), fun j u hj hu => ?_⟩
  rw [← add_field _ _ j (by omega)]
  exact hc1 j u (by rw [hK]; simpa using hu)
end Go.Proofs.Ytedknmaaaaomoaa.Hand
