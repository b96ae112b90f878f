/- spec.TxTimes: a text so many times. spec.LsFigure: the documentation's example in its styles. spec.LsFigure: the documentation's example in its styles with bullets, and in Markdown. spec.LsFigure at 0 to 10. -/
import Derived.Test.YtmakcmggicedfaaDoorHandListA
import Derived.Test.YtmakcmggicedfaaDoorWWords
import Derived.Laws.MakeOwn
import Derived.Deep.QuietTactic
import Derived.BigQuiet
import Derived.Test.YtmakcmggicedfaaDoorPLsExamplex1
namespace Go.Proofs.YtmakcmggicedfaaDoor.Hand
section
open Go.RowKit Go.Proofs.YtmakcmggicedfaaDoorW.PrintWords Go.Proofs.YtmakcmggicedfaaDoorW.PrintLast Go.Proofs.YtmakcmggicedfaaDoorW.PrintMore Go.Proofs.YtmakcmggicedfaaDoor.Base
attribute [local go_sem] max2_int min2_int max_two min_two
set_option linter.unusedVariables false
set_option linter.unusedSimpArgs false

def repB (s : ByteArray) : Nat → List Int
  | 0 => []
  | n + 1 => repB s n ++ bytesOf s
theorem repB_len (s : ByteArray) : ∀ n, (repB s n).length = n * s.size
  | 0 => by simp [repB]
  | n + 1 => by rw [repB, List.length_append, repB_len s n, bytesOf_length, Nat.succ_mul]
theorem infoU8t : (Tryd.prog.info? 5).map (fun i => (i.zero, i.size, i.bytes)) = some (some (.int .u8 0), 1, 1) := by kernel_rfl

set_option maxHeartbeats 8000000 in
set_option maxRecDepth 100000 in
theorem txTimes (s : ByteArray) (n : Nat) (hs : s.size ≤ 1000) (hn : n ≤ 1000000) (w : World) :
    Calls Tryd.prog 40 #[.string s, .int .i64 (n : Int)] w fun e w' => e = .returned (.string (strOfNums (repB s n))) ∧ Below w.heap.size w w' := by
  obtain ⟨i0, hi, hzz⟩ := Option.map_eq_some_iff.1 infoU8t
  simp only [Prod.mk.injEq] at hzz
  obtain ⟨hz0, hz1, hz2⟩ := hzz
  have hsn : s.size * n ≤ 1000 * 1000000 := Nat.mul_le_mul hs hn
  obtain ⟨w1, hr, hown, hg⟩ := run_make_own (P := Tryd.prog) (w := w) w.heap.size 71 5 i0 (.int .u8 0) 1 Tryd.underlying71 hi hz0 hz1 .i64 .i64 (s.size * n) (by rw [hz2]; omega) (by unfold maxLen; omega) (Nat.le_refl _)
  have hcast : ((s.size * n : Nat) : Int) = (s.size : Int) * (n : Int) := Int.natCast_mul _ _
  rw [hcast] at hr
  have hw : IntKind.i64.wrap ((s.size : Int) * (n : Int)) = (s.size : Int) * (n : Int) := Go.IntWalk.i64_in _ (by rw [← hcast]; omega)
  have hmx : mx (n : Int) 0 = (n : Int) := by unfold mx; omega
  have OWN := Aside0.mk hown
  have HG := Aside0.mk hg
  clear hown hg hcast hz0 hz1 hz2 hi hsn
  go_enter Tryd.func40, Tryd.ntmps40
  go_wp2
  clear hr hw hmx
  have B1 : Aside0 (Below w.heap.size w w1) := ⟨(Below.refl w.heap.size w).grown HG.out (Nat.le_refl _) (by intro k hk; cases hk)⟩
  have hb1 : w.heap.size ≤ w1.heap.size := B1.out.size
  go_loopg [5, 13] n (fun kq v5 v13 w' => ∃ (i : Nat), v13 = .int .i64 (i : Int) ∧ Aside0 (i + kq = n) ∧ Aside0 (w'.ownsRow w.heap.size 5 1 v5 (repB s i).length (nums .u8 (repB s i))) ∧ Aside0 (Below w.heap.size w w'))
  case atStart => exact ⟨0, rfl, ⟨by omega⟩, OWN, B1⟩
  case round =>
    clear OWN B1 HG hb1
    rename_i v5 v13
    obtain ⟨i, rfl, HK, OWN, HB⟩ := hrel
    have hbr : w.heap.size ≤ wr.heap.size := HB.out.size
    by_cases hi : i < n
    · have p1 : decide ((i : Int) < (n : Int)) = true := decide_eq_true (by omega)
      have hlen : (repB s i).length + s.size ≤ 140737488355328 := by
        rw [repB_len]
        have : i * s.size ≤ 1000000 * 1000 := Nat.mul_le_mul (by omega) hs
        omega
      have HLEN := Aside0.mk hlen
      clear hlen
      go_wp2_with (at_builtin; refine print_append_str w.heap.size rfl _ _ 71 9 5 rfl Tryd.underlying71 Tryd.underlying9 infoU8t _ (repB s i) s rfl rfl OWN.out HB.out hbr HLEN.out ?_; intro v1 w2 hown2 hB2 hg2; have OWN2 := Aside0.mk hown2; have HB2 := Aside0.mk hB2; clear hown2 hB2 hg2)
      go_roundg (gk - 1)
      case measure => have := HK.out; omega
      case rel => exact ⟨i + 1, by go_num, ⟨by have := HK.out; omega⟩, OWN2, HB2⟩
    · have hin : i = n := by have := HK.out; omega
      have p1 : decide ((i : Int) < (n : Int)) = false := decide_eq_false (by omega)
      have hcv := own_string (P := Tryd.prog) (src := 71) (dst := 9) Tryd.underlying71 Tryd.underlying5 Tryd.underlying9 OWN.out
      rw [hin] at hcv
      go_wp2
      go_ret
      exact ⟨rfl, HB.out⟩
end

section
open Go.RowKit Go.Proofs.YtmakcmggicedfaaDoorW.PrintWords Go.Proofs.YtmakcmggicedfaaDoorW.PrintLast Go.Proofs.YtmakcmggicedfaaDoorW.PrintMore Go.Proofs.YtmakcmggicedfaaDoor.Base
set_option linter.unusedVariables false
set_option linter.unusedSimpArgs false

/-- A new row of texts. -/
theorem R_strs (W : World) (base : Nat) (hb : base ≤ W.heap.size) (xs : List ByteArray) (hl : xs.length ≤ maxLen) (g n : Nat) (hg : W.heap.size = g) (hn : xs.length = n) : Kd.R Kd.string 9 (W.alloc (.cells (xs.map Value.string).toArray 9)) base (fun _ => True) (.slice (some ⟨g, 0, none⟩) n n) xs := by
  subst hg hn
  obtain ⟨inner, hin⟩ : ∃ inner, xs.map Value.string = inner := ⟨_, rfl⟩
  have hil : inner.length = xs.length := by rw [← hin]; simp
  rw [hin]
  refine ⟨fun k hk => trivial, inner, ?_, ?_⟩
  · have h2 := World.ownsRow_lit (base := base) (e := 9) (size := 1) W inner.toArray xs.length hb hl (by simpa using hil)
    exact h2
  · rw [← hin]
    refine ⟨(by rw [List.length_map]; exact (Nat.mul_one _).symm), fun j p hj => ?_⟩
    have hjl := (List.getElem?_eq_some_iff.1 hj).1
    have hjp := (List.getElem?_eq_some_iff.1 hj).2
    show ((xs.map Value.string).drop (j * 1)).take 1 = [.string p]
    rw [Nat.mul_one, List.drop_eq_getElem_cons (by simpa using hjl), List.getElem_map, hjp]
    rfl
def figL (c0 c1 c2 c3 c4 : ByteArray) : List ByteArray :=
  [c0 ++ c1 ++ ⟨#[32, 71, 97, 109, 101, 32, 79, 102, 32, 84, 104, 114, 111, 110, 101, 115]⟩,
   c2 ++ ⟨#[32, 32]⟩ ++ (c3 ++ c1 ++ ⟨#[32]⟩) ++ ⟨#[87, 105, 110, 116, 101, 114]⟩,
   c2 ++ ⟨#[32, 32]⟩ ++ (c3 ++ c1 ++ ⟨#[32]⟩) ++ ⟨#[73, 115]⟩,
   c2 ++ ⟨#[32, 32]⟩ ++ (c4 ++ c1 ++ ⟨#[32]⟩) ++ ⟨#[67, 111, 109, 105, 110, 103]⟩,
   c2 ++ ⟨#[32, 32]⟩ ++ ⟨#[32, 32, 32]⟩ ++ (c3 ++ c1 ++ ⟨#[32]⟩) ++ ⟨#[84, 104, 105, 115]⟩,
   c2 ++ ⟨#[32, 32]⟩ ++ ⟨#[32, 32, 32]⟩ ++ (c3 ++ c1 ++ ⟨#[32]⟩) ++ ⟨#[73, 115]⟩,
   c2 ++ ⟨#[32, 32]⟩ ++ ⟨#[32, 32, 32]⟩ ++ (c4 ++ c1 ++ ⟨#[32]⟩) ++ ⟨#[75, 110, 111, 119, 110]⟩,
   c4 ++ c1 ++ ⟨#[32]⟩ ++ ⟨#[84, 104, 101, 32, 68, 97, 114, 107, 32, 84, 111, 119, 101, 114]⟩,
   ⟨#[32, 32, 32]⟩ ++ (c4 ++ c1 ++ ⟨#[32]⟩) ++ ⟨#[84, 104, 101, 32, 71, 117, 110, 115, 108, 105, 110, 103, 101, 114]⟩]

set_option maxHeartbeats 4000000 in
set_option maxRecDepth 100000 in
theorem fig6 (w : World) : Calls Tryd.prog 20 #[.int .i64 6] w fun e w' => ∃ v0_ : Value, e = .returned v0_ ∧ Kd.R Kd.string 9 w' w.heap.size (fun _ => True) v0_ (figL ⟨#[226, 148, 143]⟩ ⟨#[226, 148, 129]⟩ ⟨#[226, 148, 131]⟩ ⟨#[226, 148, 163]⟩ ⟨#[226, 148, 151]⟩) ∧ Below w.heap.size w w' := by
  have ix : ∀ w : World, (Instr.index 60 (.agg #[.string ⟨#[226, 148, 143]⟩, .string ⟨#[226, 148, 129]⟩, .string ⟨#[226, 148, 131]⟩, .string ⟨#[226, 148, 163]⟩, .string ⟨#[226, 148, 151]⟩, .string ⟨#[]⟩, .string ⟨#[226, 149, 148]⟩, .string ⟨#[226, 149, 144]⟩, .string ⟨#[226, 149, 145]⟩, .string ⟨#[226, 149, 160]⟩, .string ⟨#[226, 149, 154]⟩, .string ⟨#[]⟩, .string ⟨#[226, 148, 140]⟩, .string ⟨#[226, 148, 128]⟩, .string ⟨#[226, 148, 130]⟩, .string ⟨#[226, 148, 156]⟩, .string ⟨#[226, 148, 148]⟩, .string ⟨#[]⟩, .string ⟨#[226, 149, 173]⟩, .string ⟨#[226, 148, 128]⟩, .string ⟨#[226, 148, 130]⟩, .string ⟨#[226, 148, 156]⟩, .string ⟨#[226, 149, 176]⟩, .string ⟨#[]⟩]) (.int .i64 0)).run Tryd.prog w = .ok (.agg #[.string ⟨#[226, 148, 143]⟩, .string ⟨#[226, 148, 129]⟩, .string ⟨#[226, 148, 131]⟩, .string ⟨#[226, 148, 163]⟩, .string ⟨#[226, 148, 151]⟩, .string ⟨#[]⟩]) w := fun _ => by kernel_rfl
  go_enter Tryd.func20, Tryd.ntmps20
  go_upto_region 3 with (fail)
  go_quiet (fail)
  go_wp2
  go_ret
  refine ⟨_, rfl, R_strs _ _ ?hb (figL ⟨#[226, 148, 143]⟩ ⟨#[226, 148, 129]⟩ ⟨#[226, 148, 131]⟩ ⟨#[226, 148, 163]⟩ ⟨#[226, 148, 151]⟩) ?hl _ _ ?hg rfl, below_alloc (pw_below_drewN (below_alloc (Below.refl _ _) _) _) _⟩
  case hb => simp
  case hl => simp [figL, maxLen]
  case hg => simp

set_option maxHeartbeats 4000000 in
set_option maxRecDepth 100000 in
theorem fig7 (w : World) : Calls Tryd.prog 20 #[.int .i64 7] w fun e w' => ∃ v0_ : Value, e = .returned v0_ ∧ Kd.R Kd.string 9 w' w.heap.size (fun _ => True) v0_ (figL ⟨#[226, 149, 148]⟩ ⟨#[226, 149, 144]⟩ ⟨#[226, 149, 145]⟩ ⟨#[226, 149, 160]⟩ ⟨#[226, 149, 154]⟩) ∧ Below w.heap.size w w' := by
  have ix : ∀ w : World, (Instr.index 60 (.agg #[.string ⟨#[226, 148, 143]⟩, .string ⟨#[226, 148, 129]⟩, .string ⟨#[226, 148, 131]⟩, .string ⟨#[226, 148, 163]⟩, .string ⟨#[226, 148, 151]⟩, .string ⟨#[]⟩, .string ⟨#[226, 149, 148]⟩, .string ⟨#[226, 149, 144]⟩, .string ⟨#[226, 149, 145]⟩, .string ⟨#[226, 149, 160]⟩, .string ⟨#[226, 149, 154]⟩, .string ⟨#[]⟩, .string ⟨#[226, 148, 140]⟩, .string ⟨#[226, 148, 128]⟩, .string ⟨#[226, 148, 130]⟩, .string ⟨#[226, 148, 156]⟩, .string ⟨#[226, 148, 148]⟩, .string ⟨#[]⟩, .string ⟨#[226, 149, 173]⟩, .string ⟨#[226, 148, 128]⟩, .string ⟨#[226, 148, 130]⟩, .string ⟨#[226, 148, 156]⟩, .string ⟨#[226, 149, 176]⟩, .string ⟨#[]⟩]) (.int .i64 1)).run Tryd.prog w = .ok (.agg #[.string ⟨#[226, 149, 148]⟩, .string ⟨#[226, 149, 144]⟩, .string ⟨#[226, 149, 145]⟩, .string ⟨#[226, 149, 160]⟩, .string ⟨#[226, 149, 154]⟩, .string ⟨#[]⟩]) w := fun _ => by kernel_rfl
  go_enter Tryd.func20, Tryd.ntmps20
  go_upto_region 3 with (fail)
  go_quiet (fail)
  go_wp2
  go_ret
  refine ⟨_, rfl, R_strs _ _ ?hb (figL ⟨#[226, 149, 148]⟩ ⟨#[226, 149, 144]⟩ ⟨#[226, 149, 145]⟩ ⟨#[226, 149, 160]⟩ ⟨#[226, 149, 154]⟩) ?hl _ _ ?hg rfl, below_alloc (pw_below_drewN (below_alloc (Below.refl _ _) _) _) _⟩
  case hb => simp
  case hl => simp [figL, maxLen]
  case hg => simp

set_option maxHeartbeats 4000000 in
set_option maxRecDepth 100000 in
theorem fig8 (w : World) : Calls Tryd.prog 20 #[.int .i64 8] w fun e w' => ∃ v0_ : Value, e = .returned v0_ ∧ Kd.R Kd.string 9 w' w.heap.size (fun _ => True) v0_ (figL ⟨#[226, 148, 140]⟩ ⟨#[226, 148, 128]⟩ ⟨#[226, 148, 130]⟩ ⟨#[226, 148, 156]⟩ ⟨#[226, 148, 148]⟩) ∧ Below w.heap.size w w' := by
  have ix : ∀ w : World, (Instr.index 60 (.agg #[.string ⟨#[226, 148, 143]⟩, .string ⟨#[226, 148, 129]⟩, .string ⟨#[226, 148, 131]⟩, .string ⟨#[226, 148, 163]⟩, .string ⟨#[226, 148, 151]⟩, .string ⟨#[]⟩, .string ⟨#[226, 149, 148]⟩, .string ⟨#[226, 149, 144]⟩, .string ⟨#[226, 149, 145]⟩, .string ⟨#[226, 149, 160]⟩, .string ⟨#[226, 149, 154]⟩, .string ⟨#[]⟩, .string ⟨#[226, 148, 140]⟩, .string ⟨#[226, 148, 128]⟩, .string ⟨#[226, 148, 130]⟩, .string ⟨#[226, 148, 156]⟩, .string ⟨#[226, 148, 148]⟩, .string ⟨#[]⟩, .string ⟨#[226, 149, 173]⟩, .string ⟨#[226, 148, 128]⟩, .string ⟨#[226, 148, 130]⟩, .string ⟨#[226, 148, 156]⟩, .string ⟨#[226, 149, 176]⟩, .string ⟨#[]⟩]) (.int .i64 2)).run Tryd.prog w = .ok (.agg #[.string ⟨#[226, 148, 140]⟩, .string ⟨#[226, 148, 128]⟩, .string ⟨#[226, 148, 130]⟩, .string ⟨#[226, 148, 156]⟩, .string ⟨#[226, 148, 148]⟩, .string ⟨#[]⟩]) w := fun _ => by kernel_rfl
  go_enter Tryd.func20, Tryd.ntmps20
  go_upto_region 3 with (fail)
  go_quiet (fail)
  go_wp2
  go_ret
  refine ⟨_, rfl, R_strs _ _ ?hb (figL ⟨#[226, 148, 140]⟩ ⟨#[226, 148, 128]⟩ ⟨#[226, 148, 130]⟩ ⟨#[226, 148, 156]⟩ ⟨#[226, 148, 148]⟩) ?hl _ _ ?hg rfl, below_alloc (pw_below_drewN (below_alloc (Below.refl _ _) _) _) _⟩
  case hb => simp
  case hl => simp [figL, maxLen]
  case hg => simp

set_option maxHeartbeats 4000000 in
set_option maxRecDepth 100000 in
theorem fig9 (w : World) : Calls Tryd.prog 20 #[.int .i64 9] w fun e w' => ∃ v0_ : Value, e = .returned v0_ ∧ Kd.R Kd.string 9 w' w.heap.size (fun _ => True) v0_ (figL ⟨#[226, 149, 173]⟩ ⟨#[226, 148, 128]⟩ ⟨#[226, 148, 130]⟩ ⟨#[226, 148, 156]⟩ ⟨#[226, 149, 176]⟩) ∧ Below w.heap.size w w' := by
  have ix : ∀ w : World, (Instr.index 60 (.agg #[.string ⟨#[226, 148, 143]⟩, .string ⟨#[226, 148, 129]⟩, .string ⟨#[226, 148, 131]⟩, .string ⟨#[226, 148, 163]⟩, .string ⟨#[226, 148, 151]⟩, .string ⟨#[]⟩, .string ⟨#[226, 149, 148]⟩, .string ⟨#[226, 149, 144]⟩, .string ⟨#[226, 149, 145]⟩, .string ⟨#[226, 149, 160]⟩, .string ⟨#[226, 149, 154]⟩, .string ⟨#[]⟩, .string ⟨#[226, 148, 140]⟩, .string ⟨#[226, 148, 128]⟩, .string ⟨#[226, 148, 130]⟩, .string ⟨#[226, 148, 156]⟩, .string ⟨#[226, 148, 148]⟩, .string ⟨#[]⟩, .string ⟨#[226, 149, 173]⟩, .string ⟨#[226, 148, 128]⟩, .string ⟨#[226, 148, 130]⟩, .string ⟨#[226, 148, 156]⟩, .string ⟨#[226, 149, 176]⟩, .string ⟨#[]⟩]) (.int .i64 3)).run Tryd.prog w = .ok (.agg #[.string ⟨#[226, 149, 173]⟩, .string ⟨#[226, 148, 128]⟩, .string ⟨#[226, 148, 130]⟩, .string ⟨#[226, 148, 156]⟩, .string ⟨#[226, 149, 176]⟩, .string ⟨#[]⟩]) w := fun _ => by kernel_rfl
  go_enter Tryd.func20, Tryd.ntmps20
  go_upto_region 3 with (fail)
  go_quiet (fail)
  go_wp2
  go_ret
  refine ⟨_, rfl, R_strs _ _ ?hb (figL ⟨#[226, 149, 173]⟩ ⟨#[226, 148, 128]⟩ ⟨#[226, 148, 130]⟩ ⟨#[226, 148, 156]⟩ ⟨#[226, 149, 176]⟩) ?hl _ _ ?hg rfl, below_alloc (pw_below_drewN (below_alloc (Below.refl _ _) _) _) _⟩
  case hb => simp
  case hl => simp [figL, maxLen]
  case hg => simp
end

section
open Go.RowKit Go.Proofs.YtmakcmggicedfaaDoorW.PrintWords Go.Proofs.YtmakcmggicedfaaDoorW.PrintLast Go.Proofs.YtmakcmggicedfaaDoorW.PrintMore Go.Proofs.YtmakcmggicedfaaDoor.Base Go.Proofs.YtmakcmggicedfaaDoor.PLsExample
set_option linter.unusedVariables false
set_option linter.unusedSimpArgs false

def exL : List (S33) := [⟨⟨#[71, 97, 109, 101, 32, 79, 102, 32, 84, 104, 114, 111, 110, 101, 115]⟩, 0⟩, ⟨⟨#[87, 105, 110, 116, 101, 114]⟩, 1⟩, ⟨⟨#[73, 115]⟩, 1⟩, ⟨⟨#[67, 111, 109, 105, 110, 103]⟩, 1⟩, ⟨⟨#[84, 104, 105, 115]⟩, 2⟩, ⟨⟨#[73, 115]⟩, 2⟩, ⟨⟨#[75, 110, 111, 119, 110]⟩, 2⟩, ⟨⟨#[84, 104, 101, 32, 68, 97, 114, 107, 32, 84, 111, 119, 101, 114]⟩, 0⟩, ⟨⟨#[84, 104, 101, 32, 71, 117, 110, 115, 108, 105, 110, 103, 101, 114]⟩, 1⟩]
theorem exL_eq : spec_LsExample.f = some exL := rfl
def figLine (b : ByteArray) (md : Bool) (x : S33) : ByteArray :=
  if md then (⟨#[32, 32]⟩ : ByteArray) ++ (strOfNums (repB ⟨#[32, 32]⟩ x.f1.toNat) ++ b ++ ⟨#[32]⟩ ++ x.f0) else strOfNums (repB ⟨#[32, 32]⟩ x.f1.toNat) ++ b ++ ⟨#[32]⟩ ++ x.f0
def figOut (b : ByteArray) (md : Bool) (i : Nat) : List ByteArray := (exL.take i).map (figLine b md)
theorem exL_bd : ∀ x ∈ exL, ∃ m : Nat, x.f1 = (m : Int) ∧ m ≤ 2 ∧ x.f0.size ≤ 100 := by
  intro x hx
  simp only [exL, List.mem_cons, List.not_mem_nil, or_false] at hx
  rcases hx with rfl | rfl | rfl | rfl | rfl | rfl | rfl | rfl | rfl
  all_goals first
    | exact ⟨0, rfl, by omega, by decide⟩
    | exact ⟨1, rfl, by omega, by decide⟩
    | exact ⟨2, rfl, by omega, by decide⟩
theorem rep_size (m : Nat) (hm : m ≤ 2) : (strOfNums (repB ⟨#[32, 32]⟩ m)).size ≤ 100 := by
  match m, hm with
  | 0, _ => decide
  | 1, _ => decide
  | 2, _ => decide
theorem R_less {e b base : Nat} {w : World} {ok : Nat → Prop} {v : Value} {xs : List ByteArray} (h : Kd.R Kd.string e w b ok v xs) (hle : base ≤ b) : Kd.R Kd.string e w base ok v xs := by
  obtain ⟨h1, inner, h2, h3⟩ := h
  exact ⟨h1, inner, own_less h2 hle, h3⟩
theorem info9s : (Tryd.prog.info? 9).map (fun i => (i.zero, i.size, i.bytes)) = some (some (.string ⟨#[]⟩), 1, 16) := by kernel_rfl

set_option maxHeartbeats 8000000 in
set_option maxRecDepth 100000 in
theorem fig0 (w : World) : Calls Tryd.prog 20 #[.int .i64 0] w fun e w' => ∃ v0_ : Value, e = .returned v0_ ∧ Kd.R Kd.string 9 w' w.heap.size (fun _ => True) v0_ (figOut ⟨#[42]⟩ false 9) ∧ Below w.heap.size w w' := by
  go_enter Tryd.func20, Tryd.ntmps20
  go_wp2_with (go_at_call 18; refine (spec_LsExample.calls exL _ exL_eq).mono ?_; rintro e w1 ⟨v1, rfl, hr1, b1⟩; obtain ⟨A, c, hv, hc1, hC⟩ := Kd.R_reads hr1; have hv : v1 = .slice A 9 c := hv; subst hv; have HC := Aside0.mk hC; have B1 := Aside0.mk b1; clear hr1 b1 hC hc1)
  have hs1 : w.heap.size ≤ w1.heap.size := B1.out.size
  go_loopg [8, 92] 9 (fun kq v8 v92 w' => ∃ (i : Nat), v92 = .int .i64 (i : Int) ∧ Aside0 (i + kq = 9) ∧ Aside0 (Kd.R Kd.string 9 w' w1.heap.size (fun _ => True) v8 (figOut ⟨#[42]⟩ false i)) ∧ Aside0 (Below w1.heap.size w1 w'))
  case atStart => exact ⟨0, rfl, ⟨by omega⟩, ⟨Kd.R_nil _ _ _ _ _⟩, ⟨Below.refl _ _⟩⟩
  case round =>
    obtain ⟨i, rfl, HK, HR, HB⟩ := hrel
    have hbr : w1.heap.size ≤ wr.heap.size := HB.out.size
    by_cases hi : i < 9
    · have p1 : decide ((i : Int) < 9) = true := decide_eq_true (by omega)
      have HC2 := Kd.C_below HC.out HB.out
      obtain ⟨ad, hA, q0, q1⟩ := at_T33 HC2 (i : Int) (by omega) (by show (i : Int) < 9; omega)
      subst hA
      have hxl : i < exL.length := hi
      have hrd : rd_T33 exL (i : Int) = exL[i] := by simp [rd_T33, List.getD, hxl]
      have hstep : figOut ⟨#[42]⟩ false (i + 1) = figOut ⟨#[42]⟩ false i ++ [figLine ⟨#[42]⟩ false exL[i]] := by
        unfold figOut
        rw [List.take_succ_eq_append_getElem hxl, List.map_append]
        rfl
      obtain ⟨m, hm, hm2, hx0⟩ := exL_bd exL[i] (List.getElem_mem hxl)
      rw [hrd] at q0 q1
      rw [Int.toNat_natCast] at q0 q1
      have hline : figLine ⟨#[42]⟩ false exL[i] = strOfNums (repB ⟨#[32, 32]⟩ m) ++ ⟨#[42]⟩ ++ ⟨#[32]⟩ ++ exL[i].f0 := by
        unfold figLine
        rw [hm, Int.toNat_natCast]
        rfl
      rw [hm] at q1
      rw [hline] at hstep
      have HSTEP := Aside0.mk hstep
      generalize exL[i].f0 = tx at *
      have hr2 := rep_size m hm2
      have TM := fun w => txTimes ⟨#[32, 32]⟩ m (by decide) (by omega) w
      generalize strOfNums (repB ⟨#[32, 32]⟩ m) = sp at *
      clear hrd hstep hline hm HC2
      go_upto_region 12 with (fail)
      have HX := Aside0.mk (blk_new wr (.cells #[.string tx, .int .i64 (m : Int)] 33))
      have HR2 := Aside0.mk (Kd.R_alloc HR.out (.cells #[.string tx, .int .i64 (m : Int)] 33))
      have HB2 := Aside0.mk (HB.out.alloc hbr (.cells #[.string tx, .int .i64 (m : Int)] 33))
      have hbr2 : w1.heap.size ≤ (wr.alloc (.cells #[.string tx, .int .i64 (m : Int)] 33)).heap.size := HB2.out.size
      change Code.wp _ _ _ _ (wr.alloc (.cells #[.string tx, .int .i64 (m : Int)] 33))
      generalize (wr.alloc (.cells #[.string tx, .int .i64 (m : Int)] 33)) = w2 at HX HR2 HB2 hbr2 ⊢
      generalize wr.heap.size = X at HX ⊢
      clear q0 q1 HR HB hbr
      have x0 : w2.cell? ⟨X, 0, none⟩ = some (.string tx) := by rw [blk_cell HX.out]; rfl
      have x1 : w2.cell? ⟨X, 1, none⟩ = some (.int .i64 (m : Int)) := by rw [blk_cell HX.out]; rfl
      go_cut [11] (fun v11 wc => ∃ ln : ByteArray, v11 = .string ln ∧ Aside0 (ln = sp ++ ⟨#[42]⟩ ++ ⟨#[32]⟩ ++ tx) ∧ Aside0 (Kd.R Kd.string 9 wc w1.heap.size (fun _ => True) u8 (figOut ⟨#[42]⟩ false i)) ∧ Aside0 (Below w1.heap.size w1 wc))
      case first =>
        go_region_with (go_at_call 40; refine (TM _).mono ?_; rintro e w3 ⟨rfl, b3⟩; have k0 := (b3.cell (World.block_lt_of_cell? _ _ x0)).trans x0; have k1 := (b3.cell (World.block_lt_of_cell? _ _ x1)).trans x1)
        all_goals
          go_wp2_with fail
          go_meet
          case rel => exact ⟨_, rfl, ⟨rfl⟩, ⟨Kd.R_below (Kd.R_drew HR2.out) b3⟩, ⟨(below_drew1 HB2.out).trans (b3.mono hbr2)⟩⟩
      case rest =>
        clear x0 x1 HR2 HB2 hbr2 HX
        obtain ⟨ln, rfl, HLN, HR2, HB2⟩ := hcut
        clear TM
        have hbr2 : w1.heap.size ≤ wc.heap.size := HB2.out.size
        have hfl : (figOut ⟨#[42]⟩ false i).length ≤ 9 := by unfold figOut; simp; omega
        go_wp2_with ((with_reducible refine gate_builtin (b := .append) (xs := #[.tmp 109, .tmp 111]) rfl ?_); at_builtin; refine Kd.R_append Kd.string (w0 := w1) w1.heap.size rfl (.tmp 109) (.tmp 111) 27 9 (.string ⟨#[]⟩) 16 rfl Tryd.underlying27 info9s rfl (by decide) (by omega) u8 (figOut ⟨#[42]⟩ false i) (ln) [.string (ln)] (fun _ => True) (fun _ => False) rfl rfl ?aP (fun _ hk => hk.elim) ?aF ?aO ?aB ?aS ?aL ?_; (case aP => exact rfl); (case aF => exact (fun _ _ => trivial)); (case aO => exact HR2.out); (case aB => exact HB2.out); (case aS => exact hbr2); (case aL => omega); intro v9 w4 ho hb hg hat; have HO := Aside0.mk ho; have HBB := Aside0.mk hb; clear ho hb hg hat)
        go_roundg (gk - 1)
        case measure => have := HK.out; omega
        case rel => exact ⟨i + 1, by go_num, ⟨by have := HK.out; omega⟩, ⟨by rw [HSTEP.out, ← HLN.out]; exact HO.out⟩, HBB⟩
    · have p1 : decide ((i : Int) < 9) = false := decide_eq_false (by omega)
      have hi9 : i = 9 := by have := HK.out; omega
      have HR9 := HR.out
      rw [hi9] at HR9
      have HR9 := Aside0.mk HR9
      go_wp2
      go_ret
      exact ⟨_, rfl, R_less HR9.out hs1, B1.out.trans (HB.out.mono hs1)⟩

set_option maxHeartbeats 8000000 in
set_option maxRecDepth 100000 in
theorem fig1 (w : World) : Calls Tryd.prog 20 #[.int .i64 1] w fun e w' => ∃ v0_ : Value, e = .returned v0_ ∧ Kd.R Kd.string 9 w' w.heap.size (fun _ => True) v0_ (figOut ⟨#[226, 151, 143]⟩ false 9) ∧ Below w.heap.size w w' := by
  have ix : ∀ w : World, (Instr.index 61 (.agg #[.string ⟨#[226, 151, 143]⟩, .string ⟨#[226, 156, 189]⟩, .string ⟨#[226, 150, 160]⟩, .string ⟨#[226, 152, 133]⟩, .string ⟨#[226, 150, 182]⟩]) (.int .i64 0)).run Tryd.prog w = .ok (.string ⟨#[226, 151, 143]⟩) w := fun _ => by kernel_rfl
  go_enter Tryd.func20, Tryd.ntmps20
  go_wp2_with (go_at_call 18; refine (spec_LsExample.calls exL _ exL_eq).mono ?_; rintro e w1 ⟨v1, rfl, hr1, b1⟩; obtain ⟨A, c, hv, hc1, hC⟩ := Kd.R_reads hr1; have hv : v1 = .slice A 9 c := hv; subst hv; have HC := Aside0.mk hC; have B1 := Aside0.mk b1; clear hr1 b1 hC hc1)
  have hs1 : w.heap.size ≤ w1.heap.size := B1.out.size
  go_loopg [8, 92] 9 (fun kq v8 v92 w' => ∃ (i : Nat), v92 = .int .i64 (i : Int) ∧ Aside0 (i + kq = 9) ∧ Aside0 (Kd.R Kd.string 9 w' w1.heap.size (fun _ => True) v8 (figOut ⟨#[226, 151, 143]⟩ false i)) ∧ Aside0 (Below w1.heap.size w1 w'))
  case atStart => exact ⟨0, rfl, ⟨by omega⟩, ⟨Kd.R_nil _ _ _ _ _⟩, ⟨Below.refl _ _⟩⟩
  case round =>
    obtain ⟨i, rfl, HK, HR, HB⟩ := hrel
    have hbr : w1.heap.size ≤ wr.heap.size := HB.out.size
    by_cases hi : i < 9
    · have p1 : decide ((i : Int) < 9) = true := decide_eq_true (by omega)
      have HC2 := Kd.C_below HC.out HB.out
      obtain ⟨ad, hA, q0, q1⟩ := at_T33 HC2 (i : Int) (by omega) (by show (i : Int) < 9; omega)
      subst hA
      have hxl : i < exL.length := hi
      have hrd : rd_T33 exL (i : Int) = exL[i] := by simp [rd_T33, List.getD, hxl]
      have hstep : figOut ⟨#[226, 151, 143]⟩ false (i + 1) = figOut ⟨#[226, 151, 143]⟩ false i ++ [figLine ⟨#[226, 151, 143]⟩ false exL[i]] := by
        unfold figOut
        rw [List.take_succ_eq_append_getElem hxl, List.map_append]
        rfl
      obtain ⟨m, hm, hm2, hx0⟩ := exL_bd exL[i] (List.getElem_mem hxl)
      rw [hrd] at q0 q1
      rw [Int.toNat_natCast] at q0 q1
      have hline : figLine ⟨#[226, 151, 143]⟩ false exL[i] = strOfNums (repB ⟨#[32, 32]⟩ m) ++ ⟨#[226, 151, 143]⟩ ++ ⟨#[32]⟩ ++ exL[i].f0 := by
        unfold figLine
        rw [hm, Int.toNat_natCast]
        rfl
      rw [hm] at q1
      rw [hline] at hstep
      have HSTEP := Aside0.mk hstep
      generalize exL[i].f0 = tx at *
      have hr2 := rep_size m hm2
      have TM := fun w => txTimes ⟨#[32, 32]⟩ m (by decide) (by omega) w
      generalize strOfNums (repB ⟨#[32, 32]⟩ m) = sp at *
      clear hrd hstep hline hm HC2
      go_upto_region 12 with (fail)
      have HX := Aside0.mk (blk_new wr (.cells #[.string tx, .int .i64 (m : Int)] 33))
      have HR2 := Aside0.mk (Kd.R_alloc HR.out (.cells #[.string tx, .int .i64 (m : Int)] 33))
      have HB2 := Aside0.mk (HB.out.alloc hbr (.cells #[.string tx, .int .i64 (m : Int)] 33))
      have hbr2 : w1.heap.size ≤ (wr.alloc (.cells #[.string tx, .int .i64 (m : Int)] 33)).heap.size := HB2.out.size
      change Code.wp _ _ _ _ (wr.alloc (.cells #[.string tx, .int .i64 (m : Int)] 33))
      generalize (wr.alloc (.cells #[.string tx, .int .i64 (m : Int)] 33)) = w2 at HX HR2 HB2 hbr2 ⊢
      generalize wr.heap.size = X at HX ⊢
      clear q0 q1 HR HB hbr
      have x0 : w2.cell? ⟨X, 0, none⟩ = some (.string tx) := by rw [blk_cell HX.out]; rfl
      have x1 : w2.cell? ⟨X, 1, none⟩ = some (.int .i64 (m : Int)) := by rw [blk_cell HX.out]; rfl
      go_cut [11] (fun v11 wc => ∃ ln : ByteArray, v11 = .string ln ∧ Aside0 (ln = sp ++ ⟨#[226, 151, 143]⟩ ++ ⟨#[32]⟩ ++ tx) ∧ Aside0 (Kd.R Kd.string 9 wc w1.heap.size (fun _ => True) u8 (figOut ⟨#[226, 151, 143]⟩ false i)) ∧ Aside0 (Below w1.heap.size w1 wc))
      case first =>
        go_region_with (go_at_call 40; refine (TM _).mono ?_; rintro e w3 ⟨rfl, b3⟩; have k0 := (b3.cell (World.block_lt_of_cell? _ _ x0)).trans x0; have k1 := (b3.cell (World.block_lt_of_cell? _ _ x1)).trans x1)
        all_goals
          go_wp2_with fail
          go_meet
          case rel => exact ⟨_, rfl, ⟨rfl⟩, ⟨Kd.R_below (Kd.R_drew HR2.out) b3⟩, ⟨(below_drew1 HB2.out).trans (b3.mono hbr2)⟩⟩
      case rest =>
        clear x0 x1 HR2 HB2 hbr2 HX
        obtain ⟨ln, rfl, HLN, HR2, HB2⟩ := hcut
        clear TM
        have hbr2 : w1.heap.size ≤ wc.heap.size := HB2.out.size
        have hfl : (figOut ⟨#[226, 151, 143]⟩ false i).length ≤ 9 := by unfold figOut; simp; omega
        go_wp2_with ((with_reducible refine gate_builtin (b := .append) (xs := #[.tmp 109, .tmp 111]) rfl ?_); at_builtin; refine Kd.R_append Kd.string (w0 := w1) w1.heap.size rfl (.tmp 109) (.tmp 111) 27 9 (.string ⟨#[]⟩) 16 rfl Tryd.underlying27 info9s rfl (by decide) (by omega) u8 (figOut ⟨#[226, 151, 143]⟩ false i) (ln) [.string (ln)] (fun _ => True) (fun _ => False) rfl rfl ?aP (fun _ hk => hk.elim) ?aF ?aO ?aB ?aS ?aL ?_; (case aP => exact rfl); (case aF => exact (fun _ _ => trivial)); (case aO => exact HR2.out); (case aB => exact HB2.out); (case aS => exact hbr2); (case aL => omega); intro v9 w4 ho hb hg hat; have HO := Aside0.mk ho; have HBB := Aside0.mk hb; clear ho hb hg hat)
        go_roundg (gk - 1)
        case measure => have := HK.out; omega
        case rel => exact ⟨i + 1, by go_num, ⟨by have := HK.out; omega⟩, ⟨by rw [HSTEP.out, ← HLN.out]; exact HO.out⟩, HBB⟩
    · have p1 : decide ((i : Int) < 9) = false := decide_eq_false (by omega)
      have hi9 : i = 9 := by have := HK.out; omega
      have HR9 := HR.out
      rw [hi9] at HR9
      have HR9 := Aside0.mk HR9
      go_wp2
      go_ret
      exact ⟨_, rfl, R_less HR9.out hs1, B1.out.trans (HB.out.mono hs1)⟩

set_option maxHeartbeats 8000000 in
set_option maxRecDepth 100000 in
theorem fig2 (w : World) : Calls Tryd.prog 20 #[.int .i64 2] w fun e w' => ∃ v0_ : Value, e = .returned v0_ ∧ Kd.R Kd.string 9 w' w.heap.size (fun _ => True) v0_ (figOut ⟨#[226, 156, 189]⟩ false 9) ∧ Below w.heap.size w w' := by
  have ix : ∀ w : World, (Instr.index 61 (.agg #[.string ⟨#[226, 151, 143]⟩, .string ⟨#[226, 156, 189]⟩, .string ⟨#[226, 150, 160]⟩, .string ⟨#[226, 152, 133]⟩, .string ⟨#[226, 150, 182]⟩]) (.int .i64 1)).run Tryd.prog w = .ok (.string ⟨#[226, 156, 189]⟩) w := fun _ => by kernel_rfl
  go_enter Tryd.func20, Tryd.ntmps20
  go_wp2_with (go_at_call 18; refine (spec_LsExample.calls exL _ exL_eq).mono ?_; rintro e w1 ⟨v1, rfl, hr1, b1⟩; obtain ⟨A, c, hv, hc1, hC⟩ := Kd.R_reads hr1; have hv : v1 = .slice A 9 c := hv; subst hv; have HC := Aside0.mk hC; have B1 := Aside0.mk b1; clear hr1 b1 hC hc1)
  have hs1 : w.heap.size ≤ w1.heap.size := B1.out.size
  go_loopg [8, 92] 9 (fun kq v8 v92 w' => ∃ (i : Nat), v92 = .int .i64 (i : Int) ∧ Aside0 (i + kq = 9) ∧ Aside0 (Kd.R Kd.string 9 w' w1.heap.size (fun _ => True) v8 (figOut ⟨#[226, 156, 189]⟩ false i)) ∧ Aside0 (Below w1.heap.size w1 w'))
  case atStart => exact ⟨0, rfl, ⟨by omega⟩, ⟨Kd.R_nil _ _ _ _ _⟩, ⟨Below.refl _ _⟩⟩
  case round =>
    obtain ⟨i, rfl, HK, HR, HB⟩ := hrel
    have hbr : w1.heap.size ≤ wr.heap.size := HB.out.size
    by_cases hi : i < 9
    · have p1 : decide ((i : Int) < 9) = true := decide_eq_true (by omega)
      have HC2 := Kd.C_below HC.out HB.out
      obtain ⟨ad, hA, q0, q1⟩ := at_T33 HC2 (i : Int) (by omega) (by show (i : Int) < 9; omega)
      subst hA
      have hxl : i < exL.length := hi
      have hrd : rd_T33 exL (i : Int) = exL[i] := by simp [rd_T33, List.getD, hxl]
      have hstep : figOut ⟨#[226, 156, 189]⟩ false (i + 1) = figOut ⟨#[226, 156, 189]⟩ false i ++ [figLine ⟨#[226, 156, 189]⟩ false exL[i]] := by
        unfold figOut
        rw [List.take_succ_eq_append_getElem hxl, List.map_append]
        rfl
      obtain ⟨m, hm, hm2, hx0⟩ := exL_bd exL[i] (List.getElem_mem hxl)
      rw [hrd] at q0 q1
      rw [Int.toNat_natCast] at q0 q1
      have hline : figLine ⟨#[226, 156, 189]⟩ false exL[i] = strOfNums (repB ⟨#[32, 32]⟩ m) ++ ⟨#[226, 156, 189]⟩ ++ ⟨#[32]⟩ ++ exL[i].f0 := by
        unfold figLine
        rw [hm, Int.toNat_natCast]
        rfl
      rw [hm] at q1
      rw [hline] at hstep
      have HSTEP := Aside0.mk hstep
      generalize exL[i].f0 = tx at *
      have hr2 := rep_size m hm2
      have TM := fun w => txTimes ⟨#[32, 32]⟩ m (by decide) (by omega) w
      generalize strOfNums (repB ⟨#[32, 32]⟩ m) = sp at *
      clear hrd hstep hline hm HC2
      go_upto_region 12 with (fail)
      have HX := Aside0.mk (blk_new wr (.cells #[.string tx, .int .i64 (m : Int)] 33))
      have HR2 := Aside0.mk (Kd.R_alloc HR.out (.cells #[.string tx, .int .i64 (m : Int)] 33))
      have HB2 := Aside0.mk (HB.out.alloc hbr (.cells #[.string tx, .int .i64 (m : Int)] 33))
      have hbr2 : w1.heap.size ≤ (wr.alloc (.cells #[.string tx, .int .i64 (m : Int)] 33)).heap.size := HB2.out.size
      change Code.wp _ _ _ _ (wr.alloc (.cells #[.string tx, .int .i64 (m : Int)] 33))
      generalize (wr.alloc (.cells #[.string tx, .int .i64 (m : Int)] 33)) = w2 at HX HR2 HB2 hbr2 ⊢
      generalize wr.heap.size = X at HX ⊢
      clear q0 q1 HR HB hbr
      have x0 : w2.cell? ⟨X, 0, none⟩ = some (.string tx) := by rw [blk_cell HX.out]; rfl
      have x1 : w2.cell? ⟨X, 1, none⟩ = some (.int .i64 (m : Int)) := by rw [blk_cell HX.out]; rfl
      go_cut [11] (fun v11 wc => ∃ ln : ByteArray, v11 = .string ln ∧ Aside0 (ln = sp ++ ⟨#[226, 156, 189]⟩ ++ ⟨#[32]⟩ ++ tx) ∧ Aside0 (Kd.R Kd.string 9 wc w1.heap.size (fun _ => True) u8 (figOut ⟨#[226, 156, 189]⟩ false i)) ∧ Aside0 (Below w1.heap.size w1 wc))
      case first =>
        go_region_with (go_at_call 40; refine (TM _).mono ?_; rintro e w3 ⟨rfl, b3⟩; have k0 := (b3.cell (World.block_lt_of_cell? _ _ x0)).trans x0; have k1 := (b3.cell (World.block_lt_of_cell? _ _ x1)).trans x1)
        all_goals
          go_wp2_with fail
          go_meet
          case rel => exact ⟨_, rfl, ⟨rfl⟩, ⟨Kd.R_below (Kd.R_drew HR2.out) b3⟩, ⟨(below_drew1 HB2.out).trans (b3.mono hbr2)⟩⟩
      case rest =>
        clear x0 x1 HR2 HB2 hbr2 HX
        obtain ⟨ln, rfl, HLN, HR2, HB2⟩ := hcut
        clear TM
        have hbr2 : w1.heap.size ≤ wc.heap.size := HB2.out.size
        have hfl : (figOut ⟨#[226, 156, 189]⟩ false i).length ≤ 9 := by unfold figOut; simp; omega
        go_wp2_with ((with_reducible refine gate_builtin (b := .append) (xs := #[.tmp 109, .tmp 111]) rfl ?_); at_builtin; refine Kd.R_append Kd.string (w0 := w1) w1.heap.size rfl (.tmp 109) (.tmp 111) 27 9 (.string ⟨#[]⟩) 16 rfl Tryd.underlying27 info9s rfl (by decide) (by omega) u8 (figOut ⟨#[226, 156, 189]⟩ false i) (ln) [.string (ln)] (fun _ => True) (fun _ => False) rfl rfl ?aP (fun _ hk => hk.elim) ?aF ?aO ?aB ?aS ?aL ?_; (case aP => exact rfl); (case aF => exact (fun _ _ => trivial)); (case aO => exact HR2.out); (case aB => exact HB2.out); (case aS => exact hbr2); (case aL => omega); intro v9 w4 ho hb hg hat; have HO := Aside0.mk ho; have HBB := Aside0.mk hb; clear ho hb hg hat)
        go_roundg (gk - 1)
        case measure => have := HK.out; omega
        case rel => exact ⟨i + 1, by go_num, ⟨by have := HK.out; omega⟩, ⟨by rw [HSTEP.out, ← HLN.out]; exact HO.out⟩, HBB⟩
    · have p1 : decide ((i : Int) < 9) = false := decide_eq_false (by omega)
      have hi9 : i = 9 := by have := HK.out; omega
      have HR9 := HR.out
      rw [hi9] at HR9
      have HR9 := Aside0.mk HR9
      go_wp2
      go_ret
      exact ⟨_, rfl, R_less HR9.out hs1, B1.out.trans (HB.out.mono hs1)⟩

set_option maxHeartbeats 8000000 in
set_option maxRecDepth 100000 in
theorem fig3 (w : World) : Calls Tryd.prog 20 #[.int .i64 3] w fun e w' => ∃ v0_ : Value, e = .returned v0_ ∧ Kd.R Kd.string 9 w' w.heap.size (fun _ => True) v0_ (figOut ⟨#[226, 150, 160]⟩ false 9) ∧ Below w.heap.size w w' := by
  have ix : ∀ w : World, (Instr.index 61 (.agg #[.string ⟨#[226, 151, 143]⟩, .string ⟨#[226, 156, 189]⟩, .string ⟨#[226, 150, 160]⟩, .string ⟨#[226, 152, 133]⟩, .string ⟨#[226, 150, 182]⟩]) (.int .i64 2)).run Tryd.prog w = .ok (.string ⟨#[226, 150, 160]⟩) w := fun _ => by kernel_rfl
  go_enter Tryd.func20, Tryd.ntmps20
  go_wp2_with (go_at_call 18; refine (spec_LsExample.calls exL _ exL_eq).mono ?_; rintro e w1 ⟨v1, rfl, hr1, b1⟩; obtain ⟨A, c, hv, hc1, hC⟩ := Kd.R_reads hr1; have hv : v1 = .slice A 9 c := hv; subst hv; have HC := Aside0.mk hC; have B1 := Aside0.mk b1; clear hr1 b1 hC hc1)
  have hs1 : w.heap.size ≤ w1.heap.size := B1.out.size
  go_loopg [8, 92] 9 (fun kq v8 v92 w' => ∃ (i : Nat), v92 = .int .i64 (i : Int) ∧ Aside0 (i + kq = 9) ∧ Aside0 (Kd.R Kd.string 9 w' w1.heap.size (fun _ => True) v8 (figOut ⟨#[226, 150, 160]⟩ false i)) ∧ Aside0 (Below w1.heap.size w1 w'))
  case atStart => exact ⟨0, rfl, ⟨by omega⟩, ⟨Kd.R_nil _ _ _ _ _⟩, ⟨Below.refl _ _⟩⟩
  case round =>
    obtain ⟨i, rfl, HK, HR, HB⟩ := hrel
    have hbr : w1.heap.size ≤ wr.heap.size := HB.out.size
    by_cases hi : i < 9
    · have p1 : decide ((i : Int) < 9) = true := decide_eq_true (by omega)
      have HC2 := Kd.C_below HC.out HB.out
      obtain ⟨ad, hA, q0, q1⟩ := at_T33 HC2 (i : Int) (by omega) (by show (i : Int) < 9; omega)
      subst hA
      have hxl : i < exL.length := hi
      have hrd : rd_T33 exL (i : Int) = exL[i] := by simp [rd_T33, List.getD, hxl]
      have hstep : figOut ⟨#[226, 150, 160]⟩ false (i + 1) = figOut ⟨#[226, 150, 160]⟩ false i ++ [figLine ⟨#[226, 150, 160]⟩ false exL[i]] := by
        unfold figOut
        rw [List.take_succ_eq_append_getElem hxl, List.map_append]
        rfl
      obtain ⟨m, hm, hm2, hx0⟩ := exL_bd exL[i] (List.getElem_mem hxl)
      rw [hrd] at q0 q1
      rw [Int.toNat_natCast] at q0 q1
      have hline : figLine ⟨#[226, 150, 160]⟩ false exL[i] = strOfNums (repB ⟨#[32, 32]⟩ m) ++ ⟨#[226, 150, 160]⟩ ++ ⟨#[32]⟩ ++ exL[i].f0 := by
        unfold figLine
        rw [hm, Int.toNat_natCast]
        rfl
      rw [hm] at q1
      rw [hline] at hstep
      have HSTEP := Aside0.mk hstep
      generalize exL[i].f0 = tx at *
      have hr2 := rep_size m hm2
      have TM := fun w => txTimes ⟨#[32, 32]⟩ m (by decide) (by omega) w
      generalize strOfNums (repB ⟨#[32, 32]⟩ m) = sp at *
      clear hrd hstep hline hm HC2
      go_upto_region 12 with (fail)
      have HX := Aside0.mk (blk_new wr (.cells #[.string tx, .int .i64 (m : Int)] 33))
      have HR2 := Aside0.mk (Kd.R_alloc HR.out (.cells #[.string tx, .int .i64 (m : Int)] 33))
      have HB2 := Aside0.mk (HB.out.alloc hbr (.cells #[.string tx, .int .i64 (m : Int)] 33))
      have hbr2 : w1.heap.size ≤ (wr.alloc (.cells #[.string tx, .int .i64 (m : Int)] 33)).heap.size := HB2.out.size
      change Code.wp _ _ _ _ (wr.alloc (.cells #[.string tx, .int .i64 (m : Int)] 33))
      generalize (wr.alloc (.cells #[.string tx, .int .i64 (m : Int)] 33)) = w2 at HX HR2 HB2 hbr2 ⊢
      generalize wr.heap.size = X at HX ⊢
      clear q0 q1 HR HB hbr
      have x0 : w2.cell? ⟨X, 0, none⟩ = some (.string tx) := by rw [blk_cell HX.out]; rfl
      have x1 : w2.cell? ⟨X, 1, none⟩ = some (.int .i64 (m : Int)) := by rw [blk_cell HX.out]; rfl
      go_cut [11] (fun v11 wc => ∃ ln : ByteArray, v11 = .string ln ∧ Aside0 (ln = sp ++ ⟨#[226, 150, 160]⟩ ++ ⟨#[32]⟩ ++ tx) ∧ Aside0 (Kd.R Kd.string 9 wc w1.heap.size (fun _ => True) u8 (figOut ⟨#[226, 150, 160]⟩ false i)) ∧ Aside0 (Below w1.heap.size w1 wc))
      case first =>
        go_region_with (go_at_call 40; refine (TM _).mono ?_; rintro e w3 ⟨rfl, b3⟩; have k0 := (b3.cell (World.block_lt_of_cell? _ _ x0)).trans x0; have k1 := (b3.cell (World.block_lt_of_cell? _ _ x1)).trans x1)
        all_goals
          go_wp2_with fail
          go_meet
          case rel => exact ⟨_, rfl, ⟨rfl⟩, ⟨Kd.R_below (Kd.R_drew HR2.out) b3⟩, ⟨(below_drew1 HB2.out).trans (b3.mono hbr2)⟩⟩
      case rest =>
        clear x0 x1 HR2 HB2 hbr2 HX
        obtain ⟨ln, rfl, HLN, HR2, HB2⟩ := hcut
        clear TM
        have hbr2 : w1.heap.size ≤ wc.heap.size := HB2.out.size
        have hfl : (figOut ⟨#[226, 150, 160]⟩ false i).length ≤ 9 := by unfold figOut; simp; omega
        go_wp2_with ((with_reducible refine gate_builtin (b := .append) (xs := #[.tmp 109, .tmp 111]) rfl ?_); at_builtin; refine Kd.R_append Kd.string (w0 := w1) w1.heap.size rfl (.tmp 109) (.tmp 111) 27 9 (.string ⟨#[]⟩) 16 rfl Tryd.underlying27 info9s rfl (by decide) (by omega) u8 (figOut ⟨#[226, 150, 160]⟩ false i) (ln) [.string (ln)] (fun _ => True) (fun _ => False) rfl rfl ?aP (fun _ hk => hk.elim) ?aF ?aO ?aB ?aS ?aL ?_; (case aP => exact rfl); (case aF => exact (fun _ _ => trivial)); (case aO => exact HR2.out); (case aB => exact HB2.out); (case aS => exact hbr2); (case aL => omega); intro v9 w4 ho hb hg hat; have HO := Aside0.mk ho; have HBB := Aside0.mk hb; clear ho hb hg hat)
        go_roundg (gk - 1)
        case measure => have := HK.out; omega
        case rel => exact ⟨i + 1, by go_num, ⟨by have := HK.out; omega⟩, ⟨by rw [HSTEP.out, ← HLN.out]; exact HO.out⟩, HBB⟩
    · have p1 : decide ((i : Int) < 9) = false := decide_eq_false (by omega)
      have hi9 : i = 9 := by have := HK.out; omega
      have HR9 := HR.out
      rw [hi9] at HR9
      have HR9 := Aside0.mk HR9
      go_wp2
      go_ret
      exact ⟨_, rfl, R_less HR9.out hs1, B1.out.trans (HB.out.mono hs1)⟩

set_option maxHeartbeats 8000000 in
set_option maxRecDepth 100000 in
theorem fig4 (w : World) : Calls Tryd.prog 20 #[.int .i64 4] w fun e w' => ∃ v0_ : Value, e = .returned v0_ ∧ Kd.R Kd.string 9 w' w.heap.size (fun _ => True) v0_ (figOut ⟨#[226, 152, 133]⟩ false 9) ∧ Below w.heap.size w w' := by
  have ix : ∀ w : World, (Instr.index 61 (.agg #[.string ⟨#[226, 151, 143]⟩, .string ⟨#[226, 156, 189]⟩, .string ⟨#[226, 150, 160]⟩, .string ⟨#[226, 152, 133]⟩, .string ⟨#[226, 150, 182]⟩]) (.int .i64 3)).run Tryd.prog w = .ok (.string ⟨#[226, 152, 133]⟩) w := fun _ => by kernel_rfl
  go_enter Tryd.func20, Tryd.ntmps20
  go_wp2_with (go_at_call 18; refine (spec_LsExample.calls exL _ exL_eq).mono ?_; rintro e w1 ⟨v1, rfl, hr1, b1⟩; obtain ⟨A, c, hv, hc1, hC⟩ := Kd.R_reads hr1; have hv : v1 = .slice A 9 c := hv; subst hv; have HC := Aside0.mk hC; have B1 := Aside0.mk b1; clear hr1 b1 hC hc1)
  have hs1 : w.heap.size ≤ w1.heap.size := B1.out.size
  go_loopg [8, 92] 9 (fun kq v8 v92 w' => ∃ (i : Nat), v92 = .int .i64 (i : Int) ∧ Aside0 (i + kq = 9) ∧ Aside0 (Kd.R Kd.string 9 w' w1.heap.size (fun _ => True) v8 (figOut ⟨#[226, 152, 133]⟩ false i)) ∧ Aside0 (Below w1.heap.size w1 w'))
  case atStart => exact ⟨0, rfl, ⟨by omega⟩, ⟨Kd.R_nil _ _ _ _ _⟩, ⟨Below.refl _ _⟩⟩
  case round =>
    obtain ⟨i, rfl, HK, HR, HB⟩ := hrel
    have hbr : w1.heap.size ≤ wr.heap.size := HB.out.size
    by_cases hi : i < 9
    · have p1 : decide ((i : Int) < 9) = true := decide_eq_true (by omega)
      have HC2 := Kd.C_below HC.out HB.out
      obtain ⟨ad, hA, q0, q1⟩ := at_T33 HC2 (i : Int) (by omega) (by show (i : Int) < 9; omega)
      subst hA
      have hxl : i < exL.length := hi
      have hrd : rd_T33 exL (i : Int) = exL[i] := by simp [rd_T33, List.getD, hxl]
      have hstep : figOut ⟨#[226, 152, 133]⟩ false (i + 1) = figOut ⟨#[226, 152, 133]⟩ false i ++ [figLine ⟨#[226, 152, 133]⟩ false exL[i]] := by
        unfold figOut
        rw [List.take_succ_eq_append_getElem hxl, List.map_append]
        rfl
      obtain ⟨m, hm, hm2, hx0⟩ := exL_bd exL[i] (List.getElem_mem hxl)
      rw [hrd] at q0 q1
      rw [Int.toNat_natCast] at q0 q1
      have hline : figLine ⟨#[226, 152, 133]⟩ false exL[i] = strOfNums (repB ⟨#[32, 32]⟩ m) ++ ⟨#[226, 152, 133]⟩ ++ ⟨#[32]⟩ ++ exL[i].f0 := by
        unfold figLine
        rw [hm, Int.toNat_natCast]
        rfl
      rw [hm] at q1
      rw [hline] at hstep
      have HSTEP := Aside0.mk hstep
      generalize exL[i].f0 = tx at *
      have hr2 := rep_size m hm2
      have TM := fun w => txTimes ⟨#[32, 32]⟩ m (by decide) (by omega) w
      generalize strOfNums (repB ⟨#[32, 32]⟩ m) = sp at *
      clear hrd hstep hline hm HC2
      go_upto_region 12 with (fail)
      have HX := Aside0.mk (blk_new wr (.cells #[.string tx, .int .i64 (m : Int)] 33))
      have HR2 := Aside0.mk (Kd.R_alloc HR.out (.cells #[.string tx, .int .i64 (m : Int)] 33))
      have HB2 := Aside0.mk (HB.out.alloc hbr (.cells #[.string tx, .int .i64 (m : Int)] 33))
      have hbr2 : w1.heap.size ≤ (wr.alloc (.cells #[.string tx, .int .i64 (m : Int)] 33)).heap.size := HB2.out.size
      change Code.wp _ _ _ _ (wr.alloc (.cells #[.string tx, .int .i64 (m : Int)] 33))
      generalize (wr.alloc (.cells #[.string tx, .int .i64 (m : Int)] 33)) = w2 at HX HR2 HB2 hbr2 ⊢
      generalize wr.heap.size = X at HX ⊢
      clear q0 q1 HR HB hbr
      have x0 : w2.cell? ⟨X, 0, none⟩ = some (.string tx) := by rw [blk_cell HX.out]; rfl
      have x1 : w2.cell? ⟨X, 1, none⟩ = some (.int .i64 (m : Int)) := by rw [blk_cell HX.out]; rfl
      go_cut [11] (fun v11 wc => ∃ ln : ByteArray, v11 = .string ln ∧ Aside0 (ln = sp ++ ⟨#[226, 152, 133]⟩ ++ ⟨#[32]⟩ ++ tx) ∧ Aside0 (Kd.R Kd.string 9 wc w1.heap.size (fun _ => True) u8 (figOut ⟨#[226, 152, 133]⟩ false i)) ∧ Aside0 (Below w1.heap.size w1 wc))
      case first =>
        go_region_with (go_at_call 40; refine (TM _).mono ?_; rintro e w3 ⟨rfl, b3⟩; have k0 := (b3.cell (World.block_lt_of_cell? _ _ x0)).trans x0; have k1 := (b3.cell (World.block_lt_of_cell? _ _ x1)).trans x1)
        all_goals
          go_wp2_with fail
          go_meet
          case rel => exact ⟨_, rfl, ⟨rfl⟩, ⟨Kd.R_below (Kd.R_drew HR2.out) b3⟩, ⟨(below_drew1 HB2.out).trans (b3.mono hbr2)⟩⟩
      case rest =>
        clear x0 x1 HR2 HB2 hbr2 HX
        obtain ⟨ln, rfl, HLN, HR2, HB2⟩ := hcut
        clear TM
        have hbr2 : w1.heap.size ≤ wc.heap.size := HB2.out.size
        have hfl : (figOut ⟨#[226, 152, 133]⟩ false i).length ≤ 9 := by unfold figOut; simp; omega
        go_wp2_with ((with_reducible refine gate_builtin (b := .append) (xs := #[.tmp 109, .tmp 111]) rfl ?_); at_builtin; refine Kd.R_append Kd.string (w0 := w1) w1.heap.size rfl (.tmp 109) (.tmp 111) 27 9 (.string ⟨#[]⟩) 16 rfl Tryd.underlying27 info9s rfl (by decide) (by omega) u8 (figOut ⟨#[226, 152, 133]⟩ false i) (ln) [.string (ln)] (fun _ => True) (fun _ => False) rfl rfl ?aP (fun _ hk => hk.elim) ?aF ?aO ?aB ?aS ?aL ?_; (case aP => exact rfl); (case aF => exact (fun _ _ => trivial)); (case aO => exact HR2.out); (case aB => exact HB2.out); (case aS => exact hbr2); (case aL => omega); intro v9 w4 ho hb hg hat; have HO := Aside0.mk ho; have HBB := Aside0.mk hb; clear ho hb hg hat)
        go_roundg (gk - 1)
        case measure => have := HK.out; omega
        case rel => exact ⟨i + 1, by go_num, ⟨by have := HK.out; omega⟩, ⟨by rw [HSTEP.out, ← HLN.out]; exact HO.out⟩, HBB⟩
    · have p1 : decide ((i : Int) < 9) = false := decide_eq_false (by omega)
      have hi9 : i = 9 := by have := HK.out; omega
      have HR9 := HR.out
      rw [hi9] at HR9
      have HR9 := Aside0.mk HR9
      go_wp2
      go_ret
      exact ⟨_, rfl, R_less HR9.out hs1, B1.out.trans (HB.out.mono hs1)⟩

set_option maxHeartbeats 8000000 in
set_option maxRecDepth 100000 in
theorem fig5 (w : World) : Calls Tryd.prog 20 #[.int .i64 5] w fun e w' => ∃ v0_ : Value, e = .returned v0_ ∧ Kd.R Kd.string 9 w' w.heap.size (fun _ => True) v0_ (figOut ⟨#[226, 150, 182]⟩ false 9) ∧ Below w.heap.size w w' := by
  have ix : ∀ w : World, (Instr.index 61 (.agg #[.string ⟨#[226, 151, 143]⟩, .string ⟨#[226, 156, 189]⟩, .string ⟨#[226, 150, 160]⟩, .string ⟨#[226, 152, 133]⟩, .string ⟨#[226, 150, 182]⟩]) (.int .i64 4)).run Tryd.prog w = .ok (.string ⟨#[226, 150, 182]⟩) w := fun _ => by kernel_rfl
  go_enter Tryd.func20, Tryd.ntmps20
  go_wp2_with (go_at_call 18; refine (spec_LsExample.calls exL _ exL_eq).mono ?_; rintro e w1 ⟨v1, rfl, hr1, b1⟩; obtain ⟨A, c, hv, hc1, hC⟩ := Kd.R_reads hr1; have hv : v1 = .slice A 9 c := hv; subst hv; have HC := Aside0.mk hC; have B1 := Aside0.mk b1; clear hr1 b1 hC hc1)
  have hs1 : w.heap.size ≤ w1.heap.size := B1.out.size
  go_loopg [8, 92] 9 (fun kq v8 v92 w' => ∃ (i : Nat), v92 = .int .i64 (i : Int) ∧ Aside0 (i + kq = 9) ∧ Aside0 (Kd.R Kd.string 9 w' w1.heap.size (fun _ => True) v8 (figOut ⟨#[226, 150, 182]⟩ false i)) ∧ Aside0 (Below w1.heap.size w1 w'))
  case atStart => exact ⟨0, rfl, ⟨by omega⟩, ⟨Kd.R_nil _ _ _ _ _⟩, ⟨Below.refl _ _⟩⟩
  case round =>
    obtain ⟨i, rfl, HK, HR, HB⟩ := hrel
    have hbr : w1.heap.size ≤ wr.heap.size := HB.out.size
    by_cases hi : i < 9
    · have p1 : decide ((i : Int) < 9) = true := decide_eq_true (by omega)
      have HC2 := Kd.C_below HC.out HB.out
      obtain ⟨ad, hA, q0, q1⟩ := at_T33 HC2 (i : Int) (by omega) (by show (i : Int) < 9; omega)
      subst hA
      have hxl : i < exL.length := hi
      have hrd : rd_T33 exL (i : Int) = exL[i] := by simp [rd_T33, List.getD, hxl]
      have hstep : figOut ⟨#[226, 150, 182]⟩ false (i + 1) = figOut ⟨#[226, 150, 182]⟩ false i ++ [figLine ⟨#[226, 150, 182]⟩ false exL[i]] := by
        unfold figOut
        rw [List.take_succ_eq_append_getElem hxl, List.map_append]
        rfl
      obtain ⟨m, hm, hm2, hx0⟩ := exL_bd exL[i] (List.getElem_mem hxl)
      rw [hrd] at q0 q1
      rw [Int.toNat_natCast] at q0 q1
      have hline : figLine ⟨#[226, 150, 182]⟩ false exL[i] = strOfNums (repB ⟨#[32, 32]⟩ m) ++ ⟨#[226, 150, 182]⟩ ++ ⟨#[32]⟩ ++ exL[i].f0 := by
        unfold figLine
        rw [hm, Int.toNat_natCast]
        rfl
      rw [hm] at q1
      rw [hline] at hstep
      have HSTEP := Aside0.mk hstep
      generalize exL[i].f0 = tx at *
      have hr2 := rep_size m hm2
      have TM := fun w => txTimes ⟨#[32, 32]⟩ m (by decide) (by omega) w
      generalize strOfNums (repB ⟨#[32, 32]⟩ m) = sp at *
      clear hrd hstep hline hm HC2
      go_upto_region 12 with (fail)
      have HX := Aside0.mk (blk_new wr (.cells #[.string tx, .int .i64 (m : Int)] 33))
      have HR2 := Aside0.mk (Kd.R_alloc HR.out (.cells #[.string tx, .int .i64 (m : Int)] 33))
      have HB2 := Aside0.mk (HB.out.alloc hbr (.cells #[.string tx, .int .i64 (m : Int)] 33))
      have hbr2 : w1.heap.size ≤ (wr.alloc (.cells #[.string tx, .int .i64 (m : Int)] 33)).heap.size := HB2.out.size
      change Code.wp _ _ _ _ (wr.alloc (.cells #[.string tx, .int .i64 (m : Int)] 33))
      generalize (wr.alloc (.cells #[.string tx, .int .i64 (m : Int)] 33)) = w2 at HX HR2 HB2 hbr2 ⊢
      generalize wr.heap.size = X at HX ⊢
      clear q0 q1 HR HB hbr
      have x0 : w2.cell? ⟨X, 0, none⟩ = some (.string tx) := by rw [blk_cell HX.out]; rfl
      have x1 : w2.cell? ⟨X, 1, none⟩ = some (.int .i64 (m : Int)) := by rw [blk_cell HX.out]; rfl
      go_cut [11] (fun v11 wc => ∃ ln : ByteArray, v11 = .string ln ∧ Aside0 (ln = sp ++ ⟨#[226, 150, 182]⟩ ++ ⟨#[32]⟩ ++ tx) ∧ Aside0 (Kd.R Kd.string 9 wc w1.heap.size (fun _ => True) u8 (figOut ⟨#[226, 150, 182]⟩ false i)) ∧ Aside0 (Below w1.heap.size w1 wc))
      case first =>
        go_region_with (go_at_call 40; refine (TM _).mono ?_; rintro e w3 ⟨rfl, b3⟩; have k0 := (b3.cell (World.block_lt_of_cell? _ _ x0)).trans x0; have k1 := (b3.cell (World.block_lt_of_cell? _ _ x1)).trans x1)
        all_goals
          go_wp2_with fail
          go_meet
          case rel => exact ⟨_, rfl, ⟨rfl⟩, ⟨Kd.R_below (Kd.R_drew HR2.out) b3⟩, ⟨(below_drew1 HB2.out).trans (b3.mono hbr2)⟩⟩
      case rest =>
        clear x0 x1 HR2 HB2 hbr2 HX
        obtain ⟨ln, rfl, HLN, HR2, HB2⟩ := hcut
        clear TM
        have hbr2 : w1.heap.size ≤ wc.heap.size := HB2.out.size
        have hfl : (figOut ⟨#[226, 150, 182]⟩ false i).length ≤ 9 := by unfold figOut; simp; omega
        go_wp2_with ((with_reducible refine gate_builtin (b := .append) (xs := #[.tmp 109, .tmp 111]) rfl ?_); at_builtin; refine Kd.R_append Kd.string (w0 := w1) w1.heap.size rfl (.tmp 109) (.tmp 111) 27 9 (.string ⟨#[]⟩) 16 rfl Tryd.underlying27 info9s rfl (by decide) (by omega) u8 (figOut ⟨#[226, 150, 182]⟩ false i) (ln) [.string (ln)] (fun _ => True) (fun _ => False) rfl rfl ?aP (fun _ hk => hk.elim) ?aF ?aO ?aB ?aS ?aL ?_; (case aP => exact rfl); (case aF => exact (fun _ _ => trivial)); (case aO => exact HR2.out); (case aB => exact HB2.out); (case aS => exact hbr2); (case aL => omega); intro v9 w4 ho hb hg hat; have HO := Aside0.mk ho; have HBB := Aside0.mk hb; clear ho hb hg hat)
        go_roundg (gk - 1)
        case measure => have := HK.out; omega
        case rel => exact ⟨i + 1, by go_num, ⟨by have := HK.out; omega⟩, ⟨by rw [HSTEP.out, ← HLN.out]; exact HO.out⟩, HBB⟩
    · have p1 : decide ((i : Int) < 9) = false := decide_eq_false (by omega)
      have hi9 : i = 9 := by have := HK.out; omega
      have HR9 := HR.out
      rw [hi9] at HR9
      have HR9 := Aside0.mk HR9
      go_wp2
      go_ret
      exact ⟨_, rfl, R_less HR9.out hs1, B1.out.trans (HB.out.mono hs1)⟩

set_option maxHeartbeats 8000000 in
set_option maxRecDepth 100000 in
theorem fig10 (w : World) : Calls Tryd.prog 20 #[.int .i64 10] w fun e w' => ∃ v0_ : Value, e = .returned v0_ ∧ Kd.R Kd.string 9 w' w.heap.size (fun _ => True) v0_ (figOut ⟨#[42]⟩ true 9) ∧ Below w.heap.size w w' := by
  go_enter Tryd.func20, Tryd.ntmps20
  go_wp2_with (go_at_call 18; refine (spec_LsExample.calls exL _ exL_eq).mono ?_; rintro e w1 ⟨v1, rfl, hr1, b1⟩; obtain ⟨A, c, hv, hc1, hC⟩ := Kd.R_reads hr1; have hv : v1 = .slice A 9 c := hv; subst hv; have HC := Aside0.mk hC; have B1 := Aside0.mk b1; clear hr1 b1 hC hc1)
  have hs1 : w.heap.size ≤ w1.heap.size := B1.out.size
  go_loopg [8, 92] 9 (fun kq v8 v92 w' => ∃ (i : Nat), v92 = .int .i64 (i : Int) ∧ Aside0 (i + kq = 9) ∧ Aside0 (Kd.R Kd.string 9 w' w1.heap.size (fun _ => True) v8 (figOut ⟨#[42]⟩ true i)) ∧ Aside0 (Below w1.heap.size w1 w'))
  case atStart => exact ⟨0, rfl, ⟨by omega⟩, ⟨Kd.R_nil _ _ _ _ _⟩, ⟨Below.refl _ _⟩⟩
  case round =>
    obtain ⟨i, rfl, HK, HR, HB⟩ := hrel
    have hbr : w1.heap.size ≤ wr.heap.size := HB.out.size
    by_cases hi : i < 9
    · have p1 : decide ((i : Int) < 9) = true := decide_eq_true (by omega)
      have HC2 := Kd.C_below HC.out HB.out
      obtain ⟨ad, hA, q0, q1⟩ := at_T33 HC2 (i : Int) (by omega) (by show (i : Int) < 9; omega)
      subst hA
      have hxl : i < exL.length := hi
      have hrd : rd_T33 exL (i : Int) = exL[i] := by simp [rd_T33, List.getD, hxl]
      have hstep : figOut ⟨#[42]⟩ true (i + 1) = figOut ⟨#[42]⟩ true i ++ [figLine ⟨#[42]⟩ true exL[i]] := by
        unfold figOut
        rw [List.take_succ_eq_append_getElem hxl, List.map_append]
        rfl
      obtain ⟨m, hm, hm2, hx0⟩ := exL_bd exL[i] (List.getElem_mem hxl)
      rw [hrd] at q0 q1
      rw [Int.toNat_natCast] at q0 q1
      have hline : figLine ⟨#[42]⟩ true exL[i] = (⟨#[32, 32]⟩ : ByteArray) ++ (strOfNums (repB ⟨#[32, 32]⟩ m) ++ ⟨#[42]⟩ ++ ⟨#[32]⟩ ++ exL[i].f0) := by
        unfold figLine
        rw [hm, Int.toNat_natCast]
        rfl
      rw [hm] at q1
      rw [hline] at hstep
      have HSTEP := Aside0.mk hstep
      generalize exL[i].f0 = tx at *
      have hr2 := rep_size m hm2
      have TM := fun w => txTimes ⟨#[32, 32]⟩ m (by decide) (by omega) w
      generalize strOfNums (repB ⟨#[32, 32]⟩ m) = sp at *
      clear hrd hstep hline hm HC2
      go_upto_region 12 with (fail)
      have HX := Aside0.mk (blk_new wr (.cells #[.string tx, .int .i64 (m : Int)] 33))
      have HR2 := Aside0.mk (Kd.R_alloc HR.out (.cells #[.string tx, .int .i64 (m : Int)] 33))
      have HB2 := Aside0.mk (HB.out.alloc hbr (.cells #[.string tx, .int .i64 (m : Int)] 33))
      have hbr2 : w1.heap.size ≤ (wr.alloc (.cells #[.string tx, .int .i64 (m : Int)] 33)).heap.size := HB2.out.size
      change Code.wp _ _ _ _ (wr.alloc (.cells #[.string tx, .int .i64 (m : Int)] 33))
      generalize (wr.alloc (.cells #[.string tx, .int .i64 (m : Int)] 33)) = w2 at HX HR2 HB2 hbr2 ⊢
      generalize wr.heap.size = X at HX ⊢
      clear q0 q1 HR HB hbr
      have x0 : w2.cell? ⟨X, 0, none⟩ = some (.string tx) := by rw [blk_cell HX.out]; rfl
      have x1 : w2.cell? ⟨X, 1, none⟩ = some (.int .i64 (m : Int)) := by rw [blk_cell HX.out]; rfl
      go_cut [11] (fun v11 wc => ∃ ln : ByteArray, v11 = .string ln ∧ Aside0 (ln = sp ++ ⟨#[42]⟩ ++ ⟨#[32]⟩ ++ tx) ∧ Aside0 (Kd.R Kd.string 9 wc w1.heap.size (fun _ => True) u8 (figOut ⟨#[42]⟩ true i)) ∧ Aside0 (Below w1.heap.size w1 wc))
      case first =>
        go_region_with (go_at_call 40; refine (TM _).mono ?_; rintro e w3 ⟨rfl, b3⟩; have k0 := (b3.cell (World.block_lt_of_cell? _ _ x0)).trans x0; have k1 := (b3.cell (World.block_lt_of_cell? _ _ x1)).trans x1)
        all_goals
          go_wp2_with fail
          go_meet
          case rel => exact ⟨_, rfl, ⟨rfl⟩, ⟨Kd.R_below (Kd.R_drew HR2.out) b3⟩, ⟨(below_drew1 HB2.out).trans (b3.mono hbr2)⟩⟩
      case rest =>
        clear x0 x1 HR2 HB2 hbr2 HX
        obtain ⟨ln, rfl, HLN, HR2, HB2⟩ := hcut
        clear TM
        have hbr2 : w1.heap.size ≤ wc.heap.size := HB2.out.size
        have hfl : (figOut ⟨#[42]⟩ true i).length ≤ 9 := by unfold figOut; simp; omega
        have hlz : ln.size ≤ 1000 := by rw [HLN.out]; simp only [ByteArray.size_append]; have h1 : (⟨#[42]⟩ : ByteArray).size = 1 := rfl; have h2 : (⟨#[32]⟩ : ByteArray).size = 1 := rfl; omega
        go_upto_region 15 with (fail)
        obtain ⟨l2, hl2⟩ : ∃ l2, (⟨#[32, 32]⟩ : ByteArray) ++ ln = l2 := ⟨_, rfl⟩
        rw [hl2]
        have HL2 := Aside0.mk hl2
        clear hl2
        go_wp2_with ((with_reducible refine gate_builtin (b := .append) (xs := #[.tmp 109, .tmp 111]) rfl ?_); at_builtin; refine Kd.R_append Kd.string (w0 := w1) w1.heap.size rfl (.tmp 109) (.tmp 111) 27 9 (.string ⟨#[]⟩) 16 rfl Tryd.underlying27 info9s rfl (by decide) (by omega) u8 (figOut ⟨#[42]⟩ true i) (l2) [.string (l2)] (fun _ => True) (fun _ => False) rfl rfl ?aP (fun _ hk => hk.elim) ?aF ?aO ?aB ?aS ?aL ?_; (case aP => exact rfl); (case aF => exact (fun _ _ => trivial)); (case aO => exact HR2.out); (case aB => exact HB2.out); (case aS => exact hbr2); (case aL => omega); intro v9 w4 ho hb hg hat; have HO := Aside0.mk ho; have HBB := Aside0.mk hb; clear ho hb hg hat)
        go_roundg (gk - 1)
        case measure => have := HK.out; omega
        case rel => exact ⟨i + 1, by go_num, ⟨by have := HK.out; omega⟩, ⟨by rw [HSTEP.out, ← HLN.out, HL2.out]; exact HO.out⟩, HBB⟩
    · have p1 : decide ((i : Int) < 9) = false := decide_eq_false (by omega)
      have hi9 : i = 9 := by have := HK.out; omega
      have HR9 := HR.out
      rw [hi9] at HR9
      have HR9 := Aside0.mk HR9
      go_wp2
      go_ret
      exact ⟨_, rfl, R_less HR9.out hs1, B1.out.trans (HB.out.mono hs1)⟩
end

section
open Go.RowKit Go.Proofs.YtmakcmggicedfaaDoorW.PrintWords Go.Proofs.YtmakcmggicedfaaDoorW.PrintLast Go.Proofs.YtmakcmggicedfaaDoorW.PrintMore Go.Proofs.YtmakcmggicedfaaDoor.Base
set_option linter.unusedVariables false

def spec_LsFigure.f (n : Int) : Option (List ByteArray) :=
  if n = 0 then some (figOut ⟨#[42]⟩ false 9) else if n = 1 then some (figOut ⟨#[226, 151, 143]⟩ false 9) else if n = 2 then some (figOut ⟨#[226, 156, 189]⟩ false 9) else if n = 3 then some (figOut ⟨#[226, 150, 160]⟩ false 9) else if n = 4 then some (figOut ⟨#[226, 152, 133]⟩ false 9) else if n = 5 then some (figOut ⟨#[226, 150, 182]⟩ false 9) else if n = 6 then some (figL ⟨#[226, 148, 143]⟩ ⟨#[226, 148, 129]⟩ ⟨#[226, 148, 131]⟩ ⟨#[226, 148, 163]⟩ ⟨#[226, 148, 151]⟩) else if n = 7 then some (figL ⟨#[226, 149, 148]⟩ ⟨#[226, 149, 144]⟩ ⟨#[226, 149, 145]⟩ ⟨#[226, 149, 160]⟩ ⟨#[226, 149, 154]⟩) else if n = 8 then some (figL ⟨#[226, 148, 140]⟩ ⟨#[226, 148, 128]⟩ ⟨#[226, 148, 130]⟩ ⟨#[226, 148, 156]⟩ ⟨#[226, 148, 148]⟩) else if n = 9 then some (figL ⟨#[226, 149, 173]⟩ ⟨#[226, 148, 128]⟩ ⟨#[226, 148, 130]⟩ ⟨#[226, 148, 156]⟩ ⟨#[226, 149, 176]⟩) else if n = 10 then some (figOut ⟨#[42]⟩ true 9) else none
theorem spec_LsFigure.calls (a0 : Int) (r : List ByteArray) (w : World) (h : spec_LsFigure.f a0 = some r) :
    Calls Tryd.prog 20 #[.int .i64 a0] w fun e w' => ∃ v0_ : Value, e = .returned (v0_) ∧ Kd.R Kd.string 9 w' w.heap.size (fun _ => True) v0_ r ∧ Below w.heap.size w w' := by
  unfold spec_LsFigure.f at h
  by_cases c0 : a0 = 0
  · rw [if_pos c0] at h
    obtain rfl := Option.some.inj h
    subst c0
    exact fig0 w
  rw [if_neg c0] at h
  by_cases c1 : a0 = 1
  · rw [if_pos c1] at h
    obtain rfl := Option.some.inj h
    subst c1
    exact fig1 w
  rw [if_neg c1] at h
  by_cases c2 : a0 = 2
  · rw [if_pos c2] at h
    obtain rfl := Option.some.inj h
    subst c2
    exact fig2 w
  rw [if_neg c2] at h
  by_cases c3 : a0 = 3
  · rw [if_pos c3] at h
    obtain rfl := Option.some.inj h
    subst c3
    exact fig3 w
  rw [if_neg c3] at h
  by_cases c4 : a0 = 4
  · rw [if_pos c4] at h
    obtain rfl := Option.some.inj h
    subst c4
    exact fig4 w
  rw [if_neg c4] at h
  by_cases c5 : a0 = 5
  · rw [if_pos c5] at h
    obtain rfl := Option.some.inj h
    subst c5
    exact fig5 w
  rw [if_neg c5] at h
  by_cases c6 : a0 = 6
  · rw [if_pos c6] at h
    obtain rfl := Option.some.inj h
    subst c6
    exact fig6 w
  rw [if_neg c6] at h
  by_cases c7 : a0 = 7
  · rw [if_pos c7] at h
    obtain rfl := Option.some.inj h
    subst c7
    exact fig7 w
  rw [if_neg c7] at h
  by_cases c8 : a0 = 8
  · rw [if_pos c8] at h
    obtain rfl := Option.some.inj h
    subst c8
    exact fig8 w
  rw [if_neg c8] at h
  by_cases c9 : a0 = 9
  · rw [if_pos c9] at h
    obtain rfl := Option.some.inj h
    subst c9
    exact fig9 w
  rw [if_neg c9] at h
  by_cases c10 : a0 = 10
  · rw [if_pos c10] at h
    obtain rfl := Option.some.inj h
    subst c10
    exact fig10 w
  rw [if_neg c10] at h
  cases h
end
end Go.Proofs.YtmakcmggicedfaaDoor.Hand
