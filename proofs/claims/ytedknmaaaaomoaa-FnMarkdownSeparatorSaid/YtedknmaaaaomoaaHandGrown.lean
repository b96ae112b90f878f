/- What impl.Grown answers. -/
import Derived.Test.YtedknmaaaaomoaaHandZg
namespace Go.Proofs.Ytedknmaaaaomoaa.Hand
open Go.RowKit Go.Proofs.YtedknmaaaaomoaaW.PrintWords Go.Proofs.YtedknmaaaaomoaaW.PrintLast Go.Proofs.YtedknmaaaaomoaaW.PrintMore Go.Proofs.Ytedknmaaaaomoaa.Base
open Go.Maps (Keyed)
set_option linter.unusedVariables false
set_option linter.unusedSimpArgs false

def atL (l : List Int) (i : Nat) : Int := l.getD i 0
set_option maxHeartbeats 8000000 in
set_option maxRecDepth 100000 in
theorem implAt (A0 : Option Addr) (c0 : Nat) (l0 : List Int) (i : Nat) (w : World) (hr0 : Kd.C (Kd.int .i64) w A0 l0.length l0) :
    Calls Try.prog 12 #[.slice A0 l0.length c0, .int .i64 (i : Int)] w fun e w' => e = .returned (.int .i64 (atL l0 i)) ∧ w = w' := by
  by_cases c3 : (i : Int) < (l0.length : Int)
  · have c3b0 : decide ((i : Int) < (l0.length : Int)) = true := decide_eq_true c3
    obtain ⟨ad, e, hx⟩ := Kd.at_int hr0 (i : Int) (by omega) c3
    subst e
    have hv : rd l0 (i : Int) = atL l0 i := by simp [rd, atL]
    rw [hv] at hx
    generalize atL l0 i = x at hx
    clear hv hr0
    (try simp only [Go.IntWalk.toNatUp] at hx)
    go_enter Try.func12, Try.ntmps12
    go_wp2
    go_ret
    exact ⟨rfl, rfl⟩
  · have c3b0 : decide ((i : Int) < (l0.length : Int)) = false := decide_eq_false c3
    have hv : atL l0 i = 0 := by simp [atL, List.getD, List.getElem?_eq_none (show l0.length ≤ i by omega)]
    rw [hv]
    go_enter Try.func12, Try.ntmps12
    go_wp2
    go_ret
    exact ⟨rfl, rfl⟩

theorem growOut_len (caps : List Int) : ∀ (k : Nat) (ws : List Int) (p : Int), ws.length = caps.length → (growOut caps k ws p).length = ws.length
  | 0, ws, p, _ => rfl
  | k + 1, ws, p, h => by
    have h1 : (growIn (ws.zip caps) p).1.length = ws.length := by rw [growIn_len, List.length_zip]; omega
    rw [growOut]
    split
    · rfl
    · split
      · exact h1
      · rw [growOut_len caps k _ _ (by omega), h1]
/-- The configurations of the first columns. -/
def capsOf (most : List Int) (n : Nat) : List (Int × Int) := (List.range n).map fun i => (0, atL most i)
theorem capsOf_len (most : List Int) (n : Nat) : (capsOf most n).length = n := by simp [capsOf]
theorem capsOf_succ (most : List Int) (n : Nat) : capsOf most (n + 1) = capsOf most n ++ [(0, atL most n)] := by simp [capsOf, List.range_succ]
def impl_Grown.f (l0 l1 : List Int) (a2 a3 : Int) : Option (List Int) :=
  if l0.length ≤ 1000000 ∧ (0 ≤ a2 ∧ a2 ≤ 1000000) ∧ (0 ≤ a3 ∧ a3 ≤ 1000000) ∧ (∀ x ∈ l0, 0 ≤ x ∧ x ≤ 1000000) then some (growOut ((capsOf l1 l0.length).map (·.2)) (a3 - a2).toNat l0 (a3 - a2)) else none

set_option maxHeartbeats 8000000 in
set_option maxRecDepth 100000 in
theorem impl_Grown.calls (A0 : Option Addr) (c0 : Nat) (l0 : List Int) (A1 : Option Addr) (c1 : Nat) (l1 : List Int) (a2 a3 : Int) (r : List Int) (w : World) (hr0 : Kd.C (Kd.int .i64) w A0 l0.length l0) (hc0 : l0.length ≤ c0) (hr1 : Kd.C (Kd.int .i64) w A1 l1.length l1) (hc1 : l1.length ≤ c1) (h : impl_Grown.f l0 l1 a2 a3 = some r) :
    Calls Try.prog 6 #[.slice A0 l0.length c0, .slice A1 l1.length c1, .int .i64 a2, .int .i64 a3] w fun e w' => ∃ v, e = .returned v ∧ (Kd.int .i64).R 3 w' w.heap.size (fun _ => True) v r ∧ Below w.heap.size w w' := by
  unfold impl_Grown.f at h
  split at h
  case isFalse => cases h
  rename_i hz
  obtain ⟨hn, hl, hm, hw⟩ := hz
  have HRES := Aside0.mk (Option.some.inj h)
  have H0 := Aside0.mk hr0
  have H1 := Aside0.mk hr1
  have HW := Aside0.mk hw
  clear h hr0 hr1 hc0 hc1 hw
  go_enter Try.func6, Try.ntmps6
  go_wp2
  go_loopg [9, 13] l0.length (fun kq v9 v13 w' => ∃ (i : Nat), v13 = .int .i64 (i : Int) ∧ Aside0 (i + kq = l0.length) ∧ Aside0 (kCfg.R 41 w' w.heap.size (fun _ => True) v9 (capsOf l1 i)) ∧ Aside0 (Below w.heap.size w w'))
  case atStart => exact ⟨0, rfl, ⟨by omega⟩, ⟨Kd.R_nil _ _ _ _ _⟩, ⟨Below.refl _ _⟩⟩
  case round =>
    obtain ⟨i, rfl, HK, HR, HB⟩ := hrel
    by_cases hi : i < l0.length
    · have p1 : decide ((i : Int) < (l0.length : Int)) = true := decide_eq_true (by omega)
      have hbr : w.heap.size ≤ wr.heap.size := HB.out.size
      have hlen : (capsOf l1 i).length = i := capsOf_len _ _
      go_wp2_with (first
        | (go_at_call 12; refine (implAt A1 c1 l1 i _ (Kd.C_below H1.out HB.out)).mono ?_; rintro e w2 ⟨rfl, rfl⟩)
        | ((with_reducible refine gate_builtin (b := .append) (xs := #[.tmp 16, .tmp 21]) rfl ?_); at_builtin; refine Kd.R_append (d := kCfg) (w0 := w) (W := wr) w.heap.size (by rfl) (.tmp 16) (.tmp 21) 34 41 (.agg (cfgC 0 0)) 184 (by rfl) Try.underlying34 info41 (by rfl) (by decide) (by decide) u9 (capsOf l1 i) (0, atL l1 i) (cfgC 0 (atL l1 i)).toList (fun _ => True) (fun _ => False) (by rfl) (by rfl) (by rfl) (fun _ hk => hk.elim) (fun _ _ => trivial) HR.out HB.out hbr (by rw [hlen]; omega) ?_; intro v2 w2 ho hb hg hat; have R2 := Aside0.mk ho; have B2 := Aside0.mk hb; clear ho hb hg hat))
      go_roundg (gk - 1)
      case measure => have := HK.out; omega
      case rel => exact ⟨i + 1, by go_num, ⟨by have := HK.out; omega⟩, ⟨by rw [capsOf_succ]; exact R2.out⟩, B2⟩
    · have hin : i = l0.length := by have := HK.out; omega
      have p1 : decide ((i : Int) < (l0.length : Int)) = false := decide_eq_false (by omega)
      obtain ⟨A, c, hv, hlc, hC⟩ := Kd.R_reads HR.out
      rw [hin] at hC hv
      have HC := Aside0.mk hC
      subst hv
      clear hC hlc
      go_wp2_with (first
        | ((with_reducible refine gate_dst (N := 28) rfl ?_); refine wpList_build (by rfl) 65 #[(8, .tmp 27)] (by rfl) (.agg (styG a3)) ?hb ?_; (case hb => (have hb := sty_run a3 wr; simpa [Act.eval] using hb)))
        | (go_at_call 13; refine (zzGrown A0 c0 l0 A c (capsOf l1 l0.length) (styG a3) a3 a2 wr (Kd.C_below H0.out HB.out) HC.out hn (capsOf_len _ _) (sty_52 a3) (sty_size a3) hl hm HW.out).mono ?_; rintro e w3 ⟨G, gc, rfl, ho, hb⟩; have R3 := Aside0.mk ho; have B3 := Aside0.mk hb; clear ho hb))
      go_ret
      refine ⟨_, rfl, ?_, HB.out.trans (B3.out.mono HB.out.size)⟩
      rw [← HRES.out]
      exact Kd.R_of_own (by rw [growOut_len _ _ _ _ (by simp [capsOf_len])]; exact own_weaken R3.out HB.out.size) (fun _ _ => trivial)
end Go.Proofs.Ytedknmaaaaomoaa.Hand
