/- RenderMarkdown: what a list's items are in the style for Markdown, whatever style is set; ListMarkdown; the style of that name. -/
import Derived.Test.YtmakcmggicedfaaGreatDoorHandListQ
import Derived.Defers
import Derived.Handy
namespace Go.Proofs.YtmakcmggicedfaaGreatDoor.Hand
open Go.RowKit Go.Proofs.YtmakcmggicedfaaGreatDoorW.PrintWords Go.Proofs.YtmakcmggicedfaaGreatDoor.Base
set_option linter.unusedVariables false
set_option linter.unusedSimpArgs false

def mdName : ByteArray := ⟨#[83, 116, 121, 108, 101, 77, 97, 114, 107, 100, 111, 119, 110]⟩
def mdSty : Sty := ⟨0, ⟨#[42]⟩, ⟨#[42]⟩, ⟨#[42]⟩, ⟨#[42]⟩, ⟨#[32, 32]⟩, ⟨#[42]⟩, ⟨#[60, 98, 114, 47, 62]⟩, ⟨#[32, 32]⟩, mdName⟩
theorem mdSty_ok : StyOk mdSty := by constructor <;> decide

set_option maxHeartbeats 2000000 in
set_option maxRecDepth 100000 in
theorem styleMd (w : World) : Calls Tryz.prog 31 #[] w fun e w' => e = .returned (.agg mdSty.cells) ∧ Below w.heap.size w w' := by
  go_enter Tryz.func31, Tryz.ntmps31
  go_wp2
  go_returns
  exact ⟨rfl, below_alloc (Below.refl _ _) _⟩

set_option maxHeartbeats 8000000 in
set_option maxRecDepth 100000 in
theorem setStyleAny (L : Nat) (u0 u1 u2 u3 u4 : Value) (q : Option Addr) (st : Sty) (w : World) (h1 : w.heap[L]? = some (.cells #[u0, u1, u2, u3, u4, .pointer q] 53 (0, 0))) :
    Calls Tryz.prog 17 #[.pointer (some ⟨L, 0, none⟩), .agg st.cells] w fun e w' => e = .returned (.tuple #[]) ∧ ∃ S, w.heap.size ≤ S ∧ w'.heap[S]? = some (.cells st.cells 44 (0, 0)) ∧ w'.heap[L]? = some (.cells #[u0, u1, u2, u3, u4, .pointer (some ⟨S, 0, none⟩)] 53 (0, 0)) ∧ KeptB L L w w' := by
  have H1 := Aside0.mk h1
  have hLw := blk_lt h1
  clear h1
  unfold Sty.cells
  go_enter Tryz.func17, Tryz.ntmps17
  go_upto_region 1 with (fail)
  have L1 := Aside0.mk (blk_alloc H1.out (.cells st.cells 44))
  have S1 : Aside0 ((w.alloc (.cells st.cells 44)).heap[w.heap.size]? = some (.cells st.cells 44 (0, 0))) := ⟨blk_new _ _⟩
  have B1 : Aside0 (KeptB L L w (w.alloc (.cells st.cells 44))) := ⟨(KeptB.refl L L w).step (Nat.le_of_lt hLw) (below_alloc (Below.refl _ _) _)⟩
  change Code.wp _ _ _ _ (w.alloc (.cells st.cells 44))
  obtain ⟨S, hS⟩ : ∃ S, w.heap.size = S := ⟨_, rfl⟩
  generalize (w.alloc (.cells st.cells 44)) = w1 at L1 S1 B1 ⊢
  rw [hS] at S1 ⊢
  have f5 : w1.frozen? ⟨L, 5, none⟩ = false := blk_frozen L1.out 5
  have c5 : w1.cell? ⟨L, 5, none⟩ = some (.pointer q) := by rw [blk_cell L1.out]; rfl
  have HSW := Aside0.mk hS
  clear hS
  go_wp2
  go_end0
  refine ⟨rfl, S, Nat.le_of_eq HSW.out, blk_far S1.out (Ne.symm (blk_ne' L1.out S1.out neLS)) _, blk_put L1.out 5 _ rfl, B1.out.set (Nat.le_refl _) 5 _⟩

theorem ItemsIn.kept {w w' : World} {B C L : Nat} {v : Value} {xs : List (Int × ByteArray)} {cs : Array Value} (hL : w.heap[L]? = some (.cells cs 53 (0, 0))) (h : ItemsIn w B v xs) (hB : B ≤ w.heap.size) (hk : KeptB C L w w') : ItemsIn w' B v xs := by
  obtain ⟨ao, c, rfl, hx⟩ := h
  refine ⟨ao, c, rfl, fun h0 => ?_⟩
  obtain ⟨a, cur, fz, ha, haB, hrow, hi⟩ := hx h0
  refine ⟨a, cur, fz, ha, haB, (hk.2.2 a (Ne.symm (blk_ne' hL hrow neLP)) (by omega)).trans hrow, fun i x hxi => ?_⟩
  obtain ⟨p, hp, hc, hh⟩ := hi i x hxi
  exact ⟨p, hp, hc, (hk.2.2 p (Ne.symm (blk_ne' hL hh neLI)) (by omega)).trans hh⟩
theorem KeptB.cell {C L : Nat} {w w' : World} (h : KeptB C L w w') {k j : Nat} {u : Value} (hk : w.cell? ⟨k, j, none⟩ = some u) (hne : k ≠ L) : w'.cell? ⟨k, j, none⟩ = some u := by
  have hlt := World.block_lt_of_cell? _ _ hk
  have e := h.2.2 k hne hlt
  unfold World.cell? at hk ⊢
  rw [show w'.heap[(⟨k, j, none⟩ : Addr).block]? = w.heap[(⟨k, j, none⟩ : Addr).block]? from e]
  exact hk
theorem KeptB.trans {C L : Nat} {w w1 w2 : World} (h : KeptB C L w w1) (h2 : KeptB C L w1 w2) : KeptB C L w w2 :=
  ⟨h.1.trans h2.1, Nat.le_trans h.2.1 h2.2.1, fun k h3 h4 => (h2.2.2 k h3 (Nat.lt_of_lt_of_le h4 h.2.1)).trans (h.2.2 k h3 h4)⟩
theorem KeptB.mono {C C' L : Nat} {w w1 : World} (h : KeptB C L w w1) (hC : C' ≤ C) : KeptB C' L w w1 := ⟨h.1.mono hC, h.2⟩

set_option maxHeartbeats 8000000 in
set_option maxRecDepth 100000 in
theorem mdBack (a bx L S0 : Nat) (st0 : Sty) (u0 u1 u2 u3 u4 : Value) (q : Option Addr) (w : World) (ha : w.cell? ⟨a, 0, none⟩ = some (.pointer (some ⟨S0, 0, none⟩))) (hbx : w.cell? ⟨bx, 0, none⟩ = some (.pointer (some ⟨L, 0, none⟩)))
    (hS : w.heap[S0]? = some (.cells st0.cells 44 (0, 0))) (hL : w.heap[L]? = some (.cells #[u0, u1, u2, u3, u4, .pointer q] 53 (0, 0))) :
    CallsD Tryz.prog 39 #[.pointer (some ⟨a, 0, none⟩), .pointer (some ⟨bx, 0, none⟩)] .returning w fun e u' w' => u' = .returning ∧ (e = .returned (.tuple #[]) ∧ KeptB L L w w') := by
  have H1 := Aside0.mk hL
  have e0 : w.cell? ⟨S0, 0, none⟩ = some (.int .i64 st0.fmt) := by rw [blk_cell hS]; rfl
  have e1 : w.cell? ⟨S0, 1, none⟩ = some (.string st0.single) := by rw [blk_cell hS]; rfl
  have e2 : w.cell? ⟨S0, 2, none⟩ = some (.string st0.top) := by rw [blk_cell hS]; rfl
  have e3 : w.cell? ⟨S0, 3, none⟩ = some (.string st0.first) := by rw [blk_cell hS]; rfl
  have e4 : w.cell? ⟨S0, 4, none⟩ = some (.string st0.middle) := by rw [blk_cell hS]; rfl
  have e5 : w.cell? ⟨S0, 5, none⟩ = some (.string st0.vert) := by rw [blk_cell hS]; rfl
  have e6 : w.cell? ⟨S0, 6, none⟩ = some (.string st0.bottom) := by rw [blk_cell hS]; rfl
  have e7 : w.cell? ⟨S0, 7, none⟩ = some (.string st0.newline) := by rw [blk_cell hS]; rfl
  have e8 : w.cell? ⟨S0, 8, none⟩ = some (.string st0.pre) := by rw [blk_cell hS]; rfl
  have e9 : w.cell? ⟨S0, 9, none⟩ = some (.string st0.name) := by rw [blk_cell hS]; rfl
  clear hL hS
  go_enter_d Tryz.func39, Tryz.ntmps39
  go_wp2
  go_region_with (go_at_call 17; refine (setStyleAny L u0 u1 u2 u3 u4 q st0 _ (blk_drew H1.out)).mono ?_; rintro e w2 ⟨rfl, S2, _, _, _, k2⟩)
  all_goals
    go_wp2
    go_end0
    exact ⟨rfl, ((KeptB.refl L L w).drew).trans k2⟩

set_option maxHeartbeats 16000000 in
set_option maxRecDepth 100000 in
theorem renderMarkdown (w : World) (L S0 : Nat) (lv0 : Int) (st0 : Sty) (v : Value) (xs : List (Int × ByteArray)) (H : ListIn w w.heap.size L S0 0 ⟨#[]⟩ ⟨#[]⟩ lv0 st0 v xs) (hxs : xs.length ≤ 500) (hit : ItemsOk xs) (C : Nat) (hC : C ≤ L) :
    Calls Tryz.prog 19 #[.pointer (some ⟨L, 0, none⟩)] w fun e w' => e = .returned (.string ⟨(renderL mdSty xs xs.length).toArray⟩) ∧ Below C w w' := by
  have hmf : ∀ (fn : Fn) (first cap : Array Value) (w : World), (Instr.makeFunc fn first cap).run Tryz.prog w = .ok (.func fn first cap) w := fun _ _ _ _ => rfl
  obtain ⟨hLw, hSw, hS, hL, hI⟩ := H
  have HI := Aside0.mk hI
  have HS := Aside0.mk hS
  have HL := Aside0.mk hL
  have HIT := Aside0.mk hit
  have c5 : w.cell? ⟨L, 5, none⟩ = some (.pointer (some ⟨S0, 0, none⟩)) := by rw [blk_cell hL]; rfl
  clear hI hS hL hit
  go_enter_defers Tryz.func19, Tryz.ntmps19
  go_upto_region 3 with (fail)
  have W2 : ∃ w2, w2 = (w.alloc (.cells #[.pointer (some ⟨L, 0, none⟩)] 39)).alloc (.cells #[.pointer (some ⟨S0, 0, none⟩)] 51) := ⟨_, rfl⟩
  obtain ⟨w2, hw2⟩ := W2
  have HL2 : Aside0 (w2.heap[L]? = some (.cells #[.int .i64 0, .string ⟨#[]⟩, .string ⟨#[]⟩, v, .int .i64 lv0, .pointer (some ⟨S0, 0, none⟩)] 53 (0, 0))) := ⟨by rw [hw2]; exact blk_alloc (blk_alloc HL.out _) _⟩
  have HS2 : Aside0 (w2.heap[S0]? = some (.cells st0.cells 44 (0, 0))) := ⟨by rw [hw2]; exact blk_alloc (blk_alloc HS.out _) _⟩
  have HA2 : Aside0 (w2.heap[w.heap.size + 1]? = some (.cells #[.pointer (some ⟨S0, 0, none⟩)] 51 (0, 0))) := ⟨by
    have h := blk_new (w.alloc (.cells #[.pointer (some ⟨L, 0, none⟩)] 39)) (.cells #[.pointer (some ⟨S0, 0, none⟩)] 51)
    rw [show (w.alloc (.cells #[.pointer (some ⟨L, 0, none⟩)] 39)).heap.size = w.heap.size + 1 by simp] at h
    rw [hw2]
    exact h⟩
  have HB2 : Aside0 (w2.heap[w.heap.size]? = some (.cells #[.pointer (some ⟨L, 0, none⟩)] 39 (0, 0))) := ⟨by rw [hw2]; exact blk_alloc (blk_new _ _) _⟩
  have K2 : Aside0 (KeptB C L w w2) := ⟨by rw [hw2]; exact ((KeptB.refl C L w).step (by omega) (below_alloc (Below.refl _ _) _)).step (by omega) (below_alloc (Below.refl _ _) _)⟩
  have sz2 : w.heap.size + 1 < w2.heap.size := by rw [hw2]; simp
  change Code.wp _ _ _ _ ((w.alloc (.cells #[.pointer (some ⟨L, 0, none⟩)] 39)).alloc (.cells #[.pointer (some ⟨S0, 0, none⟩)] 51))
  rw [← hw2]
  obtain ⟨bx, hbx⟩ : ∃ bx, w.heap.size = bx := ⟨_, rfl⟩
  rw [hbx] at HA2 HB2 sz2 ⊢
  have HBX := Aside0.mk hbx
  have hLb : L < bx := by omega
  have hSb : S0 < bx := by omega
  obtain ⟨a, ha⟩ : ∃ a, bx + 1 = a := ⟨_, rfl⟩
  rw [ha] at HA2 sz2 ⊢
  have hab : bx < a := by omega
  have cB : w2.cell? ⟨bx, 0, none⟩ = some (.pointer (some ⟨L, 0, none⟩)) := by rw [blk_cell HB2.out]; rfl
  clear hw2 hbx ha c5
  go_region_with (first
    | (go_at_call 31; refine (styleMd _).mono ?_; rintro e w3 ⟨rfl, b3⟩; have cB3 := (b3.cell (World.block_lt_of_cell? _ _ cB)).trans cB)
    | (go_at_call 17; refine (setStyleAny L _ _ _ _ _ _ mdSty w3 (blk_below (blk_drew HL2.out) b3)).mono ?_; rintro e w4 ⟨rfl, S1, hS1, h4, hL4, K4⟩))
  all_goals
    have sz4 : w3.heap.size ≤ w4.heap.size := K4.2.1
    have sz3 : w2.heap.size ≤ w3.heap.size := b3.size
    have K3 : KeptB C L w w4 := (K2.out.drew.step (by omega) b3).trans (K4.mono hC)
    have HK3 := Aside0.mk K3
    have HL4 := Aside0.mk hL4
    have HS4 := Aside0.mk h4
    have hit4 := HIT.out
    have HLI : Aside0 (ListIn w4 w4.heap.size L S1 0 ⟨#[]⟩ ⟨#[]⟩ lv0 mdSty v xs) := ⟨blk_lt hL4, blk_lt h4, h4, hL4, (HI.out.kept HL.out (Nat.le_refl _) K3).mono K3.2.1⟩
    have hSL : S0 ≠ L := Ne.symm (blk_ne' HL.out HS.out neLS)
    have xA : w4.cell? ⟨a, 0, none⟩ = some (.pointer (some ⟨S0, 0, none⟩)) := K4.cell ((b3.cell (show a < w2.drew.heap.size from sz2)).trans (show w2.cell? ⟨a, 0, none⟩ = _ by rw [blk_cell HA2.out]; rfl)) (by omega)
    have xB : w4.cell? ⟨bx, 0, none⟩ = some (.pointer (some ⟨L, 0, none⟩)) := K4.cell cB3 (by omega)
    have HXA := Aside0.mk xA
    have HXS := Aside0.mk ((K3.2.2 S0 hSL hSw).trans HS.out)
    clear hL4 h4 K3 K4 b3 cB cB3 xA hit4
    go_wp2_with (go_at_call 20; refine (renderK w4 L S1 lv0 mdSty v xs HLI.out mdSty_ok hxs HIT.out C hC).mono ?_; rintro e w5 ⟨rfl, k5, u0, u1, u2, hL5⟩)
    refine leaves_cons (f := 39) (args := #[.pointer (some ⟨a, 0, none⟩), .pointer (some ⟨bx, 0, none⟩)]) (by simp) (by simp [go_sem]) ?_
    refine (mdBack a bx L S0 st0 u0 u1 u2 v (.int .i64 lv0) (some ⟨S1, 0, none⟩) w5 (k5.cell HXA.out (by omega)) (k5.cell xB (by omega)) ((k5.2.2 S0 hSL (blk_lt HXS.out)).trans HXS.out) hL5).mono ?_
    rintro e u' w6 ⟨rfl, rfl, k6⟩
    exact ⟨_, results_tmp rfl _ _ _, rfl, (HK3.out.trans (k5.trans (k6.mono hC))).1⟩

def impl_ListMarkdown.f (l : List (S48)) (s0 : Int) (s1 s2 s3 s4 s5 s6 s7 s8 : ByteArray) : Option ByteArray :=
  if l.length ≤ 1000000 then (stepsL l 0 []).map fun s => ⟨(renderL mdSty s.2 s.2.length).toArray⟩ else none

set_option maxHeartbeats 8000000 in
set_option maxRecDepth 100000 in
theorem impl_ListMarkdown.calls (A0 : Option Addr) (c0 : Nat) (l : List (S48)) (s0 : Int) (s1 s2 s3 s4 s5 s6 s7 s8 : ByteArray) (r : ByteArray) (w : World) (hr0 : Kd.C k48 w A0 l.length l) (hc0 : l.length ≤ c0) (h : impl_ListMarkdown.f l s0 s1 s2 s3 s4 s5 s6 s7 s8 = some r) :
    Calls Tryz.prog 8 #[.slice A0 l.length c0, .agg #[.int .i64 s0, .string s1, .string s2, .string s3, .string s4, .string s5, .string s6, .string s7, .string s8]] w fun e w' => e = .returned (.string r) ∧ Below w.heap.size w w' := by
  unfold impl_ListMarkdown.f at h
  split at h
  case isFalse => cases h
  rename_i hz
  have hl := hz
  obtain ⟨⟨lv, xs⟩, hs, hr⟩ := Option.map_eq_some_iff.mp h
  have HS := Aside0.mk hs
  have HR := Aside0.mk hr0
  have HRR := Aside0.mk hr
  clear hs hr0 h hr
  have hcs : (Sty.cells ⟨s0, s1, s2, s3, s4, s5, s6, s7, s8, ⟨#[]⟩⟩) = #[.int .i64 s0, .string s1, .string s2, .string s3, .string s4, .string s5, .string s6, .string s7, .string s8, .string ⟨#[]⟩] := rfl
  have HCS := Aside0.mk hcs
  clear hcs
  go_enter Tryz.func8, Tryz.ntmps8
  go_upto_region 1 with (fail)
  have HR1 := Aside0.mk (Kd.C_below HR.out (below_alloc (Below.refl _ _) (.cells #[.int .i64 s0, .string s1, .string s2, .string s3, .string s4, .string s5, .string s6, .string s7, .string s8] 24)))
  have B1 : Aside0 (Below w.heap.size w (w.alloc (.cells #[.int .i64 s0, .string s1, .string s2, .string s3, .string s4, .string s5, .string s6, .string s7, .string s8] 24))) := ⟨below_alloc (Below.refl _ _) _⟩
  have N1 := Aside0.mk (blk_new w (.cells #[.int .i64 s0, .string s1, .string s2, .string s3, .string s4, .string s5, .string s6, .string s7, .string s8] 24))
  change Code.wp _ _ _ _ (w.alloc (.cells #[.int .i64 s0, .string s1, .string s2, .string s3, .string s4, .string s5, .string s6, .string s7, .string s8] 24))
  obtain ⟨X, hX⟩ : ∃ X, w.heap.size = X := ⟨_, rfl⟩
  generalize (w.alloc (.cells #[.int .i64 s0, .string s1, .string s2, .string s3, .string s4, .string s5, .string s6, .string s7, .string s8] 24)) = w1 at HR1 B1 N1 ⊢
  have HX := Aside0.mk hX
  have hsz1 : X ≤ w1.heap.size := by rw [← hX]; exact B1.out.size
  rw [hX] at N1 ⊢
  clear hX
  go_wp2_with (first
    | (go_at_call 16; refine (listOf A0 c0 l lv xs w1 HR1.out hl HS.out).mono ?_; rintro e w2 ⟨L, v, rfl, hL, hok, h2, i2, b2⟩; have OK := Aside0.mk hok; have H2 := Aside0.mk h2; have I2 := Aside0.mk i2; have B2 := Aside0.mk b2; have N2 := Aside0.mk (blk_below N1.out b2); have q0 : w2.cell? ⟨X, 0, none⟩ = some (.int .i64 s0) := (by rw [blk_cell N2.out]; rfl); have q1 : w2.cell? ⟨X, 1, none⟩ = some (.string s1) := (by rw [blk_cell N2.out]; rfl); have q2 : w2.cell? ⟨X, 2, none⟩ = some (.string s2) := (by rw [blk_cell N2.out]; rfl); have q3 : w2.cell? ⟨X, 3, none⟩ = some (.string s3) := (by rw [blk_cell N2.out]; rfl); have q4 : w2.cell? ⟨X, 4, none⟩ = some (.string s4) := (by rw [blk_cell N2.out]; rfl); have q5 : w2.cell? ⟨X, 5, none⟩ = some (.string s5) := (by rw [blk_cell N2.out]; rfl); have q6 : w2.cell? ⟨X, 6, none⟩ = some (.string s6) := (by rw [blk_cell N2.out]; rfl); have q7 : w2.cell? ⟨X, 7, none⟩ = some (.string s7) := (by rw [blk_cell N2.out]; rfl); have q8 : w2.cell? ⟨X, 8, none⟩ = some (.string s8) := (by rw [blk_cell N2.out]; rfl); clear hok h2 i2 b2)
    | (go_at_call 18; refine (listStyle s0 s1 s2 s3 s4 s5 s6 s7 s8 _).mono ?_; rintro e w3 ⟨rfl, b3⟩; have H3 := Aside0.mk (blk_below H2.out b3); have I3 := Aside0.mk (I2.out.below b3); have B3 := Aside0.mk (B2.out.trans (b3.mono B2.out.size)); have hsz3 : w1.heap.size ≤ w3.heap.size := B3.out.size; clear b3 q0 q1 q2 q3 q4 q5 q6 q7 q8)
    | (go_at_call 17; refine (setStyle w1.heap.size L lv ⟨s0, s1, s2, s3, s4, s5, s6, s7, s8, ⟨#[]⟩⟩ w3 v xs H3.out I3.out hL hsz3).mono ?_; rintro e w4 ⟨rfl, ⟨S, h4⟩, b4⟩; have H4 := Aside0.mk h4; have B4 := Aside0.mk (B3.out.trans b4); clear h4 b4)
    | (go_at_call 19; refine (renderMarkdown w4 L S lv ⟨s0, s1, s2, s3, s4, s5, s6, s7, s8, ⟨#[]⟩⟩ v xs H4.out OK.out.2.2.1 OK.out.2.2.2 w1.heap.size hL).mono ?_; rintro e w5 ⟨rfl, b5⟩; have B5 := Aside0.mk (B4.out.trans b5); clear b5))
  go_ret
  refine ⟨ret_str HRR.out, ?_⟩
  rw [HX.out]
  have := B1.out
  rw [HX.out] at this
  exact this.trans (B5.out.mono hsz1)
end Go.Proofs.YtmakcmggicedfaaGreatDoor.Hand
