/- The law FnListItems, walked. -/
import Derived.Test.YtmakcmggicedfaaDoorHandListV
import Derived.Test.YtmakcmggicedfaaDoorHandListQ
import Derived.Test.YtmakcmggicedfaaDoorItemsLaw
import Derived.Deep.RegionHeld3
import Derived.Deep.Cut
namespace Go.Proofs.YtmakcmggicedfaaDoor.Hand
open Go.RowKit Go.Proofs.YtmakcmggicedfaaDoorW.PrintWords Go.Proofs.YtmakcmggicedfaaDoorW.PrintLast Go.Proofs.YtmakcmggicedfaaDoorW.PrintMore Go.Proofs.YtmakcmggicedfaaDoor.Base Go.Proofs.YtmakcmggicedfaaDoor.PFnListItems Go.Proofs.YtmakcmggicedfaaDoor.Items Go.Proofs.YtmakcmggicedfaaDoor.Cl
set_option linter.unusedVariables false
set_option linter.unusedSimpArgs false

def styA (s0 : Int) (s1 s2 s3 s4 s5 s6 s7 s8 : ByteArray) : Array Value := #[.int .i64 s0, .string s1, .string s2, .string s3, .string s4, .string s5, .string s6, .string s7, .string s8]
theorem sty_q {w : World} {X : Nat} {s0 : Int} {s1 s2 s3 s4 s5 s6 s7 s8 : ByteArray} (h : w.heap[X]? = some (.cells (styA s0 s1 s2 s3 s4 s5 s6 s7 s8) 24 (0, 0))) :
    w.cell? ⟨X, 0, none⟩ = some (.int .i64 s0) ∧ w.cell? ⟨X, 1, none⟩ = some (.string s1) ∧ w.cell? ⟨X, 2, none⟩ = some (.string s2) ∧ w.cell? ⟨X, 3, none⟩ = some (.string s3) ∧ w.cell? ⟨X, 4, none⟩ = some (.string s4) ∧ w.cell? ⟨X, 5, none⟩ = some (.string s5) ∧ w.cell? ⟨X, 6, none⟩ = some (.string s6) ∧ w.cell? ⟨X, 7, none⟩ = some (.string s7) ∧ w.cell? ⟨X, 8, none⟩ = some (.string s8) :=
  ⟨by rw [blk_cell h]; rfl, by rw [blk_cell h]; rfl, by rw [blk_cell h]; rfl, by rw [blk_cell h]; rfl, by rw [blk_cell h]; rfl, by rw [blk_cell h]; rfl, by rw [blk_cell h]; rfl, by rw [blk_cell h]; rfl, by rw [blk_cell h]; rfl⟩

theorem keep9 {w' w2 wb : World} {X : Nat} {s0 : Int} {s1 s2 s3 s4 s5 s6 s7 s8 : ByteArray} (h : w'.cell? ⟨X, 0, none⟩ = some (.int .i64 s0) ∧ w'.cell? ⟨X, 1, none⟩ = some (.string s1) ∧ w'.cell? ⟨X, 2, none⟩ = some (.string s2) ∧ w'.cell? ⟨X, 3, none⟩ = some (.string s3) ∧ w'.cell? ⟨X, 4, none⟩ = some (.string s4) ∧ w'.cell? ⟨X, 5, none⟩ = some (.string s5) ∧ w'.cell? ⟨X, 6, none⟩ = some (.string s6) ∧ w'.cell? ⟨X, 7, none⟩ = some (.string s7) ∧ w'.cell? ⟨X, 8, none⟩ = some (.string s8) ∧ Below wb.heap.size wb w') (hb : Below w'.heap.size w' w2) : w2.cell? ⟨X, 0, none⟩ = some (.int .i64 s0) ∧ w2.cell? ⟨X, 1, none⟩ = some (.string s1) ∧ w2.cell? ⟨X, 2, none⟩ = some (.string s2) ∧ w2.cell? ⟨X, 3, none⟩ = some (.string s3) ∧ w2.cell? ⟨X, 4, none⟩ = some (.string s4) ∧ w2.cell? ⟨X, 5, none⟩ = some (.string s5) ∧ w2.cell? ⟨X, 6, none⟩ = some (.string s6) ∧ w2.cell? ⟨X, 7, none⟩ = some (.string s7) ∧ w2.cell? ⟨X, 8, none⟩ = some (.string s8) ∧ Below wb.heap.size wb w2 := by
  obtain ⟨h0, h1, h2, h3, h4, h5, h6, h7, h8, h9⟩ := h
  have hk : ∀ a v, w'.cell? a = some v → w2.cell? a = some v := fun a v h => (hb.cell (World.block_lt_of_cell? _ _ h)).trans h
  exact ⟨hk _ _ h0, hk _ _ h1, hk _ _ h2, hk _ _ h3, hk _ _ h4, hk _ _ h5, hk _ _ h6, hk _ _ h7, hk _ _ h8, h9.trans (hb.mono h9.size)⟩

theorem keepB {w' wb : World} {X : Nat} {s0 : Int} {s1 s2 s3 s4 s5 s6 s7 s8 : ByteArray} (h : w'.cell? ⟨X, 0, none⟩ = some (.int .i64 s0) ∧ w'.cell? ⟨X, 1, none⟩ = some (.string s1) ∧ w'.cell? ⟨X, 2, none⟩ = some (.string s2) ∧ w'.cell? ⟨X, 3, none⟩ = some (.string s3) ∧ w'.cell? ⟨X, 4, none⟩ = some (.string s4) ∧ w'.cell? ⟨X, 5, none⟩ = some (.string s5) ∧ w'.cell? ⟨X, 6, none⟩ = some (.string s6) ∧ w'.cell? ⟨X, 7, none⟩ = some (.string s7) ∧ w'.cell? ⟨X, 8, none⟩ = some (.string s8) ∧ Below wb.heap.size wb w') : Below wb.heap.size wb w' := h.2.2.2.2.2.2.2.2.2

set_option maxHeartbeats 16000000 in
set_option maxRecDepth 100000 in
theorem fnListItems (A0 : Option Addr) (c0 : Nat) (l : List S33) (A1 : Option Addr) (c1 : Nat) (more : List ByteArray) (s0 : Int) (s1 s2 s3 s4 s5 s6 s7 s8 : ByteArray) (w : World) (hr0 : Kd.C k33 w A0 l.length l) (hc0 : l.length ≤ c0) (hr1 : Kd.C Kd.string w A1 more.length more) (hc1 : more.length ≤ c1)
    (hl : l.length ≤ 1000000000000000) (hz : ∀ x ∈ l, x.f0.size ≤ 140737488351232) (hm : more.length ≤ 1000000000000000) (hmz : ∀ x ∈ more, x.size ≤ 140737488351232) (hsz : ∀ x ∈ [s1, s2, s3, s4, s5, s6, s8], x.size ≤ 4611686018427387904) :
    Calls Tryd.prog 4 #[.slice A0 l.length c0, .slice A1 more.length c1, .agg #[.int .i64 s0, .string s1, .string s2, .string s3, .string s4, .string s5, .string s6, .string s7, .string s8]] w fun e w' => e = .returned (.bool true) ∧ Below w.heap.size w w' := by
  obtain ⟨b1, e1⟩ := fits1_ev l hl
  obtain ⟨k1, f1⟩ := e1.rounds
  obtain ⟨b4, e4⟩ := fits4_ev more hm
  obtain ⟨k4, f4⟩ := e4.rounds
  obtain ⟨b3, f3⟩ := fits3_some s0 s1 s2 s3 s4 s5 s6 s7 s8
  obtain ⟨br, er, gr⟩ := right_ev l hl hz
  obtain ⟨kr, fr⟩ := er.rounds
  obtain ⟨bs, es, gs⟩ := styled_ev s0 s1 s2 s3 s4 s5 s6 s7 s8 hsz
  obtain ⟨ks, fs⟩ := es.rounds
  have F1 := Aside0.mk f1
  have F4 := Aside0.mk f4
  have F3 := Aside0.mk f3
  have FR := Aside0.mk fr
  have FS := Aside0.mk fs
  have GR := Aside0.mk gr
  have GS := Aside0.mk gs
  have HR0 := Aside0.mk hr0
  have HR1 := Aside0.mk hr1
  have HC0 := Aside0.mk hc0
  have HC1 := Aside0.mk hc1
  have HMZ := Aside0.mk hmz
  clear e1 e4 er es f1 f4 f3 fr fs gr gs hr0 hr1 hc0 hc1 hmz hz hsz
  go_enter Tryd.func4, Tryd.ntmps4
  go_upto_region 1 with (fail)
  have X1 : Aside0 ((w.alloc (.cells (styA s0 s1 s2 s3 s4 s5 s6 s7 s8) 24)).heap[w.heap.size]? = some (.cells (styA s0 s1 s2 s3 s4 s5 s6 s7 s8) 24 (0, 0))) := ⟨blk_new _ _⟩
  have B1 := Aside0.mk (below_alloc (Below.refl w.heap.size w) (.cells (styA s0 s1 s2 s3 s4 s5 s6 s7 s8) 24))
  change Code.wp _ _ _ _ (w.alloc (.cells (styA s0 s1 s2 s3 s4 s5 s6 s7 s8) 24))
  generalize (w.alloc (.cells (styA s0 s1 s2 s3 s4 s5 s6 s7 s8) 24)) = w1 at X1 B1 ⊢
  cases b1 with
  | false =>
    go_wp2_with (go_at_call 6; refine (laws_zzFits1.calls k1 A0 c0 l _ _ (Kd.C_below HR0.out B1.out) HC0.out F1.out).mono ?_; rintro e w2 ⟨rfl, b2⟩; have X2 := Aside0.mk (blk_below X1.out b2); have B2 := Aside0.mk (B1.out.trans (b2.mono B1.out.size)); clear b2)
    go_ret
    exact ⟨rfl, B2.out⟩
  | true =>
  cases b4 with
  | false =>
    go_wp2_with (first | (go_at_call 6; refine (laws_zzFits1.calls k1 A0 c0 l _ _ (Kd.C_below HR0.out B1.out) HC0.out F1.out).mono ?_; rintro e w2 ⟨rfl, b2⟩; have X2 := Aside0.mk (blk_below X1.out b2); have B2 := Aside0.mk (B1.out.trans (b2.mono B1.out.size)); clear b2) | (go_at_call 13; refine (laws_zzFits4.calls k4 A1 c1 more _ _ (Kd.C_below HR1.out B2.out) HC1.out F4.out).mono ?_; rintro e w3x ⟨rfl, ⟨nd, rfl⟩⟩; have X3 := Aside0.mk (blk_drewN X2.out nd); have B3 := Aside0.mk (pw_below_drewN B2.out nd); obtain ⟨q0, q1, q2, q3, q4, q5, q6, q7, q8⟩ := sty_q X3.out))
    go_ret
    exact ⟨rfl, B3.out⟩
  | true =>
  cases b3 with
  | false =>
    go_wp2_with (first | (go_at_call 6; refine (laws_zzFits1.calls k1 A0 c0 l _ _ (Kd.C_below HR0.out B1.out) HC0.out F1.out).mono ?_; rintro e w2 ⟨rfl, b2⟩; have X2 := Aside0.mk (blk_below X1.out b2); have B2 := Aside0.mk (B1.out.trans (b2.mono B1.out.size)); clear b2) | (go_at_call 13; refine (laws_zzFits4.calls k4 A1 c1 more _ _ (Kd.C_below HR1.out B2.out) HC1.out F4.out).mono ?_; rintro e w3x ⟨rfl, ⟨nd, rfl⟩⟩; have X3 := Aside0.mk (blk_drewN X2.out nd); have B3 := Aside0.mk (pw_below_drewN B2.out nd); obtain ⟨q0, q1, q2, q3, q4, q5, q6, q7, q8⟩ := sty_q X3.out) | (go_at_call 7; refine (laws_zzFits3.calls s0 s1 s2 s3 s4 s5 s6 s7 s8 _ _ F3.out).mono ?_; rintro e w4 ⟨rfl, b4⟩; have X4 := Aside0.mk (blk_below X3.out b4); have B4 := Aside0.mk (B3.out.trans (b4.mono B3.out.size)); clear b4))
    go_ret
    exact ⟨rfl, B4.out⟩
  | true =>
  go_upto_region 3 with (first | (go_at_call 6; refine (laws_zzFits1.calls k1 A0 c0 l _ _ (Kd.C_below HR0.out B1.out) HC0.out F1.out).mono ?_; rintro e w2 ⟨rfl, b2⟩; have X2 := Aside0.mk (blk_below X1.out b2); have B2 := Aside0.mk (B1.out.trans (b2.mono B1.out.size)); clear b2) | (go_at_call 13; refine (laws_zzFits4.calls k4 A1 c1 more _ _ (Kd.C_below HR1.out B2.out) HC1.out F4.out).mono ?_; rintro e w3x ⟨rfl, ⟨nd, rfl⟩⟩; have X3 := Aside0.mk (blk_drewN X2.out nd); have B3 := Aside0.mk (pw_below_drewN B2.out nd); obtain ⟨q0, q1, q2, q3, q4, q5, q6, q7, q8⟩ := sty_q X3.out) | (go_at_call 7; refine (laws_zzFits3.calls s0 s1 s2 s3 s4 s5 s6 s7 s8 _ _ F3.out).mono ?_; rintro e w4 ⟨rfl, b4⟩; have X4 := Aside0.mk (blk_below X3.out b4); have B4 := Aside0.mk (B3.out.trans (b4.mono B3.out.size)); clear b4))
  clear X1 B1 X2 B2 X3 B3 q0 q1 q2 q3 q4 q5 q6 q7 q8
  cases br with
  | false =>
    go_wp2_with (go_at_call 8; refine (spec_LsRight.calls kr A0 c0 l _ _ (Kd.C_below HR0.out B4.out) HC0.out FR.out).mono ?_; rintro e w5 ⟨rfl, b5⟩; have X5 := Aside0.mk (blk_below X4.out b5); have B5 := Aside0.mk (B4.out.trans (b5.mono B4.out.size)); clear b5; obtain ⟨q0, q1, q2, q3, q4, q5, q6, q7, q8⟩ := sty_q X5.out)
    go_ret
    exact ⟨rfl, B5.out⟩
  | true =>
  obtain ⟨h60, hg⟩ := GR.out rfl
  by_cases h20 : (more.length : Int) > 20
  · have d20 : decide ((20 : Int) < (more.length : Int)) = true := decide_eq_true (by omega)
    go_wp2_with (go_at_call 8; refine (spec_LsRight.calls kr A0 c0 l _ _ (Kd.C_below HR0.out B4.out) HC0.out FR.out).mono ?_; rintro e w5 ⟨rfl, b5⟩; have X5 := Aside0.mk (blk_below X4.out b5); have B5 := Aside0.mk (B4.out.trans (b5.mono B4.out.size)); clear b5; obtain ⟨q0, q1, q2, q3, q4, q5, q6, q7, q8⟩ := sty_q X5.out)
    go_ret
    exact ⟨rfl, B5.out⟩
  have d20 : decide ((20 : Int) < (more.length : Int)) = false := decide_eq_false (by omega)
  cases bs with
  | false =>
    go_wp2_with (first | (go_at_call 8; refine (spec_LsRight.calls kr A0 c0 l _ _ (Kd.C_below HR0.out B4.out) HC0.out FR.out).mono ?_; rintro e w5 ⟨rfl, b5⟩; have X5 := Aside0.mk (blk_below X4.out b5); have B5 := Aside0.mk (B4.out.trans (b5.mono B4.out.size)); clear b5; obtain ⟨q0, q1, q2, q3, q4, q5, q6, q7, q8⟩ := sty_q X5.out) | (go_at_call 9; refine (spec_LsStyled.calls ks s0 s1 s2 s3 s4 s5 s6 s7 s8 _ _ FS.out).mono ?_; rintro e w6 ⟨rfl, b6⟩; have X6 := Aside0.mk (blk_below X5.out b6); have B6 := Aside0.mk (B5.out.trans (b6.mono B5.out.size)); clear b6))
    go_ret
    exact ⟨rfl, B6.out⟩
  | true =>
  have hsty := GS.out rfl
  have h20' : more.length ≤ 20 := by omega
  obtain ⟨t, et, hst, htl⟩ := steps_ev l h60 hg
  obtain ⟨kt, ft⟩ := et.rounds
  have FT := Aside0.mk ft
  have HST := Aside0.mk hst
  have HSTY := Aside0.mk hsty
  have H60 := Aside0.mk h60
  clear et ft hst hsty hg GR GS h60 h20
  go_upto_region 6 with (first | (go_at_call 8; refine (spec_LsRight.calls kr A0 c0 l _ _ (Kd.C_below HR0.out B4.out) HC0.out FR.out).mono ?_; rintro e w5 ⟨rfl, b5⟩; have X5 := Aside0.mk (blk_below X4.out b5); have B5 := Aside0.mk (B4.out.trans (b5.mono B4.out.size)); clear b5; obtain ⟨q0, q1, q2, q3, q4, q5, q6, q7, q8⟩ := sty_q X5.out) | (go_at_call 9; refine (spec_LsStyled.calls ks s0 s1 s2 s3 s4 s5 s6 s7 s8 _ _ FS.out).mono ?_; rintro e w6 ⟨rfl, b6⟩; have X6 := Aside0.mk (blk_below X5.out b6); have B6 := Aside0.mk (B5.out.trans (b6.mono B5.out.size)); clear b6) | (go_at_call 12; refine (spec_LsSteps.calls kt A0 c0 l t _ (Kd.C_below HR0.out B6.out) HC0.out FT.out).mono ?_; rintro e w7 ⟨v0, rfl, hS, b7⟩; have X7 := Aside0.mk (blk_below X6.out b7); have B7 := Aside0.mk (B6.out.trans (b7.mono B6.out.size)); have S7 := Aside0.mk hS; clear hS b7))
  have HB7 : w.heap.size ≤ w7.heap.size := B7.out.size
  have HR7 : Aside0 ((kHeld w).R 38 w7 w6.heap.size (fun k => k < w7.heap.size) v0 t) := ⟨Kd.R_mono (Kd.R_bound (held_bare w (Kd.S_R S7.out) (bare kt l t FT.out))) (fun k hk => hk.2.2.1)⟩
  have hne7 : ∀ k, v0.ownBlock = some k → k < w7.heap.size := fun k hk => HR7.out.1 k hk
  have HNE7 := Aside0.mk hne7
  clear S7 hne7 q0 q1 q2 q3 q4 q5 q6 q7 q8
  go_upto_region 7 with ((with_reducible refine gate_builtin (b := .append) (xs := #[.tmp 39, .tmp 40]) rfl ?_); at_builtin; refine wpList_copy (by rfl) (.tmp 39) (.tmp 40) (by rfl) w.heap.size w7.heap.size w w6.heap.size (fun k => k < w7.heap.size) v0 t (by rfl) (by rfl) (own_empty3 (blk_new w7 _) HB7) (Kd.R_alloc HR7.out _) (by omega) (by simp; omega) ?_; intro g cap w8 hAll hgr hgo hlt; have HALL := Aside0.mk hAll; have HGR := Aside0.mk hgr; have HGO := Aside0.mk hgo; have HLT := Aside0.mk hlt; clear hAll hgr hgo hlt)
  have B8 := Aside0.mk (Below.grown (B7.out.alloc HB7 (.cells #[] 38)) HGR.out (by simp; omega) (by intro k hk; cases hk; exact HB7))
  have ONE8 : Aside0 ((kHeld w).R 38 w8 w.heap.size (fun _ => True) v0 t) := ⟨Kd.R_lower (Kd.R_mono (Kd.R_grown (Kd.R_alloc HR7.out (.cells #[] 38)) HGR.out (fun k hk e => by have := Option.some.inj e; omega)) (fun _ _ => trivial)) B6.out.size⟩
  have NE8 : Aside0 (some g ≠ v0.ownBlock) := ⟨fun e => by
    have h1 := HNE7.out g e.symm
    rcases HGO.out with h2 | h2
    · omega
    · simp at h2; omega⟩
  have X8 := Aside0.mk (blk_grown (blk_alloc X7.out (.cells #[] 38)) HGR.out (fun e => by have h1 := Option.some.inj e; have := blk_lt X7.out; omega))
  have HB8 := B8.out.size
  clear HR7 HNE7 HGR HGO
  go_wp2
  go_loopg [7, 44] more.length (fun kq v7 v44 w' => ∃ (j : Nat), v44 = .int .i64 (j : Int) ∧ Aside0 (j + kq = more.length) ∧ Aside0 ((kHeld w).R 38 w' w.heap.size (fun _ => True) v7 (t ++ ones (more.take j))) ∧ Aside0 ((kHeld w).R 38 w' w.heap.size (fun k => k = g) (.slice (some ⟨g, 0, none⟩) t.length cap) t) ∧ Aside0 (some g ≠ v7.ownBlock) ∧ Aside0 (w'.heap[w.heap.size]? = some (.cells (styA s0 s1 s2 s3 s4 s5 s6 s7 s8) 24 (0, 0))) ∧ Aside0 (Below w.heap.size w w') ∧ Aside0 (g < w'.heap.size) ∧ Aside0 (∀ s ∈ more.take j, Flat s))
  case atStart => exact ⟨0, rfl, ⟨by omega⟩, ⟨by simpa [ones] using ONE8.out⟩, HALL, NE8, X8, B8, HLT, ⟨by simp⟩⟩
  case round =>
    clear ONE8 HALL NE8 X8 B8 HLT HB8
    obtain ⟨j, rfl, HJ, ONE, ALL, NE, XX, BB, LT, HFL⟩ := hrel
    have HBR : w.heap.size ≤ wr.heap.size := BB.out.size
    by_cases hj : j < more.length
    · have p1 : decide ((j : Int) < (more.length : Int)) = true := decide_eq_true (by omega)
      obtain ⟨ad3, eA, hs3⟩ := Kd.at_string (Kd.C_below HR1.out BB.out) (j : Int) (by omega) (by omega)
      subst eA
      have hrs : rdOf ByteArray.empty more (j : Int) = more[j] := by simp [rdOf, List.getD, hj]
      have HTJ := Aside0.mk (List.take_succ_eq_append_getElem hj)
      have hxz := HMZ.out _ (List.getElem_mem hj)
      (try simp only [Go.IntWalk.toNatUp] at hs3)
      rw [hrs] at hs3
      generalize more[j] = x at hs3 HTJ hxz
      clear hrs
      obtain ⟨bx, ex, gx⟩ := simple_ev x (by omega)
      obtain ⟨kx, fx⟩ := ex.rounds
      have FX := Aside0.mk fx
      have GX := Aside0.mk gx
      clear ex fx gx
      by_cases hc : (x.size : Int) > 200
      · have d200 : decide ((200 : Int) < (x.size : Int)) = true := decide_eq_true (by omega)
        go_wp2
        go_ret
        exact ⟨rfl, BB.out⟩
      have d200 : decide ((200 : Int) < (x.size : Int)) = false := decide_eq_false (by omega)
      cases bx with
      | false =>
        go_wp2_with (go_at_call 14; refine (spec_TxSimple.calls kx x false _ _ FX.out).mono ?_; rintro e w9 ⟨rfl, b9⟩; have ONE9 := Aside0.mk (Kd.R_below ONE.out b9); have ALL9 := Aside0.mk (Kd.R_below ALL.out b9); have X9 := Aside0.mk (blk_below XX.out b9); have B9 := Aside0.mk (BB.out.trans (b9.mono HBR)); have LT9 : Aside0 (g < w9.heap.size) := ⟨Nat.lt_of_lt_of_le LT.out b9.size⟩; have HB9 := B9.out.size; clear b9)
        go_ret
        exact ⟨rfl, B9.out⟩
      | true =>
        have hflat : Flat x := flat_of (GX.out rfl) (by omega)
        have HFX := Aside0.mk hflat
        have hln : (t ++ ones (more.take j)).length ≤ 1000020 := by simp [ones]; omega
        have HLN := Aside0.mk hln
        have hp0 : k38.K w ⟨0, x, []⟩ [.int .i64 0, .string x, .slice none 0 0] := k38_mk w ⟨0, x, []⟩ (Nat.le_refl 0) ⟨rfl, by simp, fun h0 => absurd h0 (by simp)⟩
        have HP0 := Aside0.mk hp0
        clear hflat hln hp0
        go_wp2_with (first | (go_at_call 14; refine (spec_TxSimple.calls kx x false _ _ FX.out).mono ?_; rintro e w9 ⟨rfl, b9⟩; have ONE9 := Aside0.mk (Kd.R_below ONE.out b9); have ALL9 := Aside0.mk (Kd.R_below ALL.out b9); have X9 := Aside0.mk (blk_below XX.out b9); have B9 := Aside0.mk (BB.out.trans (b9.mono HBR)); have LT9 : Aside0 (g < w9.heap.size) := ⟨Nat.lt_of_lt_of_le LT.out b9.size⟩; have HB9 := B9.out.size; clear b9) | ((with_reducible refine gate_builtin (b := .append) (xs := #[.tmp 56, .tmp 59]) rfl ?_); at_builtin; refine Kd.R_append (d := kHeld w) (w0 := w) (W := w9) w.heap.size (by rfl) (.tmp 56) (.tmp 59) 30 38 (.agg #[.int .i64 0, .string ⟨#[]⟩, .slice none 0 0]) 48 (by rfl) Tryd.underlying30 info_step (by rfl) (by show 0 < 3; decide) (by decide) u7 (t ++ ones (more.take j)) ⟨0, x, []⟩ [.int .i64 0, .string x, .slice none 0 0] (fun _ => True) (fun _ => False) (by rfl) (by rfl) HP0.out (fun _ hk => hk.elim) (fun _ _ => trivial) ONE9.out B9.out HB9 (by have := HLN.out; omega) ?_; intro v10 w10 ho hb hg hat; have ONE10 := Aside0.mk ho; have B10 := Aside0.mk hb; have ALL10 := Aside0.mk (Kd.R_grown ALL9.out hg (fun k hk => by rw [hk]; exact NE.out)); have X10 := Aside0.mk (blk_grown X9.out hg (Kd.R_ne ONE9.out X9.out (by decide))); have LT10 : Aside0 (g < w10.heap.size) := ⟨Nat.lt_of_lt_of_le LT9.out hg.size⟩; have NE10 : Aside0 (some g ≠ v10.ownBlock) := ⟨by rcases hat with h | ⟨b, h, hle⟩ <;> rw [h] <;> first | exact NE.out | (intro e; have h1 := Option.some.inj e; have h2 := LT9.out; omega)⟩; clear ho hb hg hat))
        go_roundg (gk - 1)
        case measure => have := HJ.out; omega
        case rel =>
          refine ⟨j + 1, by go_num, ⟨by have := HJ.out; omega⟩, ⟨?_⟩, ALL10, NE10, X10, B10, LT10, ⟨fun s hs => ?_⟩⟩
          · rw [HTJ.out]
            simpa [ones] using ONE10.out
          · rw [HTJ.out] at hs
            rcases List.mem_append.1 hs with hs | hs
            · exact HFL.out s hs
            · simp at hs
              rw [hs]
              exact HFX.out
    · have hjn : j = more.length := by have := HJ.out; omega
      have p1 : decide ((j : Int) < (more.length : Int)) = false := decide_eq_false (by omega)
      have hone := ONE.out
      rw [hjn, List.take_length] at hone
      have hfl := HFL.out
      rw [hjn, List.take_length] at hfl
      have ONEX : Aside0 ((kHeld w).R 38 wr w.heap.size (fun k => some k ≠ some g) u7 (t ++ ones more)) := ⟨⟨fun k hk e => NE.out (e ▸ hk.symm), hone.2⟩⟩
      have hp1 : k38.K w ⟨1, ⟨#[]⟩, more⟩ [.int .i64 1, .string ⟨#[]⟩, .slice A1 more.length c1] := k38_mk w ⟨1, ⟨#[]⟩, more⟩ HC1.out HR1.out
      have HP1 := Aside0.mk hp1
      have HFLT := Aside0.mk hfl
      clear hone hfl hp1
      go_upto_region 15 with ((with_reducible refine gate_builtin (b := .append) (xs := #[.tmp 62, .tmp 65]) rfl ?_); at_builtin; refine Kd.R_append (d := kHeld w) (w0 := w) (W := wr) w.heap.size (by rfl) (.tmp 62) (.tmp 65) 30 38 (.agg #[.int .i64 0, .string ⟨#[]⟩, .slice none 0 0]) 48 (by rfl) Tryd.underlying30 info_step (by rfl) (by show 0 < 3; decide) (by decide) (.slice (some ⟨g, 0, none⟩) t.length cap) t ⟨1, ⟨#[]⟩, more⟩ [.int .i64 1, .string ⟨#[]⟩, .slice A1 more.length c1] (fun _ => True) (fun _ => False) (by rfl) (by rfl) HP1.out (fun _ hk => hk.elim) (fun _ _ => trivial) (Kd.R_mono ALL.out (fun _ _ => trivial)) BB.out HBR (by omega) ?_; intro v11 w11 ho hb hg hat; have ALL11 := Aside0.mk ho; have B11 := Aside0.mk hb; have ONE11 := Aside0.mk (Kd.R_grown ONEX.out hg (fun k hk => hk)); have X11 := Aside0.mk (blk_grown XX.out hg (Kd.R_ne ALL.out XX.out (by decide))); clear ho hb hg hat)
      obtain ⟨A9, c9, e9, hlc9, hC9⟩ := Kd.R_reads ALL11.out
      obtain ⟨A8, c8, e8, hlc8, hC8⟩ := Kd.R_reads ONE11.out
      subst e9
      subst e8
      have hK9 := C_of_held hC9 B11.out
      have hK8 := C_of_held hC8 B11.out
      obtain ⟨st1, st2⟩ := both t (lvBehind l l.length) l more HST.out H60.out h20' HFLT.out
      have hA : (t ++ [(⟨1, ⟨#[]⟩, more⟩ : S38)]).length ≤ 1000000 := by simp; omega
      have hO : (t ++ ones more).length ≤ 1000000 := by simp [ones]; omega
      have hso : StyleOk s0 s1 s2 s3 s4 s5 s6 s7 s8 := by
        obtain ⟨q1, q2, q3⟩ := HSTY.out
        simp only [List.mem_cons, List.not_mem_nil, or_false, forall_eq_or_imp, forall_eq] at q1
        have e7 : s7.size = 1 := by rw [q3]; rfl
        exact ⟨q2, by omega, by omega, by omega, by omega, by omega, by omega, by omega, by omega⟩
      obtain ⟨xs, hxs⟩ : ∃ xs, items l ++ more.map (fun s => (lvBehind l l.length, s)) = xs := ⟨_, rfl⟩
      rw [hxs] at st1 st2
      obtain ⟨lA, hlA⟩ : ∃ lA, t ++ [(⟨1, ⟨#[]⟩, more⟩ : S38)] = lA := ⟨_, rfl⟩
      obtain ⟨lO, hlO⟩ : ∃ lO, t ++ ones more = lO := ⟨_, rfl⟩
      rw [hlA] at hlc9 hK9 st2 hA
      rw [hlO] at hlc8 hK8 st1 hO
      obtain ⟨rr, hrr⟩ : ∃ rr : ByteArray, rr = ⟨(renderL ⟨s0, s1, s2, s3, s4, s5, s6, s7, s8, emptyB⟩ xs xs.length).toArray⟩ := ⟨_, rfl⟩
      have fA : impl_ListRender.f lA s0 s1 s2 s3 s4 s5 s6 s7 s8 = some rr := by
        unfold impl_ListRender.f
        rw [if_pos ⟨hso, hA⟩, st2, hrr]
        rfl
      have fO : impl_ListRender.f lO s0 s1 s2 s3 s4 s5 s6 s7 s8 = some rr := by
        unfold impl_ListRender.f
        rw [if_pos ⟨hso, hO⟩, st1, hrr]
        rfl
      have nA : impl_ListLength.f lA = some (xs.length : Int) := by
        unfold impl_ListLength.f
        rw [if_pos hA, st2]
        rfl
      have nO : impl_ListLength.f lO = some (xs.length : Int) := by
        unfold impl_ListLength.f
        rw [if_pos hO, st1]
        rfl
      have FA := Aside0.mk fA
      have FO := Aside0.mk fO
      have NA := Aside0.mk nA
      have NO := Aside0.mk nO
      have K9 := Aside0.mk hK9
      have K8 := Aside0.mk hK8
      have L9 := Aside0.mk hlc9
      have L8 := Aside0.mk hlc8
      rw [hlA, hlO]
      clear hrr fA fO nA nO hK9 hK8 hlc9 hlc8 hC9 hC8 ALL11 ONE11 hA hO hso st1 st2 hxs hlA hlO
      obtain ⟨q0, q1, q2, q3, q4, q5, q6, q7, q8⟩ := sty_q X11.out
      have qb : Below w11.heap.size w11 w11.drew := below_drew1 (Below.refl _ _)
      have sd : w11.drew.cell? ⟨w.heap.size, 0, none⟩ = some (.int .i64 s0) ∧ w11.drew.cell? ⟨w.heap.size, 1, none⟩ = some (.string s1) ∧ w11.drew.cell? ⟨w.heap.size, 2, none⟩ = some (.string s2) ∧ w11.drew.cell? ⟨w.heap.size, 3, none⟩ = some (.string s3) ∧ w11.drew.cell? ⟨w.heap.size, 4, none⟩ = some (.string s4) ∧ w11.drew.cell? ⟨w.heap.size, 5, none⟩ = some (.string s5) ∧ w11.drew.cell? ⟨w.heap.size, 6, none⟩ = some (.string s6) ∧ w11.drew.cell? ⟨w.heap.size, 7, none⟩ = some (.string s7) ∧ w11.drew.cell? ⟨w.heap.size, 8, none⟩ = some (.string s8) ∧ Below w11.heap.size w11 w11.drew := ⟨q0, q1, q2, q3, q4, q5, q6, q7, q8, qb⟩
      clear q0 q1 q2 q3 q4 q5 q6 q7 q8
      go_region_held3 (fun w' => w'.cell? ⟨w.heap.size, 0, none⟩ = some (.int .i64 s0) ∧ w'.cell? ⟨w.heap.size, 1, none⟩ = some (.string s1) ∧ w'.cell? ⟨w.heap.size, 2, none⟩ = some (.string s2) ∧ w'.cell? ⟨w.heap.size, 3, none⟩ = some (.string s3) ∧ w'.cell? ⟨w.heap.size, 4, none⟩ = some (.string s4) ∧ w'.cell? ⟨w.heap.size, 5, none⟩ = some (.string s5) ∧ w'.cell? ⟨w.heap.size, 6, none⟩ = some (.string s6) ∧ w'.cell? ⟨w.heap.size, 7, none⟩ = some (.string s7) ∧ w'.cell? ⟨w.heap.size, 8, none⟩ = some (.string s8) ∧ Below w11.heap.size w11 w')
        (first | exact sd | exact keep9 (by assumption) (by assumption))
        (first
          | (go_at_call 11; with_reducible refine (impl_ListRender.calls A9 c9 lA s0 s1 s2 s3 s4 s5 s6 s7 s8 rr _ ?hC L9.out FA.out).mono ?_; (case hC => exact Kd.C_below K9.out (keepB (by assumption))); rintro e w' ⟨rfl, hb'⟩)
          | (go_at_call 11; with_reducible refine (impl_ListRender.calls A8 c8 lO s0 s1 s2 s3 s4 s5 s6 s7 s8 rr _ ?hC L8.out FO.out).mono ?_; (case hC => exact Kd.C_below K8.out (keepB (by assumption))); rintro e w' ⟨rfl, hb'⟩)
          | (go_at_call 15; with_reducible refine (impl_ListLength.calls A9 c9 lA _ _ ?hC L9.out NA.out).mono ?_; (case hC => exact Kd.C_below K9.out (keepB (by assumption))); rintro e w' ⟨rfl, hb'⟩)
          | (go_at_call 15; with_reducible refine (impl_ListLength.calls A8 c8 lO _ _ ?hC L8.out NO.out).mono ?_; (case hC => exact Kd.C_below K8.out (keepB (by assumption))); rintro e w' ⟨rfl, hb'⟩)
          | (go_at_call 16; with_reducible refine (laws_lsAlive.calls true _ alive).mono ?_; rintro e w' ⟨rfl, hb'⟩))
      all_goals
        go_wp2
        go_ret
        refine ⟨by first | rfl | (simp; done), B11.out.trans (Below.mono (keepB (by assumption)) B11.out.size)⟩

def laws_FnListItems.f (l0 : List S33) (l1 : List ByteArray) (s0 : Int) (s1 s2 s3 s4 s5 s6 s7 s8 : ByteArray) : Option Bool :=
  if l0.length ≤ 1000000000000000 ∧ (∀ x ∈ l0, x.f0.size ≤ 140737488351232) ∧ l1.length ≤ 1000000000000000 ∧ (∀ x ∈ l1, x.size ≤ 140737488351232) ∧ (∀ x ∈ [s1, s2, s3, s4, s5, s6, s8], x.size ≤ 4611686018427387904) then some true else none
theorem laws_FnListItems.calls (A0 : Option Addr) (c0 : Nat) (l0 : List S33) (A1 : Option Addr) (c1 : Nat) (l1 : List ByteArray) (s0 : Int) (s1 s2 s3 s4 s5 s6 s7 s8 : ByteArray) (r : Bool) (w : World) (hr0 : Kd.C k33 w A0 l0.length l0) (hc0 : l0.length ≤ c0) (hr1 : Kd.C Kd.string w A1 l1.length l1) (hc1 : l1.length ≤ c1) (h : laws_FnListItems.f l0 l1 s0 s1 s2 s3 s4 s5 s6 s7 s8 = some r) :
    Calls Tryd.prog 4 #[.slice A0 l0.length c0, .slice A1 l1.length c1, .agg #[.int .i64 s0, .string s1, .string s2, .string s3, .string s4, .string s5, .string s6, .string s7, .string s8]] w fun e w' => e = .returned (.bool r) ∧ Below w.heap.size w w' := by
  unfold laws_FnListItems.f at h
  split at h
  case isFalse => cases h
  rename_i hz
  obtain ⟨h1, h2, h3, h4, h5⟩ := hz
  obtain rfl := Option.some.inj h
  exact fnListItems A0 c0 l0 A1 c1 l1 s0 s1 s2 s3 s4 s5 s6 s7 s8 w hr0 hc0 hr1 hc1 h1 h2 h3 h4 h5
end Go.Proofs.YtmakcmggicedfaaDoor.Hand
