/- A whole number as a decimal. -/
import Derived.Test.YtnmochachiieaaaDoorHandPk
import Derived.Test.YtnmochachiieaaaDoorHandFmt
namespace Go.Proofs.YtnmochachiieaaaDoor.Hand
open Go.RowKit Go.Proofs.YtnmochachiieaaaDoorW.PrintWords Go.Proofs.YtnmochachiieaaaDoorW.PrintLast Go.Proofs.YtnmochachiieaaaDoorW.PrintMore Go.Proofs.YtnmochachiieaaaDoor.Base
open Go.Proofs.YtnmochachiieaaaDoor.Pf
set_option linter.unusedVariables false
set_option linter.unusedSimpArgs false

/-- The digits of FormatUint by their values. -/
def valD (l : List UInt8) : List Nat := l.map fun b => b.toNat - 48
def newC (n : Nat) : Dc := trimC ⟨valD (dec n), ((dec n).length : Int)⟩
theorem dec_dig (n : Nat) : ∀ b ∈ dec n, 48 ≤ b.toNat ∧ b.toNat ≤ 57 := by
  have hp : ∀ n, ∀ b ∈ pre n, 48 ≤ b.toNat ∧ b.toNat ≤ 57 := by
    intro n
    induction n using Nat.strongRecOn with
    | ind n ih =>
      by_cases h : n = 0
      · subst h; rw [pre_zero]; intro b hb; simp at hb
      · rw [pre_pos h]
        intro b hb
        rcases List.mem_append.1 hb with hb | hb
        · exact ih (n / 10) (by omega) b hb
        · simp only [List.mem_singleton] at hb
          subst hb
          rw [UInt8.toNat_ofNat']
          omega
  unfold dec
  split
  · intro b hb
    simp only [List.mem_singleton] at hb
    subst hb
    decide
  · exact hp n
/-- The first digit of a number that is not 0. -/
theorem pre_first : ∀ n, n ≠ 0 → ∃ b r, pre n = b :: r ∧ 49 ≤ b.toNat := by
  intro n
  induction n using Nat.strongRecOn with
  | ind n ih =>
    intro hn
    rw [pre_pos hn]
    by_cases h : n / 10 = 0
    · rw [h, pre_zero]
      refine ⟨_, [], rfl, ?_⟩
      rw [UInt8.toNat_ofNat']
      omega
    · obtain ⟨b, r, e, hb⟩ := ih (n / 10) (by omega) h
      exact ⟨b, r ++ [UInt8.ofNat (48 + n % 10)], by rw [e]; rfl, hb⟩
theorem newC_norm {n : Nat} (hn : n ≠ 0) (h64 : n < 18446744073709551616) : Norm (newC n) ∧ (newC n).d.length ≤ 20 ∧ 0 ≤ (newC n).dp ∧ (newC n).dp ≤ 20 := by
  have hl := dec_len h64
  obtain ⟨b, r, e, hb⟩ := pre_first n hn
  have ed : dec n = b :: r := by unfold dec; rw [if_neg hn]; exact e
  have h1 : Norm ⟨valD (dec n), ((dec n).length : Int)⟩ := by
    refine ⟨fun x hx => ?_, b.toNat - 48, valD r, by rw [ed]; rfl, by omega⟩
    simp only [valD, List.mem_map] at hx
    obtain ⟨c, hc, rfl⟩ := hx
    have := dec_dig n c hc
    omega
  obtain ⟨m1, m2, m3, m4⟩ := h1.trim
  refine ⟨m1, ?_, ?_, ?_⟩
  · simp only [valD, List.length_map] at m4
    exact Nat.le_trans m4 hl
  · show 0 ≤ (trimC _).dp
    rw [m2]; simp
  · show (trimC _).dp ≤ 20
    rw [m2]; simp only; omega
theorem newC_zero : newC 0 = ⟨[], 0⟩ := rfl
theorem Kp.below2 {w0 W W' : World} {B D : Nat} (h : Kp w0 B D W) (hb : Below w0.heap.size W W') (hB : B ≤ w0.heap.size) : Kp w0 B D W' :=
  ⟨h.1.trans (hb.mono hB), fun k hk hD => (hb.block k hk).trans (h.2 k hk hD)⟩
theorem R_form' {W : World} {b : Nat} {ok : Nat → Prop} {v : Value} {xs : List Int} (h : (Kd.int .u8).R 5 W b ok v xs) : ∃ A n c, v = .slice A n c ∧ Aside0 (n = xs.length) := by
  obtain ⟨A, c, hv, _⟩ := Kd.R_reads h
  exact ⟨A, _, c, hv, ⟨rfl⟩⟩
theorem valD_take {l : List UInt8} {i : Nat} {b : UInt8} (h : l[i]? = some b) : valD (l.take (i + 1)) = valD (l.take i) ++ [b.toNat - 48] := by
  obtain ⟨h1, h2⟩ := List.getElem?_eq_some_iff.1 h
  rw [List.take_succ_eq_append_getElem h1, h2]
  simp [valD]
set_option maxHeartbeats 4000000 in
set_option maxRecDepth 100000 in
theorem newDecimal_ (w : World) (n : Nat) (hn : n < 18446744073709551616) :
    Calls Tryd.prog 39 #[.int .u64 (n : Int)] w fun r w' => ∃ D, r = .returned (.pointer (some ⟨D, 0, none⟩)) ∧ DecN w w.heap.size w' D (newC n) := by
  have HDL := Aside0.mk (dec_len hn)
  have HDG := Aside0.mk (dec_dig n)
  have HX0 := Aside0.mk (blk_new w (.cells #[.slice none 0 0, .int .i64 0] 75 (0, 0)))
  have HB0 := Aside0.mk (below_alloc (Below.refl w.heap.size w) (.cells #[.slice none 0 0, .int .i64 0] 75 (0, 0)))
  have kb := fun (W : World) (s : ByteArray) => print_bytes (P := Tryd.prog) 9 39 5 Tryd.underlying9 Tryd.underlying39 Tryd.underlying5 s W
  go_enter Tryd.func39, Tryd.ntmps39
  go_upto_region 2 with (fail)
  obtain ⟨D, hD⟩ : ∃ D, D = w.heap.size := ⟨_, rfl⟩
  have hDw := Aside0.mk hD
  rw [← hD] at HX0 ⊢
  clear hD
  have HDW := Aside0.mk (blk_lt HX0.out)
  generalize w.alloc _ = w1 at HX0 HB0 HDW ⊢
  obtain ⟨str, hstr⟩ : ∃ str : ByteArray, str = ⟨(dec n).toArray⟩ := ⟨_, rfl⟩
  have hsz : str.size = (dec n).length := by rw [hstr]; rfl
  have hlist : str.data.toList = dec n := by rw [hstr]
  have HSTR := Aside0.mk hstr
  have HSZ := Aside0.mk hsz
  have HLI := Aside0.mk hlist
  clear hstr hsz hlist
  go_upto_block 0 with ((go_at_call 50; go_loud (refine (fmt_calls n w1 hn).mono ?_; rintro e w2 ⟨rfl, hb2⟩; have B2 := Aside0.mk hb2; clear hb2; rw [← HSTR.out])))
  have hss := HDL.out
  rw [← HSZ.out] at hss
  obtain ⟨G, hG⟩ : ∃ G, G = w2.heap.size := ⟨_, rfl⟩
  have HBY := Aside0.mk (bytes_reads w2 5 str (by omega))
  have BB := Aside0.mk (bytes_below B2.out B2.out.size 5 str)
  have GL : Aside0 (G < (Lib.bytesWorld w2 5 str).heap.size) := ⟨by rw [Lib.bytesWorld_size, hG]; omega⟩
  have GD := Aside0.mk (show G ≠ D by have := HDW.out; have := B2.out.size; omega)
  rw [← hG] at HBY ⊢
  generalize grownCap w2 str.size 0 5 = cB at ⊢
  have BW : Aside0 (Below w.heap.size w (Lib.bytesWorld w2 5 str)) := ⟨HB0.out.trans (BB.out.mono HB0.out.size)⟩
  have XB := Aside0.mk (blk_below HX0.out BB.out)
  have HDB : Aside0 (D < (Lib.bytesWorld w2 5 str).heap.size) := ⟨blk_lt XB.out⟩
  clear hG kb B2
  generalize Lib.bytesWorld w2 5 str = wB at HBY BB GL BW XB HDB ⊢
  clear BB HX0 HB0
  go_wp2
  go_loopg [10] str.size (fun kq v10 w' => ∃ (i : Nat) (v : Value), v10 = .int .i64 (i : Int) ∧ Aside0 (i + kq = str.size) ∧ Aside0 (w'.heap[D]? = some (.cells #[v, .int .i64 0] 75 (0, 0))) ∧ Aside0 ((Kd.int .u8).R 5 w' wB.heap.size (fun _ => True) v (ci (valD ((dec n).take i)))) ∧ Aside0 (Kp wB w.heap.size D w'))
  case atStart => exact ⟨0, _, rfl, ⟨by omega⟩, XB, ⟨Kd.R_nil _ _ _ _ _⟩, ⟨Kp.refl _ _ _⟩⟩
  case round =>
    clear XB
    obtain ⟨i, v, rfl, HI, HX, HR, HK⟩ := hrel
    obtain ⟨A, cp, rfl, hcp, _⟩ := Kd.R_reads HR.out
    have c0 : wr.cell? ⟨D, 0, none⟩ = some (.slice A (ci (valD ((dec n).take i))).length cp) := by rw [blk_cell HX.out]; rfl
    have c1 : wr.cell? ⟨D, 1, none⟩ = some (.int .i64 0) := by rw [blk_cell HX.out]; rfl
    have f0 : wr.frozen? ⟨D, 0, none⟩ = false := blk_frozen HX.out 0
    have f1 : wr.frozen? ⟨D, 1, none⟩ = false := blk_frozen HX.out 1
    obtain ⟨ln, hln⟩ : ∃ ln, ln = (ci (valD ((dec n).take i))).length := ⟨_, rfl⟩
    rw [← hln] at c0 HX HR hcp
    have HLN := Aside0.mk hln
    have hlnv : ln ≤ 20 := by rw [hln, ci_len]; simp only [valD, List.length_map, List.length_take]; have := HDL.out; omega
    clear hln
    by_cases hi : i < str.size
    · obtain ⟨b, hb⟩ : ∃ b, (dec n)[i]? = some b := ⟨_, List.getElem?_eq_getElem (by rw [← HSZ.out]; exact hi)⟩
      have hbd := HDG.out b (List.mem_of_getElem? hb)
      have hcb : wr.cell? ⟨G, i, none⟩ = some (.int .u8 (b.toNat : Int)) := by
        obtain ⟨_, ad, e1, e2⟩ : str.size = (bytesOf str).length ∧ ∃ ad, some (⟨G, 0, none⟩ : Addr) = some ad ∧ ∀ j, j < str.size → wB.cell? (ad.add j) = some (.int .u8 ((bytesOf str).getD j 0)) := by
          obtain ⟨h1, h2, h3⟩ := HBY.out
          obtain ⟨ad, e1, e2⟩ := h3 (by omega)
          exact ⟨h1.symm, ad, e1, e2⟩
        injection e1 with e1
        subst e1
        have h1 := e2 i hi
        rw [add_plain] at h1
        have h2 : wr.heap[G]? = wB.heap[G]? := HK.out.2 G GL.out GD.out
        have h3 : wr.cell? ⟨G, i, none⟩ = wB.cell? ⟨G, i, none⟩ := by simp [World.cell?, h2]
        rw [h3, h1]
        have h4 : str.data.toList[i]? = some b := by rw [HLI.out]; exact hb
        simp [bytesOf, List.getD, h4]
      have p1 : decide ((i : Int) < (str.size : Int)) = true := decide_eq_true (by omega)
      have p2 : decide (i < str.size) = true := decide_eq_true hi
      have b1 : (0 : Int) ≤ (i : Int) := by omega
      have b2 : (i : Int) < (str.size : Int) := by omega
      have e3 : IntKind.i64.wrap ((i : Int) + 1) = ((i + 1 : Nat) : Int) := by rw [Go.IntWalk.i64_in _ (by omega)]; omega
      obtain ⟨x, hx⟩ : ∃ x, x = b.toNat - 48 := ⟨_, rfl⟩
      have e4 : IntKind.u8.wrap ((b.toNat : Int) - 48) = (x : Int) := by
        show ((b.toNat : Int) - 48) % 256 = _
        omega
      have HXX := Aside0.mk hx
      have HBI := Aside0.mk hb
      have HII := Aside0.mk hi
      clear hx hb hi
      go_upto_region 6 with ((with_reducible refine gate_builtin (b := .append) (xs := #[.tmp 15, .tmp 18]) rfl ?_); go_loud (at_builtin; refine Kd.R_append (Kd.int .u8) (w0 := wr) wB.heap.size rfl (.tmp 15) (.tmp 18) 39 5 (.int .u8 0) 1 rfl Tryd.underlying39 info5 rfl (by decide) (by omega) (.slice A ln cp) (ci (valD ((dec n).take i))) (x : Int) [.int .u8 (x : Int)] (fun _ => True) (fun _ => False) rfl rfl ?aP (fun _ hk => hk.elim) (fun _ _ => trivial) HR.out (Below.refl _ _) HK.out.size ?aL ?_; (case aP => exact rfl); (case aL => rw [← HLN.out]; omega); intro v1 w5 ho hb hg hat; obtain ⟨A1, n1, cp1, rfl, HN1⟩ := R_form' ho; have HR1 := Aside0.mk ho; have HB1 := Aside0.mk hb; have HX1 : w5.heap[D]? = _ := (hb.block D HDB.out).trans HX.out; have k0 : w5.cell? ⟨D, 0, none⟩ = some (.slice A ln cp) := (by rw [blk_cell HX1]; rfl); have k1 : w5.frozen? ⟨D, 0, none⟩ = false := blk_frozen HX1 0; have HX2 := Aside0.mk HX1; clear ho hb hg hat HX1))
      go_wp2
      go_roundg (gk - 1)
      case measure => have := HI.out; have := HII.out; omega
      case rel =>
        refine ⟨i + 1, .slice A1 n1 cp1, by go_num, ⟨by have := HI.out; have := HII.out; omega⟩, ⟨blk_put HX2.out 0 _ rfl⟩, ⟨?_⟩, ⟨(HK.out.below2 HB1.out BW.out.size).setD (by have := hDw.out; omega) 0 _⟩⟩
        have h1 := R_off HR1.out HDB.out 0 (.slice A1 n1 cp1)
        rw [valD_take HBI.out, ← HXX.out, ci_append]
        exact h1
    · have p1 : decide ((i : Int) < (str.size : Int)) = false := decide_eq_false (by omega)
      have p2 : decide (i < str.size) = false := decide_eq_false hi
      have htk : (dec n).take i = dec n := List.take_of_length_le (by rw [← HSZ.out]; omega)
      have HLD : Aside0 (ln = (dec n).length) := ⟨by rw [HLN.out, htk, ci_len]; simp [valD]⟩
      have HRD : Aside0 ((Kd.int .u8).R 5 wr wB.heap.size (fun _ => True) (.slice A ln cp) (ci (valD (dec n)))) := ⟨by have := HR.out; rw [htk] at this; exact this⟩
      have D9 : Aside0 (DecN w w.heap.size (wr.setCell ⟨D, 1, none⟩ (.int .i64 (ln : Int))) D ⟨valD (dec n), ((dec n).length : Int)⟩) := ⟨.slice A ln cp, by rw [← HLD.out]; exact blk_put HX.out 1 _ rfl,
        Kd.R_far (p := ⟨D, 1, none⟩) (R_fit HRD.out BW.out.size HDB.out) (fun _ hk => hk) _,
        ⟨(BW.out.trans HK.out.1).setCell (p := ⟨D, 1, none⟩) (by have := hDw.out; show w.heap.size ≤ D; omega) _, fun k hk hD => (Below.heap_setCell wr ⟨D, 1, none⟩ _ k hD).trans ((BW.out.trans HK.out.1).block k hk)⟩,
        by have := hDw.out; omega, by have := BW.out.size; have := HK.out.size; simp; omega⟩
      clear hi htk HR
      go_wp2_with ((go_at_call 38; go_loud (refine (trim_ w _ w.heap.size D ⟨valD (dec n), ((dec n).length : Int)⟩ D9.out ?hL).mono ?_; (case hL => have := HDL.out; simp [valD]; omega); rintro e w4 ⟨rfl, hd4⟩; have D4 := Aside0.mk hd4; clear hd4)))
      go_ret
      exact ⟨D, rfl, D4.out⟩
end Go.Proofs.YtnmochachiieaaaDoor.Hand
