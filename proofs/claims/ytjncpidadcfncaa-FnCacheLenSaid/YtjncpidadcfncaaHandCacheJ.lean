/- The law on a cache's length: its script. -/
import Derived.Test.YtjncpidadcfncaaHandCacheI
namespace Go.Proofs.Ytjncpidadcfncaa.Hand
open Go.RowKit Go.Proofs.YtjncpidadcfncaaW.PrintWords Go.Proofs.Ytjncpidadcfncaa.Base
open Go.Maps (Keyed)
open Go.Proofs.Ytjncpidadcfncaa.PFnCacheLen
set_option linter.unusedVariables false
set_option linter.unusedSimpArgs false

theorem few_ev (l : List S25) : ∃ r, Ev (fun k => laws_cacheFew.f k l) r := by
  by_cases h : (l.length : Int) > 2000
  · exact ⟨false, Ev.congr (f := fun _ => some false) (fun k => by unfold laws_cacheFew.f; rw [if_pos h]) (Ev.now _)⟩
  · have go : ∀ (d i : Nat), l.length - i ≤ d → i ≤ l.length → ∃ r, Ev (fun k => laws_cacheFew.l0 k l (i : Int)) r := by
      intro d
      induction d with
      | zero =>
        intro i h1 h2
        exact ⟨true, Ev.step (f := fun _ => some true) (fun k => by simp only [laws_cacheFew.l0]; rw [if_neg (by omega)]) (Ev.now _)⟩
      | succ d ih =>
        intro i h1 h2
        by_cases hi : i < l.length
        · by_cases h3 : (rd_T25 l (i : Int)).f0 < 0
          · exact ⟨false, Ev.step (f := fun _ => some false) (fun k => by simp only [laws_cacheFew.l0]; rw [if_pos (by omega), if_pos (by omega), if_pos h3]) (Ev.now _)⟩
          · by_cases h4 : (rd_T25 l (i : Int)).f0 > 8
            · exact ⟨false, Ev.step (f := fun _ => some false) (fun k => by simp only [laws_cacheFew.l0]; rw [if_pos (by omega), if_pos (by omega), if_neg h3, if_pos h4]) (Ev.now _)⟩
            · obtain ⟨r, hr⟩ := ih (i + 1) (by omega) (by omega)
              refine ⟨r, Ev.step (f := fun k => laws_cacheFew.l0 k l ((i + 1 : Nat) : Int)) (fun k => ?_) hr⟩
              simp only [laws_cacheFew.l0]
              rw [if_pos (by omega), if_pos (by omega), if_neg h3, if_neg h4, wrap64_id (by omega) (by omega)]
              rfl
        · exact ⟨true, Ev.step (f := fun _ => some true) (fun k => by simp only [laws_cacheFew.l0]; rw [if_neg (by omega)]) (Ev.now _)⟩
    obtain ⟨r, hr⟩ := go l.length 0 (by omega) (by omega)
    exact ⟨r, Ev.congr (f := fun k => laws_cacheFew.l0 k l 0) (fun k => by unfold laws_cacheFew.f; rw [if_neg h]) hr⟩

/-- The script: each call, then Len, then Cap. -/
def allOf : List S25 → List S25
  | [] => []
  | x :: r => x :: ⟨6, 0, 0⟩ :: ⟨7, 0, 0⟩ :: allOf r
theorem allOf_len : ∀ l : List S25, (allOf l).length = 3 * l.length
  | [] => rfl
  | x :: r => by simp [allOf, allOf_len r]; omega
theorem allOf_snoc : ∀ (l : List S25) (x : S25), allOf (l ++ [x]) = allOf l ++ [x, ⟨6, 0, 0⟩, ⟨7, 0, 0⟩]
  | [], x => rfl
  | y :: r, x => by simp [allOf, allOf_snoc r x]
theorem allOf_wf : ∀ {l : List S25}, (∀ x ∈ l, (Lit.int .i64 x.f1).wf = true) → ∀ x ∈ allOf l, (Lit.int .i64 x.f1).wf = true
  | [], _, x, hx => by simp [allOf] at hx
  | y :: r, h, x, hx => by
    simp only [allOf, List.mem_cons] at hx
    rcases hx with rfl | rfl | rfl | hx
    · exact h _ (by simp)
    · rfl
    · rfl
    · exact allOf_wf (fun z hz => h z (by simp [hz])) x hx
/-- What each call and the two behind it gave. -/
def Good (n : Nat) : Nat → List Int → List Out3 → Prop
  | _, [], outs => outs = []
  | l, d :: ds, outs => ∃ o1 o2 o3 rest l1, outs = o1 :: o2 :: o3 :: rest ∧ St n d l o1 l1 ∧ o2.2.1 = (l1 : Int) ∧ o3.2.1 = (n : Int) ∧ Good n l1 ds rest
theorem good_of : ∀ {n : Nat} {ops : List S25} {l : Nat} {outs : List Out3} {l' : Nat}, RunTo n l ((allOf ops).map (·.f0)) outs l' → Good n l (ops.map (·.f0)) outs
  | n, [], l, outs, l', h => by obtain ⟨rfl, rfl⟩ := h; rfl
  | n, x :: r, l, outs, l', h => by
    obtain ⟨o1, r1, l1, rfl, s1, o2, r2, l2, rfl, s2, o3, r3, l3, rfl, s3, h⟩ := h
    have h2 := s2.2.2.1 rfl
    have h3 := s3.2.2.2 rfl
    obtain ⟨e2, rfl⟩ := h2
    obtain ⟨e3, rfl⟩ := h3
    exact ⟨o1, o2, o3, r3, l3, rfl, s1, e2, e3, good_of h⟩

theorem at_out {w : World} {A : Option Addr} {n : Nat} {xs : List Out3} (h : Kd.C kOut w A n xs) (i : Nat) (h1 : i < n) (x : Out3) (hx : xs[i]? = some x) : ∃ ad A' c', A = some ad ∧ w.cell? (ad.add (i * 6)) = some (.bool x.1) ∧ w.cell? ⟨(ad.add (i * 6)).block, (ad.add (i * 6)).off + 2, none⟩ = some (.int .i64 x.2.1) ∧ w.cell? ⟨(ad.add (i * 6)).block, (ad.add (i * 6)).off + 5, none⟩ = some (.slice A' x.2.2 c') := by
  obtain ⟨ad, c, e, _, hK, hc0⟩ := Kd.C_get h (false, 0, 0) (i : Int) (by omega) (by omega)
  have hg : xs.getD (i : Int).toNat (false, 0, 0) = x := by simp [List.getD, hx]
  rw [hg] at hK
  obtain ⟨key, rate, asked, A', c', rfl⟩ := hK
  rw [Int.toNat_natCast] at hc0
  exact ⟨ad, A', c', e, hc0 0 _ rfl, by rw [← add_field _ _ 2 (by omega)]; exact hc0 2 _ rfl, by rw [← add_field _ _ 5 (by omega)]; exact hc0 5 _ rfl⟩

theorem info25 : (Try.prog.info? 25).map (fun i => (i.zero, i.size, i.bytes)) = some (some (.agg #[.int .i64 0, .int .i64 0, .int .i64 0]), 3, 24) := by kernel_rfl

theorem row3 (w : World) (x0 x1 x2 : Int) : ReadsRow (fun (y : S25) cs => cs = [.int .i64 y.f0, .int .i64 y.f1, .int .i64 y.f2]) 3 (w.alloc (.cells #[.int .i64 x0, .int .i64 x1, .int .i64 x2, .int .i64 6, .int .i64 0, .int .i64 0, .int .i64 7, .int .i64 0, .int .i64 0] 25)) (some ⟨w.heap.size, 0, none⟩) 3 [⟨x0, x1, x2⟩, ⟨6, 0, 0⟩, ⟨7, 0, 0⟩] := by
  have hb := blk_new w (.cells #[.int .i64 x0, .int .i64 x1, .int .i64 x2, .int .i64 6, .int .i64 0, .int .i64 0, .int .i64 7, .int .i64 0, .int .i64 0] 25)
  refine ⟨rfl, by omega, fun _ => ⟨_, rfl, fun j p hj => ?_⟩⟩
  have key : ∀ (j i : Nat), (w.alloc (.cells #[.int .i64 x0, .int .i64 x1, .int .i64 x2, .int .i64 6, .int .i64 0, .int .i64 0, .int .i64 7, .int .i64 0, .int .i64 0] 25)).cell? ((⟨w.heap.size, 0, none⟩ : Addr).add (j * 3 + i)) = (#[.int .i64 x0, .int .i64 x1, .int .i64 x2, .int .i64 6, .int .i64 0, .int .i64 0, .int .i64 7, .int .i64 0, .int .i64 0] : Array Value)[j * 3 + i]? := fun j i => by
    have h := blk_cell hb (j * 3 + i)
    rw [← h]
    by_cases hz : j * 3 + i = 0
    · rw [hz]; rfl
    · unfold Addr.add
      rw [if_neg (by simpa using hz)]
      simp
  match j, hj with
  | 0, hj =>
    obtain rfl := Option.some.inj hj
    refine ⟨_, rfl, rfl, fun i u hu => ?_⟩
    match i, hu with
    | 0, hu => exact (key 0 0).trans hu
    | 1, hu => exact (key 0 1).trans hu
    | 2, hu => exact (key 0 2).trans hu
    | i + 3, hu => simp at hu
  | 1, hj =>
    obtain rfl := Option.some.inj hj
    refine ⟨_, rfl, rfl, fun i u hu => ?_⟩
    match i, hu with
    | 0, hu => exact (key 1 0).trans hu
    | 1, hu => exact (key 1 1).trans hu
    | 2, hu => exact (key 1 2).trans hu
    | i + 3, hu => simp at hu
  | 2, hj =>
    obtain rfl := Option.some.inj hj
    refine ⟨_, rfl, rfl, fun i u hu => ?_⟩
    match i, hu with
    | 0, hu => exact (key 2 0).trans hu
    | 1, hu => exact (key 2 1).trans hu
    | 2, hu => exact (key 2 2).trans hu
    | i + 3, hu => simp at hu
  | j + 3, hj => simp at hj

set_option maxHeartbeats 8000000 in
set_option maxRecDepth 100000 in
theorem law_ (a0 : Int) (A1 : Option Addr) (c1 : Nat) (l1 : List S25) (w : World) (hr1 : Kd.C k25 w A1 l1.length l1) (hc1 : l1.length ≤ c1) (ha0 : 0 ≤ a0 ∧ a0 ≤ 255) (hwf : ∀ x ∈ l1, (Lit.int .i64 x.f1).wf = true) :
    Calls Try.prog 3 #[.int .u8 a0, .slice A1 l1.length c1] w fun e w' => e = .returned (.bool true) ∧ Below w.heap.size w w' := by
  have HR := Aside0.mk hr1
  have HWF := Aside0.mk hwf
  have HC1 := Aside0.mk hc1
  clear hr1 hwf hc1
  by_cases hbig : (2147483647 : Int) < (l1.length : Int)
  · have p1 : decide ((2147483647 : Int) < (l1.length : Int)) = true := decide_eq_true hbig
    go_enter Try.func3, Try.ntmps3
    go_wp2
    go_ret
    exact ⟨rfl, Below.refl _ _⟩
  · have p1 : decide ((2147483647 : Int) < (l1.length : Int)) = false := decide_eq_false hbig
    obtain ⟨b, hb⟩ := few_ev l1
    obtain ⟨k, hk⟩ := hb.rounds
    have HK := Aside0.mk hk
    clear hb hk
    obtain ⟨n, hn⟩ : ∃ n : Nat, 1 + a0 % 40 = (n : Int) := ⟨(1 + a0 % 40).toNat, by omega⟩
    have hn1 : 1 ≤ n ∧ n ≤ 40 := by omega
    cases b with
    | false =>
      go_enter Try.func3, Try.ntmps3
      go_wp2_with (go_at_call 4; refine (laws_cacheFew.calls k A1 c1 l1 false w HR.out HC1.out HK.out).mono ?_; rintro e w1 ⟨rfl, ⟨nd, rfl⟩⟩)
      go_ret
      exact ⟨rfl, pw_below_drewN (Below.refl _ _) nd⟩
    | true =>
      by_cases h300 : (300 : Int) < (l1.length : Int)
      · have p2 : decide ((300 : Int) < (l1.length : Int)) = true := decide_eq_true h300
        go_enter Try.func3, Try.ntmps3
        go_wp2_with (go_at_call 4; refine (laws_cacheFew.calls k A1 c1 l1 true w HR.out HC1.out HK.out).mono ?_; rintro e w1 ⟨rfl, ⟨nd, rfl⟩⟩)
        go_ret
        exact ⟨rfl, pw_below_drewN (Below.refl _ _) nd⟩
      · have p2 : decide ((300 : Int) < (l1.length : Int)) = false := decide_eq_false h300
        have hln : l1.length ≤ 300 := by omega
        go_enter Try.func3, Try.ntmps3
        go_upto_region 6 with (go_at_call 4; refine (laws_cacheFew.calls k A1 c1 l1 true w HR.out HC1.out HK.out).mono ?_; rintro e w1 ⟨rfl, ⟨nd, rfl⟩⟩)
        have B1 := Aside0.mk (pw_below_drewN (Below.refl w.heap.size w) nd)
        change Code.wp _ _ _ _ (w.drewN nd)
        generalize w.drewN nd = w1 at B1 ⊢
        go_wp2
        go_loopg [6, 7] l1.length (fun kq v6 v7 w' => ∃ i : Nat, v7 = .int .i64 (i : Int) ∧ Aside0 (i + kq = l1.length) ∧ Aside0 (k25.R 25 w' w.heap.size (fun _ => True) v6 (allOf (l1.take i))) ∧ Aside0 (Below w.heap.size w w'))
        case atStart => exact ⟨0, rfl, ⟨by omega⟩, ⟨Kd.R_nil _ _ _ _ _⟩, B1⟩
        case round =>
          clear B1
          obtain ⟨i, rfl, HI, HO, HB⟩ := hrel
          by_cases hi : i < l1.length
          · obtain ⟨ad, e, hx0, hx1, hx2⟩ := at_T25 (Kd.C_below HR.out HB.out) (i : Int) (by omega) (by omega)
            cases e
            obtain ⟨x, hx⟩ : ∃ x, rd_T25 l1 (i : Int) = x := ⟨_, rfl⟩
            have hxl : l1[i] = x := by rw [← hx]; simp [rd_T25, List.getD, hi]
            have HT : Aside0 (allOf (l1.take (i + 1)) = allOf (l1.take i) ++ [⟨x.f0, x.f1, x.f2⟩, ⟨6, 0, 0⟩, ⟨7, 0, 0⟩]) := ⟨by rw [List.take_succ_eq_append_getElem hi, hxl, allOf_snoc]⟩
            rw [hx, Int.toNat_natCast] at hx0 hx1 hx2
            obtain ⟨y0, hy0⟩ : ∃ y, x.f0 = y := ⟨_, rfl⟩
            obtain ⟨y1, hy1⟩ : ∃ y, x.f1 = y := ⟨_, rfl⟩
            obtain ⟨y2, hy2⟩ : ∃ y, x.f2 = y := ⟨_, rfl⟩
            rw [hy0] at hx0 HT
            rw [hy1] at hx1 HT
            rw [hy2] at hx2 HT
            have p3 : decide ((i : Int) < (l1.length : Int)) = true := decide_eq_true (by omega)
            have hlen : (allOf (l1.take i)).length = 3 * i := by rw [allOf_len, List.length_take]; omega
            have HLN : Aside0 (((allOf (l1.take i)).length + 3) * 24 ≤ 140737488355328) := ⟨by omega⟩
            have hbr := HB.out.size
            have HBA := Aside0.mk (below_alloc HB.out (.cells #[.int .i64 y0, .int .i64 y1, .int .i64 y2, .int .i64 6, .int .i64 0, .int .i64 0, .int .i64 7, .int .i64 0, .int .i64 0] 25))
            have HOA := Aside0.mk (Kd.R_below HO.out (below_alloc (Below.refl wr.heap.size wr) (.cells #[.int .i64 y0, .int .i64 y1, .int .i64 y2, .int .i64 6, .int .i64 0, .int .i64 0, .int .i64 7, .int .i64 0, .int .i64 0] 25)))
            have R3 := Aside0.mk (row3 wr y0 y1 y2)
            clear hx hxl hy0 hy1 hy2 hlen HO
            go_wp2_with ((with_reducible refine gate_builtin (b := .append) (xs := #[.tmp 35, .tmp 42]) rfl ?_); at_builtin; refine Kd.R_append_rows k25 (w0 := w) w.heap.size (by rfl) (.tmp 35) (.tmp 42) 22 25 (.agg #[.int .i64 0, .int .i64 0, .int .i64 0]) 24 (by rfl) Try.underlying22 info25 (by rfl) (by decide) (by decide) u6 (allOf (l1.take i)) [⟨y0, y1, y2⟩, ⟨6, 0, 0⟩, ⟨7, 0, 0⟩] (some ⟨wr.heap.size, 0, none⟩) 3 3 (fun _ => True) (fun _ => False) (by rfl) (by rfl) HOA.out R3.out (fun y cs h => by subst h; exact k25_mkM _ _ _ y) (fun _ hk => hk.elim) (fun _ _ => trivial) HBA.out (by have := HBA.out.size; omega) HLN.out ?_; intro v2 w7 ho hb hgr hat; have R8 := Aside0.mk ho; have B8 := Aside0.mk hb; clear ho hb hgr hat)
            go_roundg (gk - 1)
            case measure => have := HI.out; omega
            case rel => exact ⟨i + 1, by go_num, ⟨by have := HI.out; omega⟩, ⟨by rw [HT.out]; exact R8.out⟩, B8⟩
          · have hin : i = l1.length := by have := HI.out; omega
            have p3 : decide ((i : Int) < (l1.length : Int)) = false := decide_eq_false (by omega)
            have HO2 := HO.out
            rw [hin, List.take_length] at HO2
            obtain ⟨A6, c6, rfl, hl6, hC6⟩ := Kd.R_reads HO2
            have C6 := Aside0.mk hC6
            have HLA := Aside0.mk (allOf_len l1)
            have HWA := Aside0.mk (allOf_wf HWF.out)
            clear HO HO2 hC6 hl6
            go_upto_region 12 with (go_at_call 5; refine (cacheRun wr n A6 c6 (allOf l1) C6.out hn1.1 (by omega) (by have := HLA.out; omega) HWA.out).mono ?_; rintro e w2 ⟨v8, outs, l', rfl, ho, ht, hb⟩; have R2 := Aside0.mk ho; have T2 := Aside0.mk (good_of ht); have TL := Aside0.mk (RunTo.length ht); have B2 := Aside0.mk (HB.out.trans (hb.mono HB.out.size)); clear ho ht hb)
            obtain ⟨A8, c8, rfl, hl8, hC8⟩ := Kd.R_reads R2.out
            have hTL : outs.length = (allOf l1).length := by rw [TL.out, List.length_map]
            rw [hTL] at hC8
            rw [hTL]
            have C8 := Aside0.mk hC8
            obtain ⟨N, hN⟩ : ∃ N, (allOf l1).length = N := ⟨_, rfl⟩
            rw [hN] at C8 HLA
            rw [hN]
            have HN3 := HLA.out
            have HNO : Aside0 (outs.length = N) := ⟨hTL.trans hN⟩
            clear hC8 hTL hl8 hN R2 C6 HLA HWA HB TL
            go_wp2
            go_loopg [10, 11] l1.length (fun kq v10 v11 w' => ∃ i l : Nat, v11 = .int .i64 (i : Int) ∧ v10 = .int .i64 (l : Int) ∧ Aside0 (i + kq = l1.length) ∧ Aside0 (Good n l ((l1.map (·.f0)).drop i) (outs.drop (3 * i))) ∧ Aside0 (l ≤ n) ∧ w2 = w')
            case atStart => exact ⟨0, 0, rfl, rfl, ⟨by omega⟩, T2, ⟨by omega⟩, rfl⟩
            case round =>
              clear T2 HI
              obtain ⟨i, l, rfl, rfl, HI, HG, HL, rfl⟩ := hrel
              by_cases hi : i < l1.length
              · have p3 : decide ((i : Int) < (l1.length : Int)) = true := decide_eq_true (by omega)
                obtain ⟨x, hx⟩ : ∃ x, l1[i]? = some x := ⟨l1[i], List.getElem?_eq_getElem hi⟩
                have hdrop : (l1.map (·.f0)).drop i = x.f0 :: (l1.map (·.f0)).drop (i + 1) := by
                  rw [List.drop_eq_getElem_cons (by simpa using hi)]
                  congr 1
                  rw [List.getElem_map]
                  rw [List.getElem?_eq_getElem hi] at hx
                  rw [Option.some.inj hx]
                have hG := HG.out
                rw [hdrop] at hG
                obtain ⟨o1, o2, o3, rest, lw, hout, hS, h2v, h3v, hG2⟩ := hG
                have hget : ∀ k o, (o1 :: o2 :: o3 :: rest)[k]? = some o → outs[3 * i + k]? = some o := fun k o h => by rw [← hout, List.getElem?_drop] at h; exact h
                have HG2 : Aside0 (Good n lw ((l1.map (·.f0)).drop (i + 1)) (outs.drop (3 * (i + 1)))) := ⟨by
                  have e : outs.drop (3 * (i + 1)) = rest := by
                    rw [show 3 * (i + 1) = 3 * i + 3 by omega, ← List.drop_drop, hout]
                    rfl
                  rw [e]; exact hG2⟩
                obtain ⟨hlw, ⟨a, r, heq, ha1, had, hr⟩, _, _⟩ := hS
                have HLW := Aside0.mk hlw
                have hla := HL.out
                obtain ⟨j, hj⟩ : ∃ j : Nat, 3 * i = j := ⟨_, rfl⟩
                obtain ⟨j1, hj1⟩ : ∃ j1 : Nat, 3 * i + 1 = j1 := ⟨_, rfl⟩
                obtain ⟨j2, hj2⟩ : ∃ j2 : Nat, 3 * i + 2 = j2 := ⟨_, rfl⟩
                have g0 := hget 0 o1 rfl
                have g1 := hget 1 o2 rfl
                have g2 := hget 2 o3 rfl
                rw [Nat.add_zero, hj] at g0
                rw [hj1] at g1
                rw [hj2] at g2
                have q0 : j < N := by omega
                have q1 : j1 < N := by omega
                have q2 : j2 < N := by omega
                obtain ⟨ad, A', c', rfl, a0, _, a5⟩ := at_out C8.out j q0 o1 g0
                obtain ⟨ad1, _, _, e1, _, b2, _⟩ := at_out C8.out j1 q1 o2 g1
                cases e1
                obtain ⟨ad2, _, _, e2, _, d2, _⟩ := at_out C8.out j2 q2 o3 g2
                cases e2
                rw [h2v] at b2
                rw [h3v] at d2
                obtain ⟨ok, hok⟩ : ∃ y, o1.1 = y := ⟨_, rfl⟩
                obtain ⟨γ, hγ⟩ : ∃ y, o1.2.2 = y := ⟨_, rfl⟩
                rw [hok] at a0 hr
                rw [hγ] at a5 heq
                have ej : 3 * (i : Int) = (j : Int) := by omega
                have ej1 : (j : Int) + 1 = (j1 : Int) := by omega
                have ej2 : (j : Int) + 2 = (j2 : Int) := by omega
                have qi0 : (j : Int) < (N : Int) := by omega
                have qi1 : (j1 : Int) < (N : Int) := by omega
                have qi2 : (j2 : Int) < (N : Int) := by omega
                obtain ⟨add_, ee, hx0, _, _⟩ := at_T25 (Kd.C_below HR.out B2.out) (i : Int) (by omega) (by omega)
                cases ee
                have hrx : rd_T25 l1 (i : Int) = x := by simp [rd_T25, List.getD, hx]
                rw [hrx, Int.toNat_natCast] at hx0
                obtain ⟨xd, hxd⟩ : ∃ y, x.f0 = y := ⟨_, rfl⟩
                rw [hxd] at hx0 had hr
                obtain ⟨s, hs⟩ : ∃ s : Int, (lw : Int) - (l : Int) = s := ⟨_, rfl⟩
                obtain ⟨m, hm⟩ : ∃ m : Int, s + (γ : Int) = m := ⟨_, rfl⟩
                have hmr : m = (a : Int) - (r : Int) := by omega
                have hsb : -50 ≤ s ∧ s ≤ 50 := by omega
                have hgb : γ ≤ 100 := by omega
                have hn2 := hn1.2
                have t1 : decide ((lw : Int) < 0) = false := decide_eq_false (by omega)
                have t2 : decide ((n : Int) < (lw : Int)) = false := decide_eq_false (by omega)
                have t3 : decide (n < lw) = false := decide_eq_false (by omega)
                clear hx hdrop hout hget g0 g1 g2 h2v h3v hok hγ hrx hxd HG hG2 hj hj1 hj2 hlw hla
                rcases Nat.lt_or_ge a 1 with hz | hz
                · obtain rfl : a = 0 := by omega
                  by_cases hx3 : xd = 3
                  · subst hx3
                    cases ok with
                    | true =>
                      obtain rfl : r = 1 := by rw [hr]; simp
                      obtain rfl : m = -1 := by omega
                      clear hr had ha1 heq hmr hz
                      go_wp2
                      go_roundg (gk - 1)
                      case measure => have := HI.out; omega
                      case rel => exact ⟨i + 1, lw, by go_num, rfl, ⟨by have := HI.out; omega⟩, HG2, HLW, rfl⟩
                    | false =>
                      obtain rfl : r = 0 := by rw [hr]; simp
                      obtain rfl : m = 0 := by omega
                      clear hr had ha1 heq hmr hz
                      go_wp2
                      go_roundg (gk - 1)
                      case measure => have := HI.out; omega
                      case rel => exact ⟨i + 1, lw, by go_num, rfl, ⟨by have := HI.out; omega⟩, HG2, HLW, rfl⟩
                  · obtain rfl : r = 0 := by rw [hr]; simp [hx3]
                    obtain rfl : m = 0 := by omega
                    have t4 : decide (xd = 3) = false := decide_eq_false hx3
                    have t5 : (xd == 3) = false := by simp [hx3]
                    clear hr had ha1 heq hmr hz
                    go_wp2
                    go_roundg (gk - 1)
                    case measure => have := HI.out; omega
                    case rel => exact ⟨i + 1, lw, by go_num, rfl, ⟨by have := HI.out; omega⟩, HG2, HLW, rfl⟩
                · obtain rfl : a = 1 := by omega
                  rcases had rfl with rfl | rfl
                  · obtain rfl : r = 0 := by rw [hr]; simp
                    obtain rfl : m = 1 := by omega
                    clear hr had ha1 heq hmr hz
                    go_wp2
                    go_roundg (gk - 1)
                    case measure => have := HI.out; omega
                    case rel => exact ⟨i + 1, lw, by go_num, rfl, ⟨by have := HI.out; omega⟩, HG2, HLW, rfl⟩
                  · obtain rfl : r = 0 := by rw [hr]; simp
                    obtain rfl : m = 1 := by omega
                    clear hr had ha1 heq hmr hz
                    go_wp2
                    go_roundg (gk - 1)
                    case measure => have := HI.out; omega
                    case rel => exact ⟨i + 1, lw, by go_num, rfl, ⟨by have := HI.out; omega⟩, HG2, HLW, rfl⟩
              · have p3 : decide ((i : Int) < (l1.length : Int)) = false := decide_eq_false (by omega)
                go_wp2
                go_ret
                exact ⟨rfl, B2.out⟩
end Go.Proofs.Ytjncpidadcfncaa.Hand
