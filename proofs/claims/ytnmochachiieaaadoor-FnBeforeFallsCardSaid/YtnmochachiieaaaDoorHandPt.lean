/- What ParseFloat answers of a text that is not nan, by its first byte. -/
import Derived.Test.YtnmochachiieaaaDoorHandPs
namespace Go.Proofs.YtnmochachiieaaaDoor.Hand
open Go.RowKit Go.Proofs.YtnmochachiieaaaDoorW.PrintWords Go.Proofs.YtnmochachiieaaaDoorW.PrintLast Go.Proofs.YtnmochachiieaaaDoorW.PrintMore Go.Proofs.YtnmochachiieaaaDoor.Base
open Go.Proofs.YtnmochachiieaaaDoor.Pf Go.Proofs.YtnmochachiieaaaDoor.PFnBeforeFalls
set_option linter.unusedVariables false
set_option linter.unusedSimpArgs false
set_option maxHeartbeats 8000000 in
set_option maxRecDepth 100000 in
theorem pfO (s t : ByteArray) (w : World) (hs : t.size ≤ 1000) (h0 : 0 < s.size) (ht : t = s) (hf : ∀ q, s.data.toList[0]? = some q → q.toNat ≠ 43 ∧ q.toNat ≠ 45) (ri r8 ru : Bool) (x : Int × Bool) (hn : ∀ w, Calls Tryd.prog 20 #[.string s, .string ⟨#[110, 97, 110]⟩] w fun e w' => e = .returned (.bool false) ∧ Drawn0 w w')
    (hi : ∀ w, Calls Tryd.prog 20 #[.string t, .string ⟨#[105, 110, 102]⟩] w fun e w' => e = .returned (.bool ri) ∧ Drawn0 w w')
    (h8 : ∀ w, Calls Tryd.prog 20 #[.string t, .string ⟨#[105, 110, 102, 105, 110, 105, 116, 121]⟩] w fun e w' => e = .returned (.bool r8) ∧ Drawn0 w w')
    (hu : ∀ w, Calls Tryd.prog 26 #[.string s] w fun e w' => e = .returned (.bool ru) ∧ Drawn0 w w')
    (hb : ∀ c, readS t = some c → ∀ (w0 w : World) (B D : Nat), DecN w0 B w D c → Calls Tryd.prog 28 #[.pointer (some ⟨D, 0, none⟩), .agg #[.int .i64 52, .int .i64 11, .int .i64 (-1023)]] w fun e w' => e = .returned (.tuple #[.int .u64 x.1, .bool x.2]) ∧ Kp w0 B D w') :
    Calls Tryd.prog 12 #[.string s, .int .i64 64] w (PfRes (pfV false ri r8 ru (readS t) x).1 (pfV false ri r8 ru (readS t) x).2 w) := by
  have HN := Aside0.mk hn
  have HI := Aside0.mk hi
  have H8 := Aside0.mk h8
  have HU := Aside0.mk hu
  have HBT := Aside0.mk hb
  have HS := Aside0.mk hs
  have hem : s.toList.isEmpty = false := by
    rw [toList_data]
    cases hl : s.data.toList with
    | nil => exact absurd (by rw [size_list, hl]; rfl) (show s.size ≠ 0 by omega)
    | cons => rfl
  obtain ⟨q, hq, gq⟩ := byte_at (s := s) (i := 0) h0
  have l0 := q.toNat_lt
  have hqv := hf q hq
  have e43 : ((q.toNat : Int) == 43) = false := beq_eq_false_iff_ne.mpr (by omega)
  have e45 : ((q.toNat : Int) == 45) = false := beq_eq_false_iff_ne.mpr (by omega)
  clear hqv hf hq
  subst ht
  clear hn hi h8 hu hb hs
  go_enter Tryd.func12, Tryd.ntmps12
  go_upto_region 5 with (first | (go_at_call 20; refine (HN.out _).mono ?_; rintro e w2 ⟨rfl, hd2⟩; have B2 := Aside0.mk (drawn_below (Below.refl w.heap.size w) hd2); clear hd2))
  have B2' := B2
  go_upto_region 10 with (first | (go_at_call 23; refine (lightstrconv_formOf.calls 64 52 11 (-1023) _ rfl).mono ?_; rintro e w3 ⟨rfl, hb3⟩; have B3 := Aside0.mk (B2'.out.trans (hb3.mono B2'.out.size)); clear hb3))
  have B4 := Aside0.mk (below_alloc B3.out (.cells #[.int .i64 52, .int .i64 11, .int .i64 (-1023)] 55 (0, 0)))
  have X4 := Aside0.mk (blk_new w3 (.cells #[.int .i64 52, .int .i64 11, .int .i64 (-1023)] 55 (0, 0)))
  obtain ⟨X, hX⟩ : ∃ X, X = w3.heap.size := ⟨_, rfl⟩
  rw [← hX] at X4 ⊢
  clear hX
  generalize w3.alloc _ = w4 at B4 X4 ⊢
  clear B3
  obtain ⟨c40, c41, c42⟩ := box_of X4.out
  cases ri
  case true =>
    go_upto_region 13 with (first | (go_at_call 20; with_reducible refine (HI.out _).mono ?_; rintro e w5 ⟨rfl, hd5⟩; have B5 := Aside0.mk (drawn_below B4.out hd5); have X5 := Aside0.mk (blk_below X4.out (drawn_below (Below.refl _ _) hd5)); have c5 := box_of X5.out; obtain ⟨c50, c51, c52⟩ := c5; clear hd5))
    have sd := And.intro c50 (And.intro c51 (And.intro c52 (Below.refl w5.heap.size w5)))
    clear c40 c41 c42 c50 c51 c52
    go_region_held3 (fun w' => w'.cell? ⟨X, 0, none⟩ = some (.int .i64 52) ∧ w'.cell? ⟨X, 1, none⟩ = some (.int .i64 11) ∧ w'.cell? ⟨X, 2, none⟩ = some (.int .i64 (-1023)) ∧ Below w5.heap.size w5 w')
      (first | exact sd | exact keepX (by assumption) (by first | assumption | exact below_drew (Below.refl _ _)))
      (first | (go_at_call 24; with_reducible refine (float_ _ _).mono ?_; rintro e w' ⟨rfl, hb'⟩))
    all_goals
      go_wp2
      go_ret2
      exact ⟨_, rfl, fun _ => rfl, (fun h => by cases h), B5.out.trans ((keepB' (by assumption)).mono B5.out.size)⟩
  case false =>
    cases r8
    case true =>
      go_upto_region 13 with (first | (go_at_call 20; with_reducible refine (HI.out _).mono ?_; rintro e w5 ⟨rfl, hd5⟩; have B5 := Aside0.mk (drawn_below B4.out hd5); have X5 := Aside0.mk (blk_below X4.out (drawn_below (Below.refl _ _) hd5)); have c5 := box_of X5.out; obtain ⟨c50, c51, c52⟩ := c5; clear hd5) | (go_at_call 20; with_reducible refine (H8.out _).mono ?_; rintro e w6 ⟨rfl, hd6⟩; have B6 := Aside0.mk (drawn_below B5.out hd6); have X6 := Aside0.mk (blk_below X5.out (drawn_below (Below.refl _ _) hd6)); have c6 := box_of X6.out; obtain ⟨c60, c61, c62⟩ := c6; clear hd6))
      have sd := And.intro c60 (And.intro c61 (And.intro c62 (Below.refl w6.heap.size w6)))
      clear c40 c41 c42 c50 c51 c52 c60 c61 c62
      go_region_held3 (fun w' => w'.cell? ⟨X, 0, none⟩ = some (.int .i64 52) ∧ w'.cell? ⟨X, 1, none⟩ = some (.int .i64 11) ∧ w'.cell? ⟨X, 2, none⟩ = some (.int .i64 (-1023)) ∧ Below w6.heap.size w6 w')
        (first | exact sd | exact keepX (by assumption) (by first | assumption | exact below_drew (Below.refl _ _)))
        (first | (go_at_call 24; with_reducible refine (float_ _ _).mono ?_; rintro e w' ⟨rfl, hb'⟩))
      all_goals
        go_wp2
        go_ret2
        exact ⟨_, rfl, fun _ => rfl, (fun h => by cases h), B6.out.trans ((keepB' (by assumption)).mono B6.out.size)⟩
    case false =>
      rcases hrd : readS t with _ | c
      case none =>
        have HRD := Aside0.mk hrd
        go_wp2_with (first | (go_at_call 20; with_reducible refine (HI.out _).mono ?_; rintro e w5 ⟨rfl, hd5⟩; have B5 := Aside0.mk (drawn_below B4.out hd5); have X5 := Aside0.mk (blk_below X4.out (drawn_below (Below.refl _ _) hd5)); have c5 := box_of X5.out; obtain ⟨c50, c51, c52⟩ := c5; clear hd5) | (go_at_call 20; with_reducible refine (H8.out _).mono ?_; rintro e w6 ⟨rfl, hd6⟩; have B6 := Aside0.mk (drawn_below B5.out hd6); have X6 := Aside0.mk (blk_below X5.out (drawn_below (Below.refl _ _) hd6)); have c6 := box_of X6.out; obtain ⟨c60, c61, c62⟩ := c6; clear hd6) | (go_at_call 25; go_loud (refine (read_any t _ HS.out).mono ?_; rintro e w7 ⟨hno, hyes⟩; obtain ⟨rfl, hb7⟩ := hno HRD.out; have B7 := Aside0.mk (B6.out.trans (hb7.mono B6.out.size)); clear hno hyes hb7)) | (go_at_call 27; go_loud (refine (fail_ _ _ _ _).mono ?_; rintro e w9 ⟨p9, rfl, hb9⟩; have B9 := Aside0.mk (B7.out.trans (hb9.mono B7.out.size)); clear hb9)))
        go_ret2
        have hv : pfV false false false ru (readS t) x = (0, true) := by rw [HRD.out]; rfl
        rw [hv]
        exact ⟨_, rfl, (fun h => by cases h), fun _ => ⟨_, rfl⟩, B9.out⟩
      case some =>
        have HRD := Aside0.mk hrd
        cases ru
        case false =>
          go_wp2_with (first | (go_at_call 20; with_reducible refine (HI.out _).mono ?_; rintro e w5 ⟨rfl, hd5⟩; have B5 := Aside0.mk (drawn_below B4.out hd5); have X5 := Aside0.mk (blk_below X4.out (drawn_below (Below.refl _ _) hd5)); have c5 := box_of X5.out; obtain ⟨c50, c51, c52⟩ := c5; clear hd5) | (go_at_call 20; with_reducible refine (H8.out _).mono ?_; rintro e w6 ⟨rfl, hd6⟩; have B6 := Aside0.mk (drawn_below B5.out hd6); have X6 := Aside0.mk (blk_below X5.out (drawn_below (Below.refl _ _) hd6)); have c6 := box_of X6.out; obtain ⟨c60, c61, c62⟩ := c6; clear hd6) | (go_at_call 25; go_loud (refine (read_any t _ HS.out).mono ?_; rintro e w7 ⟨hno, hyes⟩; obtain ⟨D7, rfl, hd7⟩ := hyes c HRD.out; have B7 := Aside0.mk (show Below w.heap.size w w7 from (by obtain ⟨_, h⟩ := hd7; exact B6.out.trans (h.2.2.1.1.mono B6.out.size))); clear hno hyes hd7)) | (go_at_call 26; go_loud (refine (HU.out _).mono ?_; rintro e w8 ⟨rfl, hd8⟩; have B8 := Aside0.mk (drawn_below B7.out hd8); clear hd8)) | (go_at_call 27; go_loud (refine (fail_ _ _ _ _).mono ?_; rintro e w9 ⟨p9, rfl, hb9⟩; have B9 := Aside0.mk (B8.out.trans (hb9.mono B8.out.size)); clear hb9)))
          go_ret2
          have hv : pfV false false false false (readS t) x = (0, true) := by rw [HRD.out]; rfl
          rw [hv]
          exact ⟨_, rfl, (fun h => by cases h), fun _ => ⟨_, rfl⟩, B9.out⟩
        case true =>
          go_upto_region 17 with (first | (go_at_call 20; with_reducible refine (HI.out _).mono ?_; rintro e w5 ⟨rfl, hd5⟩; have B5 := Aside0.mk (drawn_below B4.out hd5); have X5 := Aside0.mk (blk_below X4.out (drawn_below (Below.refl _ _) hd5)); have c5 := box_of X5.out; obtain ⟨c50, c51, c52⟩ := c5; clear hd5) | (go_at_call 20; with_reducible refine (H8.out _).mono ?_; rintro e w6 ⟨rfl, hd6⟩; have B6 := Aside0.mk (drawn_below B5.out hd6); have X6 := Aside0.mk (blk_below X5.out (drawn_below (Below.refl _ _) hd6)); have c6 := box_of X6.out; obtain ⟨c60, c61, c62⟩ := c6; clear hd6) | (go_at_call 25; go_loud (refine (read_any t _ HS.out).mono ?_; rintro e w7 ⟨hno, hyes⟩; obtain ⟨D7, rfl, hd7⟩ := hyes c HRD.out; have B67 := Aside0.mk (show Below w6.heap.size w6 w7 from (by obtain ⟨_, h⟩ := hd7; exact h.2.2.1.1)); have BD7 := Aside0.mk (show w6.heap.size ≤ D7 from (by obtain ⟨_, h⟩ := hd7; exact h.2.2.2.1)); have B7 := Aside0.mk (B6.out.trans (B67.out.mono B6.out.size)); have X7 := Aside0.mk (blk_below X6.out B67.out); have HD7 := Aside0.mk (show DecN w7 w6.heap.size w7 D7 c from (by obtain ⟨v, h⟩ := hd7; exact ⟨v, h.base⟩)); clear hno hyes hd7)) | (go_at_call 26; go_loud (refine (HU.out _).mono ?_; rintro e w8 ⟨rfl, nd, rfl⟩)))
          have B8 := Aside0.mk (pw_below_drewN B7.out nd)
          have X8 := Aside0.mk (show (w7.drewN nd).heap[X]? = _ from X7.out)
          have HD8 := Aside0.mk (show DecN (w7.drewN nd) w6.heap.size (w7.drewN nd) D7 c from (by obtain ⟨v, h⟩ := HD7.out; exact ⟨v, (h.drewN nd).base⟩))
          have XD := Aside0.mk (show X ≠ D7 by have := BD7.out; have := blk_lt X6.out; omega)
          have B06 := Aside0.mk B6.out.size
          clear c40 c41 c42 c50 c51 c52 c60 c61 c62 B7 X7 HD7 B67
          generalize w7.drewN nd = w8 at B8 X8 HD8 ⊢
          obtain ⟨c80, c81, c82⟩ := box_of X8.out
          obtain ⟨xv, xb⟩ := x
          go_upto_region 18 with ((go_at_call 28; go_loud (refine (HBT.out c HRD.out w8 _ w6.heap.size D7 HD8.out).mono ?_; rintro e w9 ⟨rfl, hk9⟩; have B9 := Aside0.mk (B8.out.trans (hk9.1.mono B06.out)); have X9 := Aside0.mk ((hk9.2 X (blk_lt X8.out) XD.out).trans X8.out); clear hk9)))
          clear c80 c81 c82
          obtain ⟨c90, c91, c92⟩ := box_of X9.out
          cases xb
          case true =>
            go_wp2_with (first | (go_at_call 24; go_loud (refine (float_ _ _).mono ?_; rintro e wa ⟨rfl, hba⟩; have BA := Aside0.mk (B9.out.trans (hba.mono B9.out.size)); clear hba)) | (go_at_call 27; go_loud (refine (fail_ _ _ _ _).mono ?_; rintro e wb ⟨pb, rfl, hbb⟩; have BB := Aside0.mk (BA.out.trans (hbb.mono BA.out.size)); clear hbb)))
            go_ret2
            have hv : pfV false false false true (readS t) (xv, true) = ((bits .or .u64 (sgn false) xv).toNat, true) := by rw [HRD.out]; rfl
            rw [hv]
            exact ⟨_, rfl, (fun h => by cases h), fun _ => ⟨_, rfl⟩, BB.out⟩
          case false =>
            go_wp2_with ((go_at_call 24; go_loud (refine (float_ _ _).mono ?_; rintro e wa ⟨rfl, hba⟩; have BA := Aside0.mk (B9.out.trans (hba.mono B9.out.size)); clear hba)))
            go_ret2
            have hv : pfV false false false true (readS t) (xv, false) = ((bits .or .u64 (sgn false) xv).toNat, false) := by rw [HRD.out]; rfl
            rw [hv]
            exact ⟨_, rfl, fun _ => rfl, (fun h => by cases h), BA.out⟩
set_option maxHeartbeats 8000000 in
set_option maxRecDepth 100000 in
theorem pfP (s t : ByteArray) (w : World) (hs : t.size ≤ 1000) (h0 : 0 < s.size) (ht : s.extract 1 s.size = t) (hf : ∀ q, s.data.toList[0]? = some q → q.toNat = 43) (ri r8 ru : Bool) (x : Int × Bool) (hn : ∀ w, Calls Tryd.prog 20 #[.string s, .string ⟨#[110, 97, 110]⟩] w fun e w' => e = .returned (.bool false) ∧ Drawn0 w w')
    (hi : ∀ w, Calls Tryd.prog 20 #[.string t, .string ⟨#[105, 110, 102]⟩] w fun e w' => e = .returned (.bool ri) ∧ Drawn0 w w')
    (h8 : ∀ w, Calls Tryd.prog 20 #[.string t, .string ⟨#[105, 110, 102, 105, 110, 105, 116, 121]⟩] w fun e w' => e = .returned (.bool r8) ∧ Drawn0 w w')
    (hu : ∀ w, Calls Tryd.prog 26 #[.string s] w fun e w' => e = .returned (.bool ru) ∧ Drawn0 w w')
    (hb : ∀ c, readS t = some c → ∀ (w0 w : World) (B D : Nat), DecN w0 B w D c → Calls Tryd.prog 28 #[.pointer (some ⟨D, 0, none⟩), .agg #[.int .i64 52, .int .i64 11, .int .i64 (-1023)]] w fun e w' => e = .returned (.tuple #[.int .u64 x.1, .bool x.2]) ∧ Kp w0 B D w') :
    Calls Tryd.prog 12 #[.string s, .int .i64 64] w (PfRes (pfV false ri r8 ru (readS t) x).1 (pfV false ri r8 ru (readS t) x).2 w) := by
  have HN := Aside0.mk hn
  have HI := Aside0.mk hi
  have H8 := Aside0.mk h8
  have HU := Aside0.mk hu
  have HBT := Aside0.mk hb
  have HS := Aside0.mk hs
  have hem : s.toList.isEmpty = false := by
    rw [toList_data]
    cases hl : s.data.toList with
    | nil => exact absurd (by rw [size_list, hl]; rfl) (show s.size ≠ 0 by omega)
    | cons => rfl
  obtain ⟨q, hq, gq⟩ := byte_at (s := s) (i := 0) h0
  have l0 := q.toNat_lt
  have hqv := hf q hq
  have e43 : ((q.toNat : Int) == 43) = true := beq_iff_eq.mpr (by omega)
  have e45 : ((q.toNat : Int) == 45) = false := beq_eq_false_iff_ne.mpr (by omega)
  have g1 : (1 : Int) ≤ (s.size : Int) := by omega
  clear hqv hf hq
  clear hn hi h8 hu hb hs
  go_enter Tryd.func12, Tryd.ntmps12
  go_upto_region 5 with (first | (go_at_call 20; refine (HN.out _).mono ?_; rintro e w2 ⟨rfl, hd2⟩; have B2 := Aside0.mk (drawn_below (Below.refl w.heap.size w) hd2); clear hd2))
  go_upto_region 7 with (fail)
  go_quiet (fail)
  have B2' := Aside0.mk (pw_below_drewN B2.out nq)
  clear B2
  generalize w2.drewN nq = w2' at B2' ⊢
  clear ht
  go_upto_region 10 with (first | (go_at_call 23; refine (lightstrconv_formOf.calls 64 52 11 (-1023) _ rfl).mono ?_; rintro e w3 ⟨rfl, hb3⟩; have B3 := Aside0.mk (B2'.out.trans (hb3.mono B2'.out.size)); clear hb3))
  have B4 := Aside0.mk (below_alloc B3.out (.cells #[.int .i64 52, .int .i64 11, .int .i64 (-1023)] 55 (0, 0)))
  have X4 := Aside0.mk (blk_new w3 (.cells #[.int .i64 52, .int .i64 11, .int .i64 (-1023)] 55 (0, 0)))
  obtain ⟨X, hX⟩ : ∃ X, X = w3.heap.size := ⟨_, rfl⟩
  rw [← hX] at X4 ⊢
  clear hX
  generalize w3.alloc _ = w4 at B4 X4 ⊢
  clear B3
  obtain ⟨c40, c41, c42⟩ := box_of X4.out
  cases ri
  case true =>
    go_upto_region 13 with (first | (go_at_call 20; with_reducible refine (HI.out _).mono ?_; rintro e w5 ⟨rfl, hd5⟩; have B5 := Aside0.mk (drawn_below B4.out hd5); have X5 := Aside0.mk (blk_below X4.out (drawn_below (Below.refl _ _) hd5)); have c5 := box_of X5.out; obtain ⟨c50, c51, c52⟩ := c5; clear hd5))
    have sd := And.intro c50 (And.intro c51 (And.intro c52 (Below.refl w5.heap.size w5)))
    clear c40 c41 c42 c50 c51 c52
    go_region_held3 (fun w' => w'.cell? ⟨X, 0, none⟩ = some (.int .i64 52) ∧ w'.cell? ⟨X, 1, none⟩ = some (.int .i64 11) ∧ w'.cell? ⟨X, 2, none⟩ = some (.int .i64 (-1023)) ∧ Below w5.heap.size w5 w')
      (first | exact sd | exact keepX (by assumption) (by first | assumption | exact below_drew (Below.refl _ _)))
      (first | (go_at_call 24; with_reducible refine (float_ _ _).mono ?_; rintro e w' ⟨rfl, hb'⟩))
    all_goals
      go_wp2
      go_ret2
      exact ⟨_, rfl, fun _ => rfl, (fun h => by cases h), B5.out.trans ((keepB' (by assumption)).mono B5.out.size)⟩
  case false =>
    cases r8
    case true =>
      go_upto_region 13 with (first | (go_at_call 20; with_reducible refine (HI.out _).mono ?_; rintro e w5 ⟨rfl, hd5⟩; have B5 := Aside0.mk (drawn_below B4.out hd5); have X5 := Aside0.mk (blk_below X4.out (drawn_below (Below.refl _ _) hd5)); have c5 := box_of X5.out; obtain ⟨c50, c51, c52⟩ := c5; clear hd5) | (go_at_call 20; with_reducible refine (H8.out _).mono ?_; rintro e w6 ⟨rfl, hd6⟩; have B6 := Aside0.mk (drawn_below B5.out hd6); have X6 := Aside0.mk (blk_below X5.out (drawn_below (Below.refl _ _) hd6)); have c6 := box_of X6.out; obtain ⟨c60, c61, c62⟩ := c6; clear hd6))
      have sd := And.intro c60 (And.intro c61 (And.intro c62 (Below.refl w6.heap.size w6)))
      clear c40 c41 c42 c50 c51 c52 c60 c61 c62
      go_region_held3 (fun w' => w'.cell? ⟨X, 0, none⟩ = some (.int .i64 52) ∧ w'.cell? ⟨X, 1, none⟩ = some (.int .i64 11) ∧ w'.cell? ⟨X, 2, none⟩ = some (.int .i64 (-1023)) ∧ Below w6.heap.size w6 w')
        (first | exact sd | exact keepX (by assumption) (by first | assumption | exact below_drew (Below.refl _ _)))
        (first | (go_at_call 24; with_reducible refine (float_ _ _).mono ?_; rintro e w' ⟨rfl, hb'⟩))
      all_goals
        go_wp2
        go_ret2
        exact ⟨_, rfl, fun _ => rfl, (fun h => by cases h), B6.out.trans ((keepB' (by assumption)).mono B6.out.size)⟩
    case false =>
      rcases hrd : readS t with _ | c
      case none =>
        have HRD := Aside0.mk hrd
        go_wp2_with (first | (go_at_call 20; with_reducible refine (HI.out _).mono ?_; rintro e w5 ⟨rfl, hd5⟩; have B5 := Aside0.mk (drawn_below B4.out hd5); have X5 := Aside0.mk (blk_below X4.out (drawn_below (Below.refl _ _) hd5)); have c5 := box_of X5.out; obtain ⟨c50, c51, c52⟩ := c5; clear hd5) | (go_at_call 20; with_reducible refine (H8.out _).mono ?_; rintro e w6 ⟨rfl, hd6⟩; have B6 := Aside0.mk (drawn_below B5.out hd6); have X6 := Aside0.mk (blk_below X5.out (drawn_below (Below.refl _ _) hd6)); have c6 := box_of X6.out; obtain ⟨c60, c61, c62⟩ := c6; clear hd6) | (go_at_call 25; go_loud (refine (read_any t _ HS.out).mono ?_; rintro e w7 ⟨hno, hyes⟩; obtain ⟨rfl, hb7⟩ := hno HRD.out; have B7 := Aside0.mk (B6.out.trans (hb7.mono B6.out.size)); clear hno hyes hb7)) | (go_at_call 27; go_loud (refine (fail_ _ _ _ _).mono ?_; rintro e w9 ⟨p9, rfl, hb9⟩; have B9 := Aside0.mk (B7.out.trans (hb9.mono B7.out.size)); clear hb9)))
        go_ret2
        have hv : pfV false false false ru (readS t) x = (0, true) := by rw [HRD.out]; rfl
        rw [hv]
        exact ⟨_, rfl, (fun h => by cases h), fun _ => ⟨_, rfl⟩, B9.out⟩
      case some =>
        have HRD := Aside0.mk hrd
        cases ru
        case false =>
          go_wp2_with (first | (go_at_call 20; with_reducible refine (HI.out _).mono ?_; rintro e w5 ⟨rfl, hd5⟩; have B5 := Aside0.mk (drawn_below B4.out hd5); have X5 := Aside0.mk (blk_below X4.out (drawn_below (Below.refl _ _) hd5)); have c5 := box_of X5.out; obtain ⟨c50, c51, c52⟩ := c5; clear hd5) | (go_at_call 20; with_reducible refine (H8.out _).mono ?_; rintro e w6 ⟨rfl, hd6⟩; have B6 := Aside0.mk (drawn_below B5.out hd6); have X6 := Aside0.mk (blk_below X5.out (drawn_below (Below.refl _ _) hd6)); have c6 := box_of X6.out; obtain ⟨c60, c61, c62⟩ := c6; clear hd6) | (go_at_call 25; go_loud (refine (read_any t _ HS.out).mono ?_; rintro e w7 ⟨hno, hyes⟩; obtain ⟨D7, rfl, hd7⟩ := hyes c HRD.out; have B7 := Aside0.mk (show Below w.heap.size w w7 from (by obtain ⟨_, h⟩ := hd7; exact B6.out.trans (h.2.2.1.1.mono B6.out.size))); clear hno hyes hd7)) | (go_at_call 26; go_loud (refine (HU.out _).mono ?_; rintro e w8 ⟨rfl, hd8⟩; have B8 := Aside0.mk (drawn_below B7.out hd8); clear hd8)) | (go_at_call 27; go_loud (refine (fail_ _ _ _ _).mono ?_; rintro e w9 ⟨p9, rfl, hb9⟩; have B9 := Aside0.mk (B8.out.trans (hb9.mono B8.out.size)); clear hb9)))
          go_ret2
          have hv : pfV false false false false (readS t) x = (0, true) := by rw [HRD.out]; rfl
          rw [hv]
          exact ⟨_, rfl, (fun h => by cases h), fun _ => ⟨_, rfl⟩, B9.out⟩
        case true =>
          go_upto_region 17 with (first | (go_at_call 20; with_reducible refine (HI.out _).mono ?_; rintro e w5 ⟨rfl, hd5⟩; have B5 := Aside0.mk (drawn_below B4.out hd5); have X5 := Aside0.mk (blk_below X4.out (drawn_below (Below.refl _ _) hd5)); have c5 := box_of X5.out; obtain ⟨c50, c51, c52⟩ := c5; clear hd5) | (go_at_call 20; with_reducible refine (H8.out _).mono ?_; rintro e w6 ⟨rfl, hd6⟩; have B6 := Aside0.mk (drawn_below B5.out hd6); have X6 := Aside0.mk (blk_below X5.out (drawn_below (Below.refl _ _) hd6)); have c6 := box_of X6.out; obtain ⟨c60, c61, c62⟩ := c6; clear hd6) | (go_at_call 25; go_loud (refine (read_any t _ HS.out).mono ?_; rintro e w7 ⟨hno, hyes⟩; obtain ⟨D7, rfl, hd7⟩ := hyes c HRD.out; have B67 := Aside0.mk (show Below w6.heap.size w6 w7 from (by obtain ⟨_, h⟩ := hd7; exact h.2.2.1.1)); have BD7 := Aside0.mk (show w6.heap.size ≤ D7 from (by obtain ⟨_, h⟩ := hd7; exact h.2.2.2.1)); have B7 := Aside0.mk (B6.out.trans (B67.out.mono B6.out.size)); have X7 := Aside0.mk (blk_below X6.out B67.out); have HD7 := Aside0.mk (show DecN w7 w6.heap.size w7 D7 c from (by obtain ⟨v, h⟩ := hd7; exact ⟨v, h.base⟩)); clear hno hyes hd7)) | (go_at_call 26; go_loud (refine (HU.out _).mono ?_; rintro e w8 ⟨rfl, nd, rfl⟩)))
          have B8 := Aside0.mk (pw_below_drewN B7.out nd)
          have X8 := Aside0.mk (show (w7.drewN nd).heap[X]? = _ from X7.out)
          have HD8 := Aside0.mk (show DecN (w7.drewN nd) w6.heap.size (w7.drewN nd) D7 c from (by obtain ⟨v, h⟩ := HD7.out; exact ⟨v, (h.drewN nd).base⟩))
          have XD := Aside0.mk (show X ≠ D7 by have := BD7.out; have := blk_lt X6.out; omega)
          have B06 := Aside0.mk B6.out.size
          clear c40 c41 c42 c50 c51 c52 c60 c61 c62 B7 X7 HD7 B67
          generalize w7.drewN nd = w8 at B8 X8 HD8 ⊢
          obtain ⟨c80, c81, c82⟩ := box_of X8.out
          obtain ⟨xv, xb⟩ := x
          go_upto_region 18 with ((go_at_call 28; go_loud (refine (HBT.out c HRD.out w8 _ w6.heap.size D7 HD8.out).mono ?_; rintro e w9 ⟨rfl, hk9⟩; have B9 := Aside0.mk (B8.out.trans (hk9.1.mono B06.out)); have X9 := Aside0.mk ((hk9.2 X (blk_lt X8.out) XD.out).trans X8.out); clear hk9)))
          clear c80 c81 c82
          obtain ⟨c90, c91, c92⟩ := box_of X9.out
          cases xb
          case true =>
            go_wp2_with (first | (go_at_call 24; go_loud (refine (float_ _ _).mono ?_; rintro e wa ⟨rfl, hba⟩; have BA := Aside0.mk (B9.out.trans (hba.mono B9.out.size)); clear hba)) | (go_at_call 27; go_loud (refine (fail_ _ _ _ _).mono ?_; rintro e wb ⟨pb, rfl, hbb⟩; have BB := Aside0.mk (BA.out.trans (hbb.mono BA.out.size)); clear hbb)))
            go_ret2
            have hv : pfV false false false true (readS t) (xv, true) = ((bits .or .u64 (sgn false) xv).toNat, true) := by rw [HRD.out]; rfl
            rw [hv]
            exact ⟨_, rfl, (fun h => by cases h), fun _ => ⟨_, rfl⟩, BB.out⟩
          case false =>
            go_wp2_with ((go_at_call 24; go_loud (refine (float_ _ _).mono ?_; rintro e wa ⟨rfl, hba⟩; have BA := Aside0.mk (B9.out.trans (hba.mono B9.out.size)); clear hba)))
            go_ret2
            have hv : pfV false false false true (readS t) (xv, false) = ((bits .or .u64 (sgn false) xv).toNat, false) := by rw [HRD.out]; rfl
            rw [hv]
            exact ⟨_, rfl, fun _ => rfl, (fun h => by cases h), BA.out⟩
set_option maxHeartbeats 8000000 in
set_option maxRecDepth 100000 in
theorem pfM (s t : ByteArray) (w : World) (hs : t.size ≤ 1000) (h0 : 0 < s.size) (ht : s.extract 1 s.size = t) (hf : ∀ q, s.data.toList[0]? = some q → q.toNat = 45) (ri r8 ru : Bool) (x : Int × Bool) (hn : ∀ w, Calls Tryd.prog 20 #[.string s, .string ⟨#[110, 97, 110]⟩] w fun e w' => e = .returned (.bool false) ∧ Drawn0 w w')
    (hi : ∀ w, Calls Tryd.prog 20 #[.string t, .string ⟨#[105, 110, 102]⟩] w fun e w' => e = .returned (.bool ri) ∧ Drawn0 w w')
    (h8 : ∀ w, Calls Tryd.prog 20 #[.string t, .string ⟨#[105, 110, 102, 105, 110, 105, 116, 121]⟩] w fun e w' => e = .returned (.bool r8) ∧ Drawn0 w w')
    (hu : ∀ w, Calls Tryd.prog 26 #[.string s] w fun e w' => e = .returned (.bool ru) ∧ Drawn0 w w')
    (hb : ∀ c, readS t = some c → ∀ (w0 w : World) (B D : Nat), DecN w0 B w D c → Calls Tryd.prog 28 #[.pointer (some ⟨D, 0, none⟩), .agg #[.int .i64 52, .int .i64 11, .int .i64 (-1023)]] w fun e w' => e = .returned (.tuple #[.int .u64 x.1, .bool x.2]) ∧ Kp w0 B D w') :
    Calls Tryd.prog 12 #[.string s, .int .i64 64] w (PfRes (pfV true ri r8 ru (readS t) x).1 (pfV true ri r8 ru (readS t) x).2 w) := by
  have HN := Aside0.mk hn
  have HI := Aside0.mk hi
  have H8 := Aside0.mk h8
  have HU := Aside0.mk hu
  have HBT := Aside0.mk hb
  have HS := Aside0.mk hs
  have hem : s.toList.isEmpty = false := by
    rw [toList_data]
    cases hl : s.data.toList with
    | nil => exact absurd (by rw [size_list, hl]; rfl) (show s.size ≠ 0 by omega)
    | cons => rfl
  obtain ⟨q, hq, gq⟩ := byte_at (s := s) (i := 0) h0
  have l0 := q.toNat_lt
  have hqv := hf q hq
  have e43 : ((q.toNat : Int) == 43) = false := beq_eq_false_iff_ne.mpr (by omega)
  have e45 : ((q.toNat : Int) == 45) = true := beq_iff_eq.mpr (by omega)
  have g1 : (1 : Int) ≤ (s.size : Int) := by omega
  clear hqv hf hq
  clear hn hi h8 hu hb hs
  go_enter Tryd.func12, Tryd.ntmps12
  go_upto_region 5 with (first | (go_at_call 20; refine (HN.out _).mono ?_; rintro e w2 ⟨rfl, hd2⟩; have B2 := Aside0.mk (drawn_below (Below.refl w.heap.size w) hd2); clear hd2))
  go_upto_region 7 with (fail)
  go_quiet (fail)
  have B2' := Aside0.mk (pw_below_drewN B2.out nq)
  clear B2
  generalize w2.drewN nq = w2' at B2' ⊢
  clear ht
  go_upto_region 10 with (first | (go_at_call 23; refine (lightstrconv_formOf.calls 64 52 11 (-1023) _ rfl).mono ?_; rintro e w3 ⟨rfl, hb3⟩; have B3 := Aside0.mk (B2'.out.trans (hb3.mono B2'.out.size)); clear hb3))
  have B4 := Aside0.mk (below_alloc B3.out (.cells #[.int .i64 52, .int .i64 11, .int .i64 (-1023)] 55 (0, 0)))
  have X4 := Aside0.mk (blk_new w3 (.cells #[.int .i64 52, .int .i64 11, .int .i64 (-1023)] 55 (0, 0)))
  obtain ⟨X, hX⟩ : ∃ X, X = w3.heap.size := ⟨_, rfl⟩
  rw [← hX] at X4 ⊢
  clear hX
  generalize w3.alloc _ = w4 at B4 X4 ⊢
  clear B3
  obtain ⟨c40, c41, c42⟩ := box_of X4.out
  cases ri
  case true =>
    go_upto_region 13 with (first | (go_at_call 20; with_reducible refine (HI.out _).mono ?_; rintro e w5 ⟨rfl, hd5⟩; have B5 := Aside0.mk (drawn_below B4.out hd5); have X5 := Aside0.mk (blk_below X4.out (drawn_below (Below.refl _ _) hd5)); have c5 := box_of X5.out; obtain ⟨c50, c51, c52⟩ := c5; clear hd5))
    have sd := And.intro c50 (And.intro c51 (And.intro c52 (Below.refl w5.heap.size w5)))
    clear c40 c41 c42 c50 c51 c52
    go_region_held3 (fun w' => w'.cell? ⟨X, 0, none⟩ = some (.int .i64 52) ∧ w'.cell? ⟨X, 1, none⟩ = some (.int .i64 11) ∧ w'.cell? ⟨X, 2, none⟩ = some (.int .i64 (-1023)) ∧ Below w5.heap.size w5 w')
      (first | exact sd | exact keepX (by assumption) (by first | assumption | exact below_drew (Below.refl _ _)))
      (first | (go_at_call 24; with_reducible refine (float_ _ _).mono ?_; rintro e w' ⟨rfl, hb'⟩))
    all_goals
      go_wp2
      go_ret2
      exact ⟨_, rfl, fun _ => rfl, (fun h => by cases h), B5.out.trans ((keepB' (by assumption)).mono B5.out.size)⟩
  case false =>
    cases r8
    case true =>
      go_upto_region 13 with (first | (go_at_call 20; with_reducible refine (HI.out _).mono ?_; rintro e w5 ⟨rfl, hd5⟩; have B5 := Aside0.mk (drawn_below B4.out hd5); have X5 := Aside0.mk (blk_below X4.out (drawn_below (Below.refl _ _) hd5)); have c5 := box_of X5.out; obtain ⟨c50, c51, c52⟩ := c5; clear hd5) | (go_at_call 20; with_reducible refine (H8.out _).mono ?_; rintro e w6 ⟨rfl, hd6⟩; have B6 := Aside0.mk (drawn_below B5.out hd6); have X6 := Aside0.mk (blk_below X5.out (drawn_below (Below.refl _ _) hd6)); have c6 := box_of X6.out; obtain ⟨c60, c61, c62⟩ := c6; clear hd6))
      have sd := And.intro c60 (And.intro c61 (And.intro c62 (Below.refl w6.heap.size w6)))
      clear c40 c41 c42 c50 c51 c52 c60 c61 c62
      go_region_held3 (fun w' => w'.cell? ⟨X, 0, none⟩ = some (.int .i64 52) ∧ w'.cell? ⟨X, 1, none⟩ = some (.int .i64 11) ∧ w'.cell? ⟨X, 2, none⟩ = some (.int .i64 (-1023)) ∧ Below w6.heap.size w6 w')
        (first | exact sd | exact keepX (by assumption) (by first | assumption | exact below_drew (Below.refl _ _)))
        (first | (go_at_call 24; with_reducible refine (float_ _ _).mono ?_; rintro e w' ⟨rfl, hb'⟩))
      all_goals
        go_wp2
        go_ret2
        exact ⟨_, rfl, fun _ => rfl, (fun h => by cases h), B6.out.trans ((keepB' (by assumption)).mono B6.out.size)⟩
    case false =>
      rcases hrd : readS t with _ | c
      case none =>
        have HRD := Aside0.mk hrd
        go_wp2_with (first | (go_at_call 20; with_reducible refine (HI.out _).mono ?_; rintro e w5 ⟨rfl, hd5⟩; have B5 := Aside0.mk (drawn_below B4.out hd5); have X5 := Aside0.mk (blk_below X4.out (drawn_below (Below.refl _ _) hd5)); have c5 := box_of X5.out; obtain ⟨c50, c51, c52⟩ := c5; clear hd5) | (go_at_call 20; with_reducible refine (H8.out _).mono ?_; rintro e w6 ⟨rfl, hd6⟩; have B6 := Aside0.mk (drawn_below B5.out hd6); have X6 := Aside0.mk (blk_below X5.out (drawn_below (Below.refl _ _) hd6)); have c6 := box_of X6.out; obtain ⟨c60, c61, c62⟩ := c6; clear hd6) | (go_at_call 25; go_loud (refine (read_any t _ HS.out).mono ?_; rintro e w7 ⟨hno, hyes⟩; obtain ⟨rfl, hb7⟩ := hno HRD.out; have B7 := Aside0.mk (B6.out.trans (hb7.mono B6.out.size)); clear hno hyes hb7)) | (go_at_call 27; go_loud (refine (fail_ _ _ _ _).mono ?_; rintro e w9 ⟨p9, rfl, hb9⟩; have B9 := Aside0.mk (B7.out.trans (hb9.mono B7.out.size)); clear hb9)))
        go_ret2
        have hv : pfV true false false ru (readS t) x = (0, true) := by rw [HRD.out]; rfl
        rw [hv]
        exact ⟨_, rfl, (fun h => by cases h), fun _ => ⟨_, rfl⟩, B9.out⟩
      case some =>
        have HRD := Aside0.mk hrd
        cases ru
        case false =>
          go_wp2_with (first | (go_at_call 20; with_reducible refine (HI.out _).mono ?_; rintro e w5 ⟨rfl, hd5⟩; have B5 := Aside0.mk (drawn_below B4.out hd5); have X5 := Aside0.mk (blk_below X4.out (drawn_below (Below.refl _ _) hd5)); have c5 := box_of X5.out; obtain ⟨c50, c51, c52⟩ := c5; clear hd5) | (go_at_call 20; with_reducible refine (H8.out _).mono ?_; rintro e w6 ⟨rfl, hd6⟩; have B6 := Aside0.mk (drawn_below B5.out hd6); have X6 := Aside0.mk (blk_below X5.out (drawn_below (Below.refl _ _) hd6)); have c6 := box_of X6.out; obtain ⟨c60, c61, c62⟩ := c6; clear hd6) | (go_at_call 25; go_loud (refine (read_any t _ HS.out).mono ?_; rintro e w7 ⟨hno, hyes⟩; obtain ⟨D7, rfl, hd7⟩ := hyes c HRD.out; have B7 := Aside0.mk (show Below w.heap.size w w7 from (by obtain ⟨_, h⟩ := hd7; exact B6.out.trans (h.2.2.1.1.mono B6.out.size))); clear hno hyes hd7)) | (go_at_call 26; go_loud (refine (HU.out _).mono ?_; rintro e w8 ⟨rfl, hd8⟩; have B8 := Aside0.mk (drawn_below B7.out hd8); clear hd8)) | (go_at_call 27; go_loud (refine (fail_ _ _ _ _).mono ?_; rintro e w9 ⟨p9, rfl, hb9⟩; have B9 := Aside0.mk (B8.out.trans (hb9.mono B8.out.size)); clear hb9)))
          go_ret2
          have hv : pfV true false false false (readS t) x = (0, true) := by rw [HRD.out]; rfl
          rw [hv]
          exact ⟨_, rfl, (fun h => by cases h), fun _ => ⟨_, rfl⟩, B9.out⟩
        case true =>
          go_upto_region 17 with (first | (go_at_call 20; with_reducible refine (HI.out _).mono ?_; rintro e w5 ⟨rfl, hd5⟩; have B5 := Aside0.mk (drawn_below B4.out hd5); have X5 := Aside0.mk (blk_below X4.out (drawn_below (Below.refl _ _) hd5)); have c5 := box_of X5.out; obtain ⟨c50, c51, c52⟩ := c5; clear hd5) | (go_at_call 20; with_reducible refine (H8.out _).mono ?_; rintro e w6 ⟨rfl, hd6⟩; have B6 := Aside0.mk (drawn_below B5.out hd6); have X6 := Aside0.mk (blk_below X5.out (drawn_below (Below.refl _ _) hd6)); have c6 := box_of X6.out; obtain ⟨c60, c61, c62⟩ := c6; clear hd6) | (go_at_call 25; go_loud (refine (read_any t _ HS.out).mono ?_; rintro e w7 ⟨hno, hyes⟩; obtain ⟨D7, rfl, hd7⟩ := hyes c HRD.out; have B67 := Aside0.mk (show Below w6.heap.size w6 w7 from (by obtain ⟨_, h⟩ := hd7; exact h.2.2.1.1)); have BD7 := Aside0.mk (show w6.heap.size ≤ D7 from (by obtain ⟨_, h⟩ := hd7; exact h.2.2.2.1)); have B7 := Aside0.mk (B6.out.trans (B67.out.mono B6.out.size)); have X7 := Aside0.mk (blk_below X6.out B67.out); have HD7 := Aside0.mk (show DecN w7 w6.heap.size w7 D7 c from (by obtain ⟨v, h⟩ := hd7; exact ⟨v, h.base⟩)); clear hno hyes hd7)) | (go_at_call 26; go_loud (refine (HU.out _).mono ?_; rintro e w8 ⟨rfl, nd, rfl⟩)))
          have B8 := Aside0.mk (pw_below_drewN B7.out nd)
          have X8 := Aside0.mk (show (w7.drewN nd).heap[X]? = _ from X7.out)
          have HD8 := Aside0.mk (show DecN (w7.drewN nd) w6.heap.size (w7.drewN nd) D7 c from (by obtain ⟨v, h⟩ := HD7.out; exact ⟨v, (h.drewN nd).base⟩))
          have XD := Aside0.mk (show X ≠ D7 by have := BD7.out; have := blk_lt X6.out; omega)
          have B06 := Aside0.mk B6.out.size
          clear c40 c41 c42 c50 c51 c52 c60 c61 c62 B7 X7 HD7 B67
          generalize w7.drewN nd = w8 at B8 X8 HD8 ⊢
          obtain ⟨c80, c81, c82⟩ := box_of X8.out
          obtain ⟨xv, xb⟩ := x
          go_upto_region 18 with ((go_at_call 28; go_loud (refine (HBT.out c HRD.out w8 _ w6.heap.size D7 HD8.out).mono ?_; rintro e w9 ⟨rfl, hk9⟩; have B9 := Aside0.mk (B8.out.trans (hk9.1.mono B06.out)); have X9 := Aside0.mk ((hk9.2 X (blk_lt X8.out) XD.out).trans X8.out); clear hk9)))
          clear c80 c81 c82
          obtain ⟨c90, c91, c92⟩ := box_of X9.out
          cases xb
          case true =>
            go_wp2_with (first | (go_at_call 24; go_loud (refine (float_ _ _).mono ?_; rintro e wa ⟨rfl, hba⟩; have BA := Aside0.mk (B9.out.trans (hba.mono B9.out.size)); clear hba)) | (go_at_call 27; go_loud (refine (fail_ _ _ _ _).mono ?_; rintro e wb ⟨pb, rfl, hbb⟩; have BB := Aside0.mk (BA.out.trans (hbb.mono BA.out.size)); clear hbb)))
            go_ret2
            have hv : pfV true false false true (readS t) (xv, true) = ((bits .or .u64 (sgn true) xv).toNat, true) := by rw [HRD.out]; rfl
            rw [hv]
            exact ⟨_, rfl, (fun h => by cases h), fun _ => ⟨_, rfl⟩, BB.out⟩
          case false =>
            go_wp2_with ((go_at_call 24; go_loud (refine (float_ _ _).mono ?_; rintro e wa ⟨rfl, hba⟩; have BA := Aside0.mk (B9.out.trans (hba.mono B9.out.size)); clear hba)))
            go_ret2
            have hv : pfV true false false true (readS t) (xv, false) = ((bits .or .u64 (sgn true) xv).toNat, false) := by rw [HRD.out]; rfl
            rw [hv]
            exact ⟨_, rfl, fun _ => rfl, (fun h => by cases h), BA.out⟩
end Go.Proofs.YtnmochachiieaaaDoor.Hand
