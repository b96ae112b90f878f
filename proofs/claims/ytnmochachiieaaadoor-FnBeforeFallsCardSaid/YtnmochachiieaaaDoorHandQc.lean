/- What ParseFloat answers depends on the text alone: joined. Floats turned: how y stands to x, of how x stands to y. Two cells by a rule: less, in its modes 0, 4, 2 and 6. Two floats by a rule: lessNumericVal, in its modes 2 and 6. Two cells by a rule, as numbers: lessNumeric; of what ParseFloat and lessNumericVal answer. Two cells by a rule: less, of what lessAlphabetic and lessNumeric answer; ZzLess; impl.Before. impl.Before: how two cells of at most 400 bytes stand, in modes 0, 4, 2 and 6, depends on their texts alone. -/
import Derived.Test.YtnmochachiieaaaDoorHandPt
import Derived.Test.YtnmochachiieaaaDoorHandPd
namespace Go.Proofs.YtnmochachiieaaaDoor.Hand
section
open Go.RowKit Go.Proofs.YtnmochachiieaaaDoorW.PrintWords Go.Proofs.YtnmochachiieaaaDoorW.PrintLast Go.Proofs.YtnmochachiieaaaDoorW.PrintMore Go.Proofs.YtnmochachiieaaaDoor.Base
open Go.Proofs.YtnmochachiieaaaDoor.Pf Go.Proofs.YtnmochachiieaaaDoor.PFnBeforeFalls
theorem bits_opt (t : ByteArray) (ht : t.size ≤ 1000) : ∃ x : Int × Bool, ∀ c, readS t = some c → ∀ (w0 w : World) (B D : Nat), DecN w0 B w D c → Calls Tryd.prog 28 #[.pointer (some ⟨D, 0, none⟩), .agg #[.int .i64 52, .int .i64 11, .int .i64 (-1023)]] w fun e w' => e = .returned (.tuple #[.int .u64 x.1, .bool x.2]) ∧ Kp w0 B D w' := by
  rcases h : readS t with _ | c
  · exact ⟨(0, false), fun c hc => by cases hc⟩
  · obtain ⟨h1, h2⟩ := readS_fit ht h
    obtain ⟨x, hx⟩ := bits_ c h1 h2
    exact ⟨x, fun c' hc => by cases hc; exact hx⟩
theorem pf_any (s : ByteArray) (hs : s.size ≤ 400) : ∃ (x : Nat) (bad : Bool), ∀ w, Calls Tryd.prog 12 #[.string s, .int .i64 64] w (PfRes x bad w) := by
  obtain ⟨rn, hn⟩ := fold_any s ⟨#[110, 97, 110]⟩ (by omega)
  cases rn
  case true => exact ⟨_, _, fun w => pfNan s w hn⟩
  case false =>
    obtain ⟨ru, hu⟩ := und_any s (by omega)
    have go : ∀ t : ByteArray, t.size ≤ 1000 → ∃ ri r8 x, _ := fun t ht => by
      obtain ⟨ri, hi⟩ := fold_any t ⟨#[105, 110, 102]⟩ (by omega)
      obtain ⟨r8, h8⟩ := fold_any t ⟨#[105, 110, 102, 105, 110, 105, 116, 121]⟩ (by omega)
      obtain ⟨x, hx⟩ := bits_opt t ht
      exact ⟨ri, r8, x, And.intro hi (And.intro h8 hx)⟩
    rcases Nat.eq_zero_or_pos s.size with h0 | h0
    · obtain ⟨ri, r8, x, hi, h8, hx⟩ := go s (by omega)
      exact ⟨_, _, fun w => pfE s s w (by omega) h0 rfl ri r8 ru x hn hi h8 hu hx⟩
    · obtain ⟨q, hq, _⟩ := byte_at (s := s) (i := 0) h0
      have hsz : (s.extract 1 s.size).size ≤ 1000 := by rw [ByteArray.size_extract]; omega
      by_cases h43 : q.toNat = 43
      · obtain ⟨ri, r8, x, hi, h8, hx⟩ := go (s.extract 1 s.size) hsz
        exact ⟨_, _, fun w => pfP s _ w hsz h0 rfl (fun q' hq' => by rw [hq] at hq'; cases hq'; exact h43) ri r8 ru x hn hi h8 hu hx⟩
      · by_cases h45 : q.toNat = 45
        · obtain ⟨ri, r8, x, hi, h8, hx⟩ := go (s.extract 1 s.size) hsz
          exact ⟨_, _, fun w => pfM s _ w hsz h0 rfl (fun q' hq' => by rw [hq] at hq'; cases hq'; exact h45) ri r8 ru x hn hi h8 hu hx⟩
        · obtain ⟨ri, r8, x, hi, h8, hx⟩ := go s (by omega)
          exact ⟨_, _, fun w => pfO s s w (by omega) h0 rfl (fun q' hq' => by rw [hq] at hq'; cases hq'; exact ⟨h43, h45⟩) ri r8 ru x hn hi h8 hu hx⟩
end

section
theorem order_turn (x y : Nat) : FloatKind.f64.format.order y x = (FloatKind.f64.format.order x y).map Ordering.swap := by
  unfold Ieee.Format.order
  generalize FloatKind.f64.format.read x = a
  generalize FloatKind.f64.format.read y = b
  cases a <;> cases b <;> simp only [Ieee.Datum.order, Option.map_none, Option.map_some, Option.some.injEq]
  all_goals first
    | rfl
    | (rename_i s t; cases s <;> cases t <;> rfl)
    | (rename_i s m i t; cases t <;> rfl)
    | (rename_i s t m i; cases s <;> rfl)
    | (rename_i s m i t n j; rw [Int.min_comm]; exact (Std.OrientedCmp.eq_swap ..))
    | skip
theorem order_eq (x y : Nat) : (FloatKind.f64.format.order y x == some .eq) = (FloatKind.f64.format.order x y == some .eq) := by
  rw [order_turn x y]
  rcases FloatKind.f64.format.order x y with _ | o
  · rfl
  · cases o <;> rfl
theorem order_gt (x y : Nat) : (FloatKind.f64.format.order y x == some .gt) = (FloatKind.f64.format.order x y == some .lt) := by
  rw [order_turn x y]
  rcases FloatKind.f64.format.order x y with _ | o
  · rfl
  · cases o <;> rfl
end

section
open Go.RowKit Go.Proofs.YtnmochachiieaaaDoorW.PrintWords Go.Proofs.YtnmochachiieaaaDoorW.PrintLast Go.Proofs.YtnmochachiieaaaDoorW.PrintMore Go.Proofs.YtnmochachiieaaaDoor.Base
set_option linter.unusedVariables false
set_option linter.unusedSimpArgs false
theorem bytes_gt : ∀ a b : List UInt8, (!Op.bytesLess a b && !a == b) = Op.bytesLess b a
  | [], [] => rfl
  | [], _ :: _ => rfl
  | _ :: _, [] => rfl
  | x :: a, y :: b => by
    have ih := bytes_gt a b
    simp only [Op.bytesLess]
    rcases Nat.lt_trichotomy x.toNat y.toNat with h | h | h
    · have h1 : x < y := h
      have h2 : ¬ y < x := by intro h3; have : y.toNat < x.toNat := h3; omega
      have h3 : ¬ y = x := by intro h3; rw [h3] at h; omega
      simp [h1, h2, h3]
    · have e : x = y := UInt8.toNat_inj.1 h
      subst e
      have h2 : ¬ x < x := by intro h3; have : x.toNat < x.toNat := h3; omega
      simpa [h2] using ih
    · have h1 : y < x := h
      have h2 : ¬ x < y := by intro h3; have : x.toNat < y.toNat := h3; omega
      have h3 : ¬ x = y := by intro h3; rw [h3] at h; omega
      simp [h1, h2, h3]
theorem str_gtr (a b : ByteArray) (w : World) : (binOp .gtr 9 (.string a) (.string b)).run Tryd.prog w = .ok (.bool (Op.bytesLess b.toList a.toList)) w := by
  simp [binOp, Op.stringOp, Sem.run_pure]
  exact bytes_gt _ _
set_option maxHeartbeats 4000000 in
set_option maxRecDepth 100000 in
theorem alphaUp_ (a b : ByteArray) (w : World) : Calls Tryd.prog 8 #[.string a, .string b, .agg #[.string ⟨#[]⟩, .int .i64 0, .int .i64 0, .bool false, .nilFunc]] w fun e w' => e = .returned (.tuple #[.bool false, .bool (Op.bytesLess a.toList b.toList)]) ∧ Below w.heap.size w w' := by
  have HB := Aside0.mk (below_alloc (Below.refl w.heap.size w) (.cells #[.string ⟨#[]⟩, .int .i64 0, .int .i64 0, .bool false, .nilFunc] 30 (0, 0)))
  go_enter Tryd.func8, Tryd.ntmps8
  go_wp2
  go_ret2
  exact ⟨rfl, HB.out⟩
set_option maxHeartbeats 4000000 in
set_option maxRecDepth 100000 in
theorem alphaDn_ (a b : ByteArray) (w : World) : Calls Tryd.prog 8 #[.string a, .string b, .agg #[.string ⟨#[]⟩, .int .i64 0, .int .i64 4, .bool false, .nilFunc]] w fun e w' => e = .returned (.tuple #[.bool false, .bool (Op.bytesLess b.toList a.toList)]) ∧ Below w.heap.size w w' := by
  have HB := Aside0.mk (below_alloc (Below.refl w.heap.size w) (.cells #[.string ⟨#[]⟩, .int .i64 0, .int .i64 4, .bool false, .nilFunc] 30 (0, 0)))
  have hg := str_gtr a b
  go_enter Tryd.func8, Tryd.ntmps8
  go_wp2
  go_ret2
  exact ⟨rfl, HB.out⟩
end

section
open Go.RowKit Go.Proofs.YtnmochachiieaaaDoorW.PrintWords Go.Proofs.YtnmochachiieaaaDoorW.PrintLast Go.Proofs.YtnmochachiieaaaDoorW.PrintMore Go.Proofs.YtnmochachiieaaaDoor.Base
set_option linter.unusedVariables false
set_option linter.unusedSimpArgs false
theorem fl_eql (x y : Nat) (w : World) : (binOp .eql 32 (.float .f64 x) (.float .f64 y)).run Tryd.prog w = .ok (.bool (FloatKind.f64.format.order x y == some .eq)) w := by
  simp [binOp, Op.floatCmp, Sem.run_pure]
theorem fl_lss (x y : Nat) (w : World) : (binOp .lss 32 (.float .f64 x) (.float .f64 y)).run Tryd.prog w = .ok (.bool (FloatKind.f64.format.order x y == some .lt)) w := by
  simp [binOp, Op.floatCmp, Sem.run_pure]
theorem fl_gtr (x y : Nat) (w : World) : (binOp .gtr 32 (.float .f64 x) (.float .f64 y)).run Tryd.prog w = .ok (.bool (FloatKind.f64.format.order x y == some .gt)) w := by
  simp [binOp, Op.floatCmp, Sem.run_pure]
set_option maxHeartbeats 4000000 in
set_option maxRecDepth 100000 in
theorem num2_ (x y : Nat) (w : World) : Calls Tryd.prog 13 #[.float .f64 x, .float .f64 y, .agg #[.string ⟨#[]⟩, .int .i64 0, .int .i64 2, .bool false, .nilFunc]] w fun e w' => e = .returned (.tuple #[.bool (FloatKind.f64.format.order x y == some .eq), .bool (!(FloatKind.f64.format.order x y == some .eq) && (FloatKind.f64.format.order x y == some .lt))]) ∧ Below w.heap.size w w' := by
  have HB := Aside0.mk (below_alloc (Below.refl w.heap.size w) (.cells #[.string ⟨#[]⟩, .int .i64 0, .int .i64 2, .bool false, .nilFunc] 30 (0, 0)))
  have h1 := fl_eql x y
  have h2 := fl_lss x y
  have h3 := fl_gtr x y
  rcases hb : (FloatKind.f64.format.order x y == some .eq) with _ | _
  all_goals
    rw [hb] at h1
    clear hb
    go_enter Tryd.func13, Tryd.ntmps13
    go_wp2
    go_ret2
    exact ⟨rfl, HB.out⟩
set_option maxHeartbeats 4000000 in
set_option maxRecDepth 100000 in
theorem num6_ (x y : Nat) (w : World) : Calls Tryd.prog 13 #[.float .f64 x, .float .f64 y, .agg #[.string ⟨#[]⟩, .int .i64 0, .int .i64 6, .bool false, .nilFunc]] w fun e w' => e = .returned (.tuple #[.bool (FloatKind.f64.format.order x y == some .eq), .bool (!(FloatKind.f64.format.order x y == some .eq) && (FloatKind.f64.format.order x y == some .gt))]) ∧ Below w.heap.size w w' := by
  have HB := Aside0.mk (below_alloc (Below.refl w.heap.size w) (.cells #[.string ⟨#[]⟩, .int .i64 0, .int .i64 6, .bool false, .nilFunc] 30 (0, 0)))
  have h1 := fl_eql x y
  have h2 := fl_lss x y
  have h3 := fl_gtr x y
  rcases hb : (FloatKind.f64.format.order x y == some .eq) with _ | _
  all_goals
    rw [hb] at h1
    clear hb
    go_enter Tryd.func13, Tryd.ntmps13
    go_wp2
    go_ret2
    exact ⟨rfl, HB.out⟩
end

section
open Go.RowKit Go.Proofs.YtnmochachiieaaaDoorW.PrintWords Go.Proofs.YtnmochachiieaaaDoorW.PrintLast Go.Proofs.YtnmochachiieaaaDoorW.PrintMore Go.Proofs.YtnmochachiieaaaDoor.Base
set_option linter.unusedVariables false
set_option linter.unusedSimpArgs false
theorem nil_ne (w : World) : (binOp .neq 34 .nilIface .nilIface).run Tryd.prog w = .ok (.bool false) w := by kernel_rfl
theorem err_ne (p : Addr) (w : World) : (binOp .neq 34 (.iface 80 (.pointer (some p))) .nilIface).run Tryd.prog w = .ok (.bool true) w := by
  first | rfl | kernel_rfl | simp [binOp, Sem.run_pure]
theorem rule_of {W : World} {X : Nat} {m : Int} (h : W.heap[X]? = some (.cells #[.string ⟨#[]⟩, .int .i64 0, .int .i64 m, .bool false, .nilFunc] 30 (0, 0))) : W.cell? ⟨X, 0, none⟩ = some (.string ⟨#[]⟩) ∧ W.cell? ⟨X, 1, none⟩ = some (.int .i64 0) ∧ W.cell? ⟨X, 2, none⟩ = some (.int .i64 m) ∧ W.cell? ⟨X, 3, none⟩ = some (.bool false) ∧ W.cell? ⟨X, 4, none⟩ = some .nilFunc :=
  ⟨by rw [blk_cell h]; rfl, by rw [blk_cell h]; rfl, by rw [blk_cell h]; rfl, by rw [blk_cell h]; rfl, by rw [blk_cell h]; rfl⟩
set_option maxHeartbeats 4000000 in
set_option maxRecDepth 100000 in
theorem lessNum_ (a b : ByteArray) (xa xb : Nat) (ba bb : Bool) (m : Int) (e l : Bool)
    (hA : ∀ w, Calls Tryd.prog 12 #[.string a, .int .i64 64] w fun e w' => ∃ v, e = .returned (.tuple #[.float .f64 xa, v]) ∧ (ba = false → v = .nilIface) ∧ (ba = true → ∃ p, v = .iface 80 (.pointer (some p))) ∧ Below w.heap.size w w')
    (hB : ∀ w, Calls Tryd.prog 12 #[.string b, .int .i64 64] w fun e w' => ∃ v, e = .returned (.tuple #[.float .f64 xb, v]) ∧ (bb = false → v = .nilIface) ∧ (bb = true → ∃ p, v = .iface 80 (.pointer (some p))) ∧ Below w.heap.size w w')
    (hV : ∀ w, Calls Tryd.prog 13 #[.float .f64 xa, .float .f64 xb, .agg #[.string ⟨#[]⟩, .int .i64 0, .int .i64 m, .bool false, .nilFunc]] w fun r w' => r = .returned (.tuple #[.bool e, .bool l]) ∧ Below w.heap.size w w') (w : World) :
    Calls Tryd.prog 9 #[.string a, .string b, .agg #[.string ⟨#[]⟩, .int .i64 0, .int .i64 m, .bool false, .nilFunc]] w fun r w' => r = .returned (.tuple #[.bool (!(ba || bb) && e), .bool (!(ba || bb) && l)]) ∧ Below w.heap.size w w' := by
  have HA := Aside0.mk hA
  have HB := Aside0.mk hB
  have HV := Aside0.mk hV
  clear hA hB hV
  have B1 := Aside0.mk (below_alloc (Below.refl w.heap.size w) (.cells #[.string ⟨#[]⟩, .int .i64 0, .int .i64 m, .bool false, .nilFunc] 30 (0, 0)))
  have X1 := Aside0.mk (blk_new w (.cells #[.string ⟨#[]⟩, .int .i64 0, .int .i64 m, .bool false, .nilFunc] 30 (0, 0)))
  go_enter Tryd.func9, Tryd.ntmps9
  go_upto_region 1 with (fail)
  obtain ⟨X, hX⟩ : ∃ X, X = w.heap.size := ⟨_, rfl⟩
  rw [← hX] at X1
  simp only [← hX]
  clear hX
  generalize w.alloc _ = w1 at B1 X1 ⊢
  go_upto_region 2 with (go_at_call 12; with_reducible refine (HA.out _).mono ?_; rintro e2 w2 ⟨va, rfl, ha1, ha2, hb2⟩; have B2 := Aside0.mk (B1.out.trans (hb2.mono B1.out.size)); have X2 := Aside0.mk (blk_below X1.out hb2); have A1 := Aside0.mk ha1; have A2 := Aside0.mk ha2; clear hb2 ha1 ha2)
  go_upto_region 3 with (go_at_call 12; with_reducible refine (HB.out _).mono ?_; rintro e3 w3 ⟨vb, rfl, ha1, ha2, hb2⟩; have B3 := Aside0.mk (B2.out.trans (hb2.mono B2.out.size)); have X3 := Aside0.mk (blk_below X2.out hb2); have A3 := Aside0.mk ha1; have A4 := Aside0.mk ha2; clear hb2 ha1 ha2)
  have h0 := nil_ne
  have h1 := err_ne
  obtain ⟨c0, c1, c2, c3, c4⟩ := rule_of X3.out
  cases ba
  case true =>
    obtain ⟨p, rfl⟩ := A2.out rfl
    go_wp2
    go_ret2
    exact ⟨rfl, B3.out⟩
  case false =>
    obtain rfl := A1.out rfl
    cases bb
    case true =>
      obtain ⟨p, rfl⟩ := A4.out rfl
      go_wp2
      go_ret2
      exact ⟨rfl, B3.out⟩
    case false =>
      obtain rfl := A3.out rfl
      go_wp2_with (go_at_call 13; with_reducible refine (HV.out _).mono ?_; rintro e4 w4 ⟨rfl, hb2⟩; have B4 := Aside0.mk (B3.out.trans (hb2.mono B3.out.size)); clear hb2)
      go_ret2
      exact ⟨rfl, B4.out⟩
end

section
open Go.RowKit Go.Proofs.YtnmochachiieaaaDoorW.PrintWords Go.Proofs.YtnmochachiieaaaDoorW.PrintLast Go.Proofs.YtnmochachiieaaaDoorW.PrintMore Go.Proofs.YtnmochachiieaaaDoor.Base
set_option linter.unusedVariables false
set_option linter.unusedSimpArgs false
theorem fn_nil (w : World) : (binOp .neq 28 .nilFunc .nilFunc).run Tryd.prog w = .ok (.bool false) w := by kernel_rfl
set_option maxHeartbeats 4000000 in
set_option maxRecDepth 100000 in
theorem lessA_ (a b : ByteArray) (m : Int) (hm : m = 0 ∨ m = 4) (q e l : Bool) (hq : (a.toList == b.toList) = q)
    (hX : ∀ w, Calls Tryd.prog 8 #[.string a, .string b, .agg #[.string ⟨#[]⟩, .int .i64 0, .int .i64 m, .bool false, .nilFunc]] w fun r w' => r = .returned (.tuple #[.bool e, .bool l]) ∧ Below w.heap.size w w') (w : World) :
    Calls Tryd.prog 7 #[.string a, .string b, .agg #[.string ⟨#[]⟩, .int .i64 0, .int .i64 m, .bool false, .nilFunc]] w fun r w' => r = .returned (.tuple #[.bool (q || e), .bool (!q && l)]) ∧ Below w.heap.size w w' := by
  have HX := Aside0.mk hX
  clear hX
  have B1 := Aside0.mk (below_alloc (Below.refl w.heap.size w) (.cells #[.string ⟨#[]⟩, .int .i64 0, .int .i64 m, .bool false, .nilFunc] 30 (0, 0)))
  have X1 := Aside0.mk (blk_new w (.cells #[.string ⟨#[]⟩, .int .i64 0, .int .i64 m, .bool false, .nilFunc] 30 (0, 0)))
  have hf := fn_nil
  go_enter Tryd.func7, Tryd.ntmps7
  go_upto_region 1 with (fail)
  obtain ⟨X, hXX⟩ : ∃ X, X = w.heap.size := ⟨_, rfl⟩
  rw [← hXX] at X1
  simp only [← hXX]
  clear hXX
  generalize w.alloc _ = w1 at B1 X1 ⊢
  obtain ⟨c0, c1, c2, c3, c4⟩ := rule_of X1.out
  cases q
  case true =>
    go_wp2
    go_ret2
    exact ⟨rfl, B1.out⟩
  case false =>
    rcases hm with rfl | rfl
    all_goals
      go_wp2_with (go_at_call 8; with_reducible refine (HX.out _).mono ?_; rintro e4 w4 ⟨rfl, hb2⟩; have B4 := Aside0.mk (B1.out.trans (hb2.mono B1.out.size)); clear hb2)
      go_ret2
      exact ⟨rfl, B4.out⟩
set_option maxHeartbeats 4000000 in
set_option maxRecDepth 100000 in
theorem lessN_ (a b : ByteArray) (m : Int) (hm : m = 2 ∨ m = 6) (q e l : Bool) (hq : (a.toList == b.toList) = q)
    (hX : ∀ w, Calls Tryd.prog 9 #[.string a, .string b, .agg #[.string ⟨#[]⟩, .int .i64 0, .int .i64 m, .bool false, .nilFunc]] w fun r w' => r = .returned (.tuple #[.bool e, .bool l]) ∧ Below w.heap.size w w') (w : World) :
    Calls Tryd.prog 7 #[.string a, .string b, .agg #[.string ⟨#[]⟩, .int .i64 0, .int .i64 m, .bool false, .nilFunc]] w fun r w' => r = .returned (.tuple #[.bool (q || e), .bool (!q && l)]) ∧ Below w.heap.size w w' := by
  have HX := Aside0.mk hX
  clear hX
  have B1 := Aside0.mk (below_alloc (Below.refl w.heap.size w) (.cells #[.string ⟨#[]⟩, .int .i64 0, .int .i64 m, .bool false, .nilFunc] 30 (0, 0)))
  have X1 := Aside0.mk (blk_new w (.cells #[.string ⟨#[]⟩, .int .i64 0, .int .i64 m, .bool false, .nilFunc] 30 (0, 0)))
  have hf := fn_nil
  go_enter Tryd.func7, Tryd.ntmps7
  go_upto_region 1 with (fail)
  obtain ⟨X, hXX⟩ : ∃ X, X = w.heap.size := ⟨_, rfl⟩
  rw [← hXX] at X1
  simp only [← hXX]
  clear hXX
  generalize w.alloc _ = w1 at B1 X1 ⊢
  obtain ⟨c0, c1, c2, c3, c4⟩ := rule_of X1.out
  cases q
  case true =>
    go_wp2
    go_ret2
    exact ⟨rfl, B1.out⟩
  case false =>
    rcases hm with rfl | rfl
    all_goals
      go_wp2_with (go_at_call 9; with_reducible refine (HX.out _).mono ?_; rintro e4 w4 ⟨rfl, hb2⟩; have B4 := Aside0.mk (B1.out.trans (hb2.mono B1.out.size)); clear hb2)
      go_ret2
      exact ⟨rfl, B4.out⟩
set_option maxHeartbeats 4000000 in
set_option maxRecDepth 100000 in
theorem zzLess_ (a b : ByteArray) (m : Int) (e l : Bool)
    (hX : ∀ w, Calls Tryd.prog 7 #[.string a, .string b, .agg #[.string ⟨#[]⟩, .int .i64 0, .int .i64 m, .bool false, .nilFunc]] w fun r w' => r = .returned (.tuple #[.bool e, .bool l]) ∧ Below w.heap.size w w') (w : World) :
    Calls Tryd.prog 6 #[.string a, .string b, .agg #[.string ⟨#[]⟩, .int .i64 0, .int .i64 m, .bool false, .nilFunc]] w fun r w' => r = .returned (.tuple #[.bool e, .bool l]) ∧ Below w.heap.size w w' := by
  have HX := Aside0.mk hX
  clear hX
  have B1 := Aside0.mk (below_alloc (Below.refl w.heap.size w) (.cells #[.string ⟨#[]⟩, .int .i64 0, .int .i64 m, .bool false, .nilFunc] 30 (0, 0)))
  have X1 := Aside0.mk (blk_new w (.cells #[.string ⟨#[]⟩, .int .i64 0, .int .i64 m, .bool false, .nilFunc] 30 (0, 0)))
  go_enter Tryd.func6, Tryd.ntmps6
  go_upto_region 1 with (fail)
  obtain ⟨X, hXX⟩ : ∃ X, X = w.heap.size := ⟨_, rfl⟩
  rw [← hXX] at X1
  simp only [← hXX]
  clear hXX
  generalize w.alloc _ = w1 at B1 X1 ⊢
  obtain ⟨c0, c1, c2, c3, c4⟩ := rule_of X1.out
  go_wp2_with (go_at_call 7; with_reducible refine (HX.out _).mono ?_; rintro e4 w4 ⟨rfl, hb2⟩; have B4 := Aside0.mk (B1.out.trans (hb2.mono B1.out.size)); clear hb2)
  go_ret2
  exact ⟨rfl, B4.out⟩
set_option maxHeartbeats 4000000 in
set_option maxRecDepth 100000 in
theorem before_ (a b : ByteArray) (m : Int) (e l : Bool)
    (hX : ∀ w, Calls Tryd.prog 7 #[.string a, .string b, .agg #[.string ⟨#[]⟩, .int .i64 0, .int .i64 m, .bool false, .nilFunc]] w fun r w' => r = .returned (.tuple #[.bool e, .bool l]) ∧ Below w.heap.size w w') (w : World) :
    Calls Tryd.prog 4 #[.string a, .string b, .int .i64 m, .bool false] w fun r w' => r = .returned (.tuple #[.bool e, .bool l]) ∧ Below w.heap.size w w' := by
  have HX := Aside0.mk (zzLess_ a b m e l hX)
  clear hX
  go_enter Tryd.func4, Tryd.ntmps4
  go_wp2_with (go_at_call 6; with_reducible refine (HX.out _).mono ?_; rintro e4 w4 ⟨rfl, hb2⟩; have B4 := Aside0.mk hb2; clear hb2)
  go_ret2
  exact ⟨rfl, B4.out⟩
end

section
open Go.RowKit Go.Proofs.YtnmochachiieaaaDoorW.PrintWords Go.Proofs.YtnmochachiieaaaDoorW.PrintLast Go.Proofs.YtnmochachiieaaaDoorW.PrintMore Go.Proofs.YtnmochachiieaaaDoor.Base
set_option linter.unusedVariables false
set_option linter.unusedSimpArgs false
/-- What a text is as a number: the float's bits, and whether it is none. -/
noncomputable def numOf (s : ByteArray) : Nat × Bool :=
  if h : s.size ≤ 400 then (Classical.choose (pf_any s h), Classical.choose (Classical.choose_spec (pf_any s h))) else (0, true)
theorem numOf_calls (s : ByteArray) (hs : s.size ≤ 400) (w : World) :
    Calls Tryd.prog 12 #[.string s, .int .i64 64] w fun e w' => ∃ v, e = .returned (.tuple #[.float .f64 (numOf s).1, v]) ∧ ((numOf s).2 = false → v = .nilIface) ∧ ((numOf s).2 = true → ∃ p, v = .iface 80 (.pointer (some p))) ∧ Below w.heap.size w w' := by
  have h := Classical.choose_spec (Classical.choose_spec (pf_any s hs))
  have e : numOf s = (Classical.choose (pf_any s hs), Classical.choose (Classical.choose_spec (pf_any s hs))) := by unfold numOf; rw [dif_pos hs]
  rw [e]
  exact h w
noncomputable def numEq (a b : ByteArray) : Bool := !((numOf a).2 || (numOf b).2) && (FloatKind.f64.format.order (numOf a).1 (numOf b).1 == some .eq)
noncomputable def numLt (a b : ByteArray) (o : Ordering) : Bool := !((numOf a).2 || (numOf b).2) && (!(FloatKind.f64.format.order (numOf a).1 (numOf b).1 == some .eq) && (FloatKind.f64.format.order (numOf a).1 (numOf b).1 == some o))
/-- How two cells stand: whether they are equal, whether the first comes ahead. -/
noncomputable def befOf (a b : ByteArray) (m : Int) : Bool × Bool :=
  if m = 0 then ((a.toList == b.toList) || false, !(a.toList == b.toList) && Op.bytesLess a.toList b.toList)
  else if m = 4 then ((a.toList == b.toList) || false, !(a.toList == b.toList) && Op.bytesLess b.toList a.toList)
  else if m = 2 then ((a.toList == b.toList) || numEq a b, !(a.toList == b.toList) && numLt a b .lt)
  else ((a.toList == b.toList) || numEq a b, !(a.toList == b.toList) && numLt a b .gt)
noncomputable def impl_Before.f (a b : ByteArray) (m : Int) (fold : Bool) : Option (Bool × Bool) :=
  if a.size ≤ 400 ∧ b.size ≤ 400 ∧ fold = false ∧ (m = 0 ∨ m = 4 ∨ m = 2 ∨ m = 6) then some (befOf a b m) else none
theorem impl_Before.calls (a0 a1 : ByteArray) (a2 : Int) (a3 : Bool) (r1 r2 : Bool) (w : World) (h : impl_Before.f a0 a1 a2 a3 = some (r1, r2)) :
    Calls Tryd.prog 4 #[.string a0, .string a1, .int .i64 a2, .bool a3] w fun e w' => e = .returned (.tuple #[.bool r1, .bool r2]) ∧ Below w.heap.size w w' := by
  unfold impl_Before.f at h
  split at h
  case isFalse => cases h
  rename_i hc
  obtain ⟨h0, h1, rfl, hm⟩ := hc
  have h := Option.some.inj h
  rcases hm with rfl | rfl | rfl | rfl
  · have e : befOf a0 a1 0 = ((a0.toList == a1.toList) || false, !(a0.toList == a1.toList) && Op.bytesLess a0.toList a1.toList) := if_pos rfl
    rw [e] at h
    obtain ⟨rfl, rfl⟩ := Prod.mk.inj h
    exact before_ a0 a1 0 _ _ (fun w => lessA_ a0 a1 0 (Or.inl rfl) _ _ _ rfl (fun w => alphaUp_ a0 a1 w) w) w
  · have e : befOf a0 a1 4 = ((a0.toList == a1.toList) || false, !(a0.toList == a1.toList) && Op.bytesLess a1.toList a0.toList) := (if_neg (by decide)).trans (if_pos rfl)
    rw [e] at h
    obtain ⟨rfl, rfl⟩ := Prod.mk.inj h
    exact before_ a0 a1 4 _ _ (fun w => lessA_ a0 a1 4 (Or.inr rfl) _ _ _ rfl (fun w => alphaDn_ a0 a1 w) w) w
  · have e : befOf a0 a1 2 = ((a0.toList == a1.toList) || numEq a0 a1, !(a0.toList == a1.toList) && numLt a0 a1 .lt) := (if_neg (by decide)).trans ((if_neg (by decide)).trans (if_pos rfl))
    rw [e] at h
    obtain ⟨rfl, rfl⟩ := Prod.mk.inj h
    exact before_ a0 a1 2 _ _ (fun w => lessN_ a0 a1 2 (Or.inl rfl) _ _ _ rfl (fun w => lessNum_ a0 a1 _ _ _ _ 2 _ _ (numOf_calls a0 h0) (numOf_calls a1 h1) (num2_ _ _) w) w) w
  · have e : befOf a0 a1 6 = ((a0.toList == a1.toList) || numEq a0 a1, !(a0.toList == a1.toList) && numLt a0 a1 .gt) := (if_neg (by decide)).trans ((if_neg (by decide)).trans (if_neg (by decide)))
    rw [e] at h
    obtain ⟨rfl, rfl⟩ := Prod.mk.inj h
    exact before_ a0 a1 6 _ _ (fun w => lessN_ a0 a1 6 (Or.inr rfl) _ _ _ rfl (fun w => lessNum_ a0 a1 _ _ _ _ 6 _ _ (numOf_calls a0 h0) (numOf_calls a1 h1) (num6_ _ _) w) w) w
theorem beq_turn (l m : List UInt8) : (l == m) = (m == l) := by
  by_cases h : l = m
  · rw [h]
  · have h2 : ¬ m = l := fun e => h e.symm
    rw [beq_eq_false_iff_ne.mpr h, beq_eq_false_iff_ne.mpr h2]
/-- A falling mode is the rising one, turned. -/
theorem turned (a b : ByteArray) (m : Int) (hm : m = 0 ∨ m = 2) : (befOf b a (m + 4)).1 = (befOf a b m).1 ∧ (befOf b a (m + 4)).2 = (befOf a b m).2 := by
  rcases hm with rfl | rfl
  · have e1 : befOf a b 0 = ((a.toList == b.toList) || false, !(a.toList == b.toList) && Op.bytesLess a.toList b.toList) := if_pos rfl
    have e2 : befOf b a (0 + 4) = ((b.toList == a.toList) || false, !(b.toList == a.toList) && Op.bytesLess a.toList b.toList) := (if_neg (by decide)).trans (if_pos rfl)
    rw [e1, e2, beq_turn b.toList a.toList]
    exact ⟨rfl, rfl⟩
  · have e1 : befOf a b 2 = ((a.toList == b.toList) || numEq a b, !(a.toList == b.toList) && numLt a b .lt) := (if_neg (by decide)).trans ((if_neg (by decide)).trans (if_pos rfl))
    have e2 : befOf b a (2 + 4) = ((b.toList == a.toList) || numEq b a, !(b.toList == a.toList) && numLt b a .gt) := (if_neg (by decide)).trans ((if_neg (by decide)).trans (if_neg (by decide)))
    have h1 : numEq b a = numEq a b := by unfold numEq; rw [order_eq (numOf a).1 (numOf b).1, Bool.or_comm]
    have h2 : numLt b a .gt = numLt a b .lt := by unfold numLt; rw [order_eq (numOf a).1 (numOf b).1, order_gt (numOf a).1 (numOf b).1, Bool.or_comm]
    rw [e1, e2, beq_turn b.toList a.toList, h1, h2]
    exact ⟨rfl, rfl⟩
theorem ab_less : impl_Before.f ⟨#[97]⟩ ⟨#[98]⟩ 0 false = some (false, true) := by
  unfold impl_Before.f
  rw [if_pos ⟨by decide, by decide, rfl, Or.inl rfl⟩]
  have e1 : befOf ⟨#[97]⟩ ⟨#[98]⟩ 0 = (((⟨#[97]⟩ : ByteArray).toList == (⟨#[98]⟩ : ByteArray).toList) || false, !((⟨#[97]⟩ : ByteArray).toList == (⟨#[98]⟩ : ByteArray).toList) && Op.bytesLess (⟨#[97]⟩ : ByteArray).toList (⟨#[98]⟩ : ByteArray).toList) := if_pos rfl
  rw [e1, toList_data, toList_data]
  rfl
end
end Go.Proofs.YtnmochachiieaaaDoor.Hand
