/- initForRenderPaddedColumns: the columns grow. -/
import Derived.Test.YtedknmaaaaomoaaHandZz
import Derived.Test.YtedknmaaaaomoaaHandColMax
namespace Go.Proofs.Ytedknmaaaaomoaa.Hand
open Go.RowKit Go.Proofs.YtedknmaaaaomoaaW.PrintWords Go.Proofs.Ytedknmaaaaomoaa.Base
open Go.Maps (Keyed)
set_option linter.unusedVariables false
set_option linter.unusedSimpArgs false

/-- One round over the columns: their widths and most, what is left to give. -/
def growIn : List (Int × Int) → Int → List Int × Int
  | [], p => ([], p)
  | x :: r, p => if 0 < p ∧ (x.2 = 0 ∨ x.1 < x.2) then ((x.1 + 1) :: (growIn r (p - 1)).1, (growIn r (p - 1)).2) else (x.1 :: (growIn r p).1, (growIn r p).2)
/-- Rounds, till all is given or none can grow. -/
def growOut (caps : List Int) : Nat → List Int → Int → List Int
  | 0, ws, _ => ws
  | k + 1, ws, p => if p ≤ 0 then ws else if (growIn (ws.zip caps) p).2 = p then (growIn (ws.zip caps) p).1 else growOut caps k (growIn (ws.zip caps) p).1 (growIn (ws.zip caps) p).2
theorem growIn_len : ∀ (l : List (Int × Int)) (p : Int), (growIn l p).1.length = l.length
  | [], p => rfl
  | x :: r, p => by
    unfold growIn
    split <;> simp [growIn_len r]
theorem growIn_le : ∀ (l : List (Int × Int)) (p : Int), (growIn l p).2 ≤ p ∧ (0 ≤ p → 0 ≤ (growIn l p).2)
  | [], p => ⟨Int.le_refl _, fun h => h⟩
  | x :: r, p => by
    unfold growIn
    split
    · rename_i h
      have h1 := growIn_le r (p - 1)
      exact ⟨by show (growIn r (p - 1)).2 ≤ p; omega, fun _ => h1.2 (by omega)⟩
    · exact growIn_le r p
theorem growIn_zero : ∀ (l : List (Int × Int)) (p : Int), p ≤ 0 → growIn l p = (l.map (·.1), p)
  | [], p, _ => rfl
  | x :: r, p, h => by
    unfold growIn
    rw [if_neg (by omega), growIn_zero r p h]
    rfl
theorem growOut_zero (caps : List Int) : ∀ (k : Nat) (ws : List Int) (p : Int), p ≤ 0 → growOut caps k ws p = ws
  | 0, ws, p, _ => rfl
  | k + 1, ws, p, h => by rw [growOut, if_pos h]

theorem drop_zip' : ∀ (i : Nat) (a b : List Int), (a.zip b).drop i = (a.drop i).zip (b.drop i)
  | 0, a, b => rfl
  | i + 1, [], b => by simp
  | i + 1, x :: a, [] => by simp
  | i + 1, x :: a, y :: b => by
    rw [List.zip_cons_cons, List.drop_succ_cons, List.drop_succ_cons, List.drop_succ_cons]
    exact drop_zip' i a b
theorem row_set (done : List Int) (x y : Int) (r : List Int) (i : Nat) (h : done.length = i) : (done ++ x :: r).set i y = (done ++ [y]) ++ r := by
  subst h
  rw [List.set_append_right _ _ (Nat.le_refl _), Nat.sub_self]
  simp
theorem own_blk {w : World} {base G n gc : Nat} {e : TypeId} {xs : List Value} (h : w.ownsRow base e 1 (.slice (some ⟨G, 0, none⟩) n gc) n xs) : ∃ cur, w.heap[G]? = some (.cells cur e (0, 0)) ∧ cur.size = gc ∧ n ≤ gc ∧ cur.toList.take n = xs ∧ xs.length = n := by
  obtain ⟨h1, h2⟩ := h
  rw [Nat.mul_one] at h1
  rcases h2 with ⟨h2, _⟩ | ⟨g, cap, cur, hv, hb, hh, h3, h4, h5, h6⟩
  · cases h2
  · simp only [Value.slice.injEq, Option.some.injEq, Addr.mk.injEq, and_true, true_and] at hv
    obtain ⟨rfl, rfl⟩ := hv
    rw [Nat.mul_one] at h5 h6
    exact ⟨cur, hh, h5, h3, h6, h1⟩
theorem own_cell {w : World} {base G n gc : Nat} {e : TypeId} {xs : List Value} (h : w.ownsRow base e 1 (.slice (some ⟨G, 0, none⟩) n gc) n xs) {i : Nat} {u : Value} (hi : xs[i]? = some u) : w.cell? ⟨G, i, none⟩ = some u ∧ w.frozen? ⟨G, i, none⟩ = false := by
  obtain ⟨cur, hh, h1, h2, h3, h4⟩ := own_blk h
  refine ⟨?_, blk_frozen hh i⟩
  rw [blk_cell hh]
  have hlt : i < n := by
    rcases Nat.lt_or_ge i xs.length with h | h
    · omega
    · rw [List.getElem?_eq_none h] at hi; cases hi
  rw [← h3, List.getElem?_take_of_lt hlt] at hi
  simpa using hi
theorem own_set {w : World} {base G n gc : Nat} {e : TypeId} {xs : List Value} (h : w.ownsRow base e 1 (.slice (some ⟨G, 0, none⟩) n gc) n xs) (i : Nat) (u : Value) : (w.setCell ⟨G, i, none⟩ u).ownsRow base e 1 (.slice (some ⟨G, 0, none⟩) n gc) n (xs.set i u) := by
  obtain ⟨h1, h2⟩ := h
  rcases h2 with ⟨h2, _⟩ | ⟨g, cap, cur, hv, hb, hh, h3, h4, h5, h6⟩
  · cases h2
  · simp only [Value.slice.injEq, Option.some.injEq, Addr.mk.injEq, and_true, true_and] at hv
    obtain ⟨rfl, rfl⟩ := hv
    refine ⟨by simpa using h1, Or.inr ⟨G, gc, cur.setIfInBounds i u, rfl, hb, blk_put hh i u rfl, h3, h4, by simpa using h5, ?_⟩⟩
    rw [Array.toList_setIfInBounds, List.take_set, h6]
theorem own_below {w w' : World} {base : Nat} {e : TypeId} {size n : Nat} {v : Value} {xs : List Value} (h : w.ownsRow base e size v n xs) (hb : Below w.heap.size w w') : w'.ownsRow base e size v n xs := own_move h (fun k hk => hb.block k (own_lt h k hk))
theorem CfgMap.below {w w' : World} {b : Nat} {cs : List (Int × Int)} (h : CfgMap w b cs) (hb : Below w.heap.size w w') : CfgMap w' b cs := by
  obtain ⟨es, ck, he⟩ := h.blk
  exact h.kept (hb.block b (blk_lt he))

/-- The padding, walked. -/
def PadR (w0 : World) (base T : Nat) (tc : Array Value) (S M NN G gc : Nat) (st : Array Value) (cs : List (Int × Int)) (n : Nat) (w : World) (ws : List Int) : Prop :=
  w.heap[T]? = some (.cells tc 94 (0, 0)) ∧ w.heap[S]? = some (.cells st 65 (0, 0)) ∧ CfgMap w M cs ∧ w.ownsRow base 3 1 (.slice (some ⟨G, 0, none⟩) n gc) n (ws.map (Value.int .i64)) ∧ Below base w0 w
theorem PadR.below {w0 w w' : World} {base T S M NN G gc n : Nat} {tc st : Array Value} {cs : List (Int × Int)} {ws : List Int} (h : PadR w0 base T tc S M NN G gc st cs n w ws) (hb : Below w.heap.size w w') (hB : base ≤ w.heap.size) : PadR w0 base T tc S M NN G gc st cs n w' ws := by
  obtain ⟨h1, h2, h3, h4, h5⟩ := h
  exact ⟨blk_below h1 hb, blk_below h2 hb, h3.below hb, own_below h4 hb, h5.trans (hb.mono hB)⟩
theorem PadR.set {w0 w : World} {base T S M NN G gc n : Nat} {tc st : Array Value} {cs : List (Int × Int)} {ws : List Int} (h : PadR w0 base T tc S M NN G gc st cs n w ws) (hn : 0 < n) (i : Nat) (v : Int) : PadR w0 base T tc S M NN G gc st cs n (w.setCell ⟨G, i, none⟩ (.int .i64 v)) (ws.set i v) := by
  obtain ⟨h1, h2, h3, h4, h5⟩ := h
  obtain ⟨cur, hG, _⟩ := own_blk h4
  have bG : base ≤ G := own_base h4 G rfl
  obtain ⟨es, ck, he⟩ := h3.blk
  refine ⟨blk_far h1 (blk_ne' h1 hG (by decide)) _, blk_far h2 (blk_ne' h2 hG (by decide)) _, h3.kept (Below.heap_setCell w ⟨G, i, none⟩ _ M (map_ne he hG)), ?_, h5.setCell (p := ⟨G, i, none⟩) bG _⟩
  have := own_set h4 i (.int .i64 v)
  rw [List.map_set]
  exact this

set_option maxHeartbeats 8000000 in
set_option maxRecDepth 100000 in
theorem padded (w : World) (base T : Nat) (tc : Array Value) (S M NN G gc : Nat) (st : Array Value) (cs : List (Int × Int)) (ws : List Int) (least len : Int) (n : Nat)
    (hR : PadR w base T tc S M NN G gc st cs n w ws) (hn : ws.length = n) (hcs : cs.length = n) (hn6 : n ≤ 1000000) (hB : base ≤ w.heap.size)
    (t6 : tc[6]? = some (.map (some M))) (t11 : tc[11]? = some (.slice (some ⟨G, 0, none⟩) n gc)) (t13 : tc[13]? = some (.int .i64 len)) (t14 : tc[14]? = some (.int .i64 (n : Int))) (t39 : tc[39]? = some (.pointer (some ⟨S, 0, none⟩))) (s52 : st[52]? = some (.int .i64 least))
    (hl : 0 ≤ len ∧ len ≤ 1000000) (hm : 0 ≤ least ∧ least ≤ 1000000) (hw : ∀ x ∈ ws, 0 ≤ x ∧ x ≤ 1000000) :
    Calls Try.prog 20 #[.pointer (some ⟨T, 0, none⟩)] w fun e w' => e = .returned (.tuple #[]) ∧ PadR w base T tc S M NN G gc st cs n w' (growOut (cs.map (·.2)) (least - len).toNat ws (least - len)) := by
  have c39 : w.cell? ⟨T, 39, none⟩ = some (.pointer (some ⟨S, 0, none⟩)) := by rw [blk_cell hR.1]; exact t39
  have c13 : w.cell? ⟨T, 13, none⟩ = some (.int .i64 len) := by rw [blk_cell hR.1]; exact t13
  have k52 : w.cell? ⟨S, 52, none⟩ = some (.int .i64 least) := by rw [blk_cell hR.2.1]; exact s52
  have TT := Aside0.mk (And.intro t6 (And.intro t11 t14))
  have ew : IntKind.i64.wrap (least - len) = least - len := Go.IntWalk.i64_in _ (by omega)
  have R := Aside0.mk hR
  have HW := Aside0.mk hw
  clear hR hw t6 t11 t13 t14 t39 s52
  go_enter Try.func20, Try.ntmps20
  go_wp2
  go_region
  have R1 : Aside0 (PadR w base T tc S M NN G gc st cs n w.drew ws) := ⟨⟨R.out.1, R.out.2.1, R.out.2.2.1, R.out.2.2.2.1, below_drew1 R.out.2.2.2.2⟩⟩
  have hB1 : base ≤ w.drew.heap.size := hB
  clear c39 c13 k52 R
  generalize w.drew = w1 at R1 hB1
  go_wp2
  go_loopg [2] (least - len).toNat (fun kq v2 w' => ∃ (p : Int) (ws' : List Int), v2 = .int .i64 p ∧ Aside0 (ws'.length = n) ∧ Aside0 (p.toNat ≤ kq) ∧ Aside0 (-1000000 ≤ p ∧ p ≤ 1000000 ∧ ∀ x ∈ ws', 0 ≤ x ∧ x + p ≤ 2000000) ∧ Aside0 (growOut (cs.map (·.2)) (least - len).toNat ws (least - len) = growOut (cs.map (·.2)) kq ws' p) ∧ Aside0 (PadR w base T tc S M NN G gc st cs n w' ws') ∧ Aside0 (base ≤ w'.heap.size))
  case atStart => exact ⟨least - len, ws, rfl, ⟨hn⟩, ⟨Nat.le_refl _⟩, ⟨by omega, by omega, fun x hx => by have := HW.out x hx; omega⟩, ⟨rfl⟩, R1, ⟨hB1⟩⟩
  case round =>
    clear R1 hB1 ew
    obtain ⟨p, ws', rfl, HL, HK, HP, HF, HR, HB⟩ := hrel
    by_cases hp : 0 < p
    · have p1 : decide (0 < p) = true := decide_eq_true hp
      obtain ⟨k', KQ⟩ : ∃ k', gk = k' + 1 := ⟨gk - 1, by have := HK.out; omega⟩
      go_wp2
      go_loopg [2, 3, 4] n (fun jq v2 v3 v4 w' => ∃ (q : Int) (i : Nat) (done : List Int), v2 = .int .i64 q ∧ v3 = .int .i64 (p - q) ∧ v4 = .int .i64 (i : Int) ∧ Aside0 (i + jq = n) ∧ Aside0 (done.length = i) ∧ Aside0 (0 ≤ q ∧ q ≤ p) ∧ Aside0 (growIn (ws'.zip (cs.map (·.2))) p = (done ++ (growIn ((ws'.zip (cs.map (·.2))).drop i) q).1, (growIn ((ws'.zip (cs.map (·.2))).drop i) q).2)) ∧ Aside0 (∀ x ∈ done ++ ws'.drop i, 0 ≤ x ∧ x + q ≤ 2000000) ∧ Aside0 (PadR w base T tc S M NN G gc st cs n w' (done ++ ws'.drop i)) ∧ Aside0 (base ≤ w'.heap.size))
      case atStart => exact ⟨p, 0, [], rfl, by rw [Int.sub_self], rfl, ⟨by omega⟩, ⟨rfl⟩, ⟨by omega, by omega⟩, ⟨rfl⟩, ⟨fun x hx => HP.out.2.2 x (by simpa using hx)⟩, HR, HB⟩
      case round =>
        clear HR HB
        obtain ⟨q, i, done, rfl, rfl, rfl, HJ, HD, HQ, HG, HX, HR, HB⟩ := hrel
        have c14 : wr.cell? ⟨T, 14, none⟩ = some (.int .i64 (n : Int)) := by rw [blk_cell HR.out.1]; exact TT.out.2.2
        by_cases hq : 0 < q
        · have p2 : decide (0 < q) = true := decide_eq_true hq
          by_cases hi : i < n
          · have p3 : decide ((i : Int) < (n : Int)) = true := decide_eq_true (by omega)
            obtain ⟨x, hx⟩ : ∃ x, ws'[i]? = some x := ⟨ws'[i]'(by have := HL.out; omega), List.getElem?_eq_getElem _⟩
            obtain ⟨c, hc⟩ : ∃ c, cs[i]? = some c := ⟨cs[i]'(by omega), List.getElem?_eq_getElem _⟩
            have hdw : ws'.drop i = x :: ws'.drop (i + 1) := by
              have hlt : i < ws'.length := by have := HL.out; omega
              rw [List.drop_eq_getElem_cons hlt]
              rw [List.getElem?_eq_getElem hlt] at hx
              rw [Option.some.inj hx]
            have hdc : (cs.map (·.2)).drop i = c.2 :: (cs.map (·.2)).drop (i + 1) := by
              have hlt : i < (cs.map (·.2)).length := by simp; omega
              rw [List.drop_eq_getElem_cons hlt]
              have hlt2 : i < cs.length := by omega
              rw [List.getElem?_eq_getElem hlt2] at hc
              rw [List.getElem_map, Option.some.inj hc]
            have hdz : (ws'.zip (cs.map (·.2))).drop i = (x, c.2) :: (ws'.zip (cs.map (·.2))).drop (i + 1) := by
              rw [drop_zip', hdw, hdc, List.zip_cons_cons, drop_zip']
            have hrow : (done ++ ws'.drop i)[i]? = some x := by
              rw [hdw, List.getElem?_append_right (by rw [HD.out]; exact Nat.le_refl _), HD.out, Nat.sub_self]
              rfl
            have hxb := HX.out x (by rw [hdw]; simp)
            have HDW := Aside0.mk hdw
            have HDZ := Aside0.mk hdz
            have HROW := Aside0.mk hrow
            have HCI := Aside0.mk hc
            have c6 : wr.cell? ⟨T, 6, none⟩ = some (.map (some M)) := by rw [blk_cell HR.out.1]; exact TT.out.1
            have C6 := Aside0.mk c6
            have ew3 : IntKind.i64.wrap ((p - q) + 1) = p - (q - 1) := (Go.IntWalk.i64_in _ (by have := HP.out.2.1; omega)).trans (by omega)
            have ew4 : IntKind.i64.wrap (q - 1) = q - 1 := Go.IntWalk.i64_in _ (by have := HP.out.2.1; omega)
            have ew5 : IntKind.i64.wrap (x + 1) = x + 1 := Go.IntWalk.i64_in _ (by omega)
            clear hdw hdc hdz hrow hx hc c6
            go_upto_region 7 with (go_at_call 24; refine (colMax wr T M cs C6.out HR.out.2.2.1 (by omega) i c HCI.out).mono ?_; rintro e w2 ⟨rfl, b2⟩; have R2 := Aside0.mk (HR.out.below b2 HB.out); have B2 : Aside0 (base ≤ w2.heap.size) := ⟨Nat.le_trans HB.out b2.size⟩; have d11 : w2.cell? ⟨T, 11, none⟩ = some (.slice (some ⟨G, 0, none⟩) n gc) := (by rw [blk_cell R2.out.1]; exact TT.out.2.1); obtain ⟨dG, fG⟩ := own_cell R2.out.2.2.2.1 (i := i) (u := .int .i64 x) (by rw [List.getElem?_map, HROW.out]; rfl); clear b2)
            by_cases hgr : c.2 = 0 ∨ x < c.2
            · by_cases hc0 : c.2 = 0
              · have e0 : (c.2 == 0) = true := beq_iff_eq.mpr hc0
                go_wp2
                go_roundg (gk - 1)
                case measure => have := HJ.out; omega
                case rel =>
                  have hset := R2.out.set (by omega) i (x + 1)
                  rw [HDW.out, row_set done x (x + 1) _ i HD.out] at hset
                  refine ⟨q - 1, i + 1, done ++ [x + 1], rfl, rfl, by go_num, ⟨by have := HJ.out; omega⟩, ⟨by simp [HD.out]⟩, ⟨by omega, by have := HQ.out; omega⟩, ⟨?_⟩, ⟨fun y hy => ?_⟩, ⟨hset⟩, ⟨by simpa using B2.out⟩⟩
                  · rw [HG.out, HDZ.out, growIn, if_pos ⟨hq, hgr⟩]
                    simp
                  · rcases List.mem_append.1 hy with h | h
                    · rcases List.mem_append.1 h with h | h
                      · have := HX.out y (List.mem_append_left _ h); omega
                      · have : y = x + 1 := by simpa using h
                        omega
                    · have := HX.out y (by rw [HDW.out]; simp [h]); omega
              · have e0 : (c.2 == 0) = false := beq_eq_false_iff_ne.mpr hc0
                have e1 : decide (x < c.2) = true := decide_eq_true (by omega)
                go_wp2
                go_roundg (gk - 1)
                case measure => have := HJ.out; omega
                case rel =>
                  have hset := R2.out.set (by omega) i (x + 1)
                  rw [HDW.out, row_set done x (x + 1) _ i HD.out] at hset
                  refine ⟨q - 1, i + 1, done ++ [x + 1], rfl, rfl, by go_num, ⟨by have := HJ.out; omega⟩, ⟨by simp [HD.out]⟩, ⟨by omega, by have := HQ.out; omega⟩, ⟨?_⟩, ⟨fun y hy => ?_⟩, ⟨hset⟩, ⟨by simpa using B2.out⟩⟩
                  · rw [HG.out, HDZ.out, growIn, if_pos ⟨hq, hgr⟩]
                    simp
                  · rcases List.mem_append.1 hy with h | h
                    · rcases List.mem_append.1 h with h | h
                      · have := HX.out y (List.mem_append_left _ h); omega
                      · have : y = x + 1 := by simpa using h
                        omega
                    · have := HX.out y (by rw [HDW.out]; simp [h]); omega
            · have e0 : (c.2 == 0) = false := beq_eq_false_iff_ne.mpr (by omega)
              have e1 : decide (x < c.2) = false := decide_eq_false (by omega)
              go_wp2
              go_roundg (gk - 1)
              case measure => have := HJ.out; omega
              case rel =>
                have hrow : done ++ ws'.drop i = (done ++ [x]) ++ ws'.drop (i + 1) := by rw [HDW.out]; simp
                refine ⟨q, i + 1, done ++ [x], rfl, rfl, by go_num, ⟨by have := HJ.out; omega⟩, ⟨by simp [HD.out]⟩, HQ, ⟨?_⟩, ⟨fun y hy => HX.out y (by rw [hrow]; exact hy)⟩, ⟨by rw [← hrow]; exact R2.out⟩, B2⟩
                rw [HG.out, HDZ.out, growIn, if_neg (fun h => hgr h.2)]
                simp
          · have hin : i = n := by have := HJ.out; omega
            have p3 : decide ((i : Int) < (n : Int)) = false := decide_eq_false (by omega)
            have hres : growIn (ws'.zip (cs.map (·.2))) p = (done ++ ws'.drop i, q) := by
              rw [HG.out, List.drop_eq_nil_of_le (by simp [HL.out]; omega), List.drop_eq_nil_of_le (by rw [HL.out]; omega)]
              rfl
            have HRES := Aside0.mk hres
            clear hres
            by_cases he : p - q = 0
            · have e2 : (p - q == 0) = true := beq_iff_eq.mpr he
              go_wp2
              go_end0
              refine ⟨rfl, ?_⟩
              rw [HF.out, KQ, growOut, if_neg (by omega), HRES.out, if_pos (by show q = p; omega)]
              exact HR.out
            · have e2 : (p - q == 0) = false := beq_eq_false_iff_ne.mpr he
              go_wp2
              go_roundg k'
              case measure => omega
              case rel =>
                refine ⟨q, done ++ ws'.drop i, rfl, ⟨by simp [HD.out, HL.out]; have := HJ.out; omega⟩, ⟨by have := HK.out; have := HQ.out; omega⟩, ⟨by have := HQ.out; omega, by have := HQ.out; have := HP.out.2.1; omega, HX.out⟩, ⟨?_⟩, HR, HB⟩
                rw [HF.out, KQ, growOut, if_neg (by omega), HRES.out, if_neg (by show ¬ q = p; omega)]
        · have p2 : decide (0 < q) = false := decide_eq_false hq
          have hres : growIn (ws'.zip (cs.map (·.2))) p = (done ++ ws'.drop i, q) := by
            rw [HG.out, growIn_zero _ _ (by omega), drop_zip', List.map_fst_zip (by simp; have := HL.out; omega)]
          have HRES := Aside0.mk hres
          clear hres
          by_cases he : p - q = 0
          · have e2 : (p - q == 0) = true := beq_iff_eq.mpr he
            go_wp2
            go_end0
            refine ⟨rfl, ?_⟩
            rw [HF.out, KQ, growOut, if_neg (by omega), HRES.out, if_pos (by show q = p; omega)]
            exact HR.out
          · have e2 : (p - q == 0) = false := beq_eq_false_iff_ne.mpr he
            go_wp2
            go_roundg k'
            case measure => omega
            case rel =>
              refine ⟨q, done ++ ws'.drop i, rfl, ⟨by simp [HD.out, HL.out]; have := HJ.out; omega⟩, ⟨by have := HK.out; have := HQ.out; omega⟩, ⟨by have := HQ.out; omega, by have := HQ.out; have := HP.out.2.1; omega, HX.out⟩, ⟨?_⟩, HR, HB⟩
              rw [HF.out, KQ, growOut, if_neg (by omega), HRES.out, if_neg (by show ¬ q = p; omega)]
    · have p1 : decide (0 < p) = false := decide_eq_false hp
      go_wp2
      go_end0
      refine ⟨rfl, ?_⟩
      rw [HF.out, growOut_zero _ _ _ _ (by omega)]
      exact HR.out
end Go.Proofs.Ytedknmaaaaomoaa.Hand
