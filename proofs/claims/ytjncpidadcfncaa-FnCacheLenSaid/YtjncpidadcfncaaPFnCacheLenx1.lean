-- Written by hprint.py, a program of this session
import Derived.Test.YtjncpidadcfncaaPFnCacheLenx0
namespace Go.Proofs.Ytjncpidadcfncaa.PFnCacheLen
open Go.RowKit Go.Proofs.YtjncpidadcfncaaW.PrintWords Go.Proofs.YtjncpidadcfncaaW.PrintLast Go.Proofs.YtjncpidadcfncaaW.PrintMore
attribute [local go_sem] max2_int min2_int max_two min_two max_three min_three max_four min_four   -- for this text's walks alone
set_option linter.unusedVariables false
set_option linter.unusedSimpArgs false

/-! ### laws_cacheFew: function 4 -/
def laws_cacheFew.l0 : Nat → List (S25) → Int → Option (Bool)
  | 0, _, _ => none
  | k + 1, x0, x3 => if x3 < (x0.length : Int) then (if 0 ≤ x3 then (if ((rd_T25 x0 x3).f0) < 0 then (some false) else (if ((rd_T25 x0 x3).f0) > 8 then (some false) else (laws_cacheFew.l0 k x0 (wrap64 (x3 + 1))))) else (none)) else (some true)
def laws_cacheFew.f (k : Nat) (l0 : List (S25)) : Option (Bool) := if (l0.length : Int) > 2000 then (some false) else (laws_cacheFew.l0 k l0 0)
theorem laws_cacheFew.mono_l : ∀ k, (∀ y0 y1, LeO (laws_cacheFew.l0 k y0 y1) (laws_cacheFew.l0 (k + 1) y0 y1))
  | 0 => fun _ _ r h => by simp [laws_cacheFew.l0] at h
  | k + 1 => by
    have ih0 := laws_cacheFew.mono_l k
    · intro y0 y1
      unfold laws_cacheFew.l0
      repeat' first
      | (with_reducible exact ih0 _ _)
      | (with_reducible exact LeO.refl _)
      | (with_reducible exact LeO.none _)
      | (with_reducible refine LeO.ite ?_ ?_)
      | (with_reducible refine LeO.bind ?_ (fun _ => ?_))
      | exact ih0 _ _
      | exact LeO.none _
      | refine LeO.ite ?_ ?_
      | refine LeO.bind ?_ (fun _ => ?_)
theorem laws_cacheFew.mono : ∀ a0 k, LeO (laws_cacheFew.f k a0) (laws_cacheFew.f (k + 1) a0) := by
  intro a0 k
  have ih0 := laws_cacheFew.mono_l k
  unfold laws_cacheFew.f
  repeat' first
      | (with_reducible exact ih0 _ _)
      | (with_reducible exact LeO.refl _)
      | (with_reducible exact LeO.none _)
      | (with_reducible refine LeO.ite ?_ ?_)
      | (with_reducible refine LeO.bind ?_ (fun _ => ?_))
      | exact ih0 _ _
      | exact LeO.none _
      | refine LeO.ite ?_ ?_
      | refine LeO.bind ?_ (fun _ => ?_)
set_option maxHeartbeats 8000000 in
set_option maxRecDepth 100000 in
theorem laws_cacheFew.calls (k : Nat) (A0 : Option Addr) (c0 : Nat) (l0 : List (S25)) (r : Bool) (w : World) (hr0 : Kd.C k25 w A0 l0.length l0) (hc0 : l0.length ≤ c0) (h : laws_cacheFew.f k l0 = some r) :
    Calls Try.prog 4 #[.slice A0 l0.length c0] w fun e w' => e = .returned (.bool r) ∧ Drawn0 w w' := by
  have HR0 := Aside0.mk hr0
  have HC0 := Aside0.mk hc0
  clear hr0 hc0
  have H : (if (l0.length : Int) > 2000 then (some false) else (laws_cacheFew.l0 k l0 0)) = some r := h
  clear h
  by_cases c2 : (l0.length : Int) > 2000
  · rw [if_pos c2] at H
    have c2b0 : decide (2000 < (l0.length : Int)) = true := decide_eq_true c2
    have c2b1 : decide (2000 < l0.length) = true := decide_eq_true (by omega)
    clear c2
    obtain rfl := Option.some.inj H
    go_enter Try.func4, Try.ntmps4
    go_wp2
    go_ret
    exact ⟨by first | rfl | (simp; done) | (simp [*]; done), by repeat (first | exact Drawn0.refl _ | apply Drawn0.step)⟩
  · rw [if_neg c2] at H
    have c2b0 : decide (2000 < (l0.length : Int)) = false := decide_eq_false c2
    have c2b1 : decide (2000 < l0.length) = false := decide_eq_false (by omega)
    clear c2
    have H' := Aside0.mk H
    clear H
    go_enter Try.func4, Try.ntmps4
    go_wp2
    go_loopg [3] k (fun kq v3 w' => ∃ (x3_1 : Int), v3 = .int .i64 x3_1 ∧ Aside0 (laws_cacheFew.l0 kq l0 x3_1 = some r) ∧ Aside0 (kq ≤ k) ∧ Drawn0 w w')
    case atStart => exact ⟨(0), (by first | rfl | (simp; done) | (simp [*]; done)), H', ⟨Nat.le_refl _⟩, by repeat (first | exact Drawn0.refl _ | apply Drawn0.step)⟩
    case round =>
      clear H'
      try clear c2
      try clear c2b0
      try clear c2b1
      try clear p2
      obtain ⟨x3_1, rfl, HA, HK1, ⟨m1, rfl⟩⟩ := hrel
      cases gk with
      | zero => exact absurd HA.out (by simp [laws_cacheFew.l0])
      | succ k1 =>
        have H := HA.out
        clear HA
        simp only [laws_cacheFew.l0] at H
        by_cases c3 : x3_1 < (l0.length : Int)
        · rw [if_pos c3] at H
          have c3b0 : decide (x3_1 < (l0.length : Int)) = true := decide_eq_true c3
          clear c3
          by_cases c4 : 0 ≤ x3_1
          · rw [if_pos c4] at H
            have c4b0 : decide (0 ≤ x3_1) = true := decide_eq_true c4
            clear c4
            by_cases c5 : ((rd_T25 l0 x3_1).f0) < 0
            · rw [if_pos c5] at H
              have c5b0 : decide (((rd_T25 l0 x3_1).f0) < 0) = true := decide_eq_true c5
              clear c5
              obtain rfl := Option.some.inj H
              have p101 : 0 ≤ (x3_1 : Int) := of_decide_eq_true (by first | (with_reducible assumption) | assumption)
              have q101 : x3_1 < (l0.length : Int) := of_decide_eq_true (by first | (with_reducible assumption) | assumption)
              obtain ⟨ad101, e101, hx101_0, hx101_1, hx101_2⟩ := at_T25 HR0.out x3_1 p101 q101
              cases e101
              (try simp only [Go.IntWalk.toNatUp] at hx101_0)
              (try simp only [Go.IntWalk.toNatUp] at hx101_1)
              (try simp only [Go.IntWalk.toNatUp] at hx101_2)
              replace p101 := eq_true p101
              replace q101 := eq_true q101
              go_wp2
              go_ret
              exact ⟨by first | rfl | (simp; done) | (simp [*]; done), by repeat (first | exact Drawn0.refl _ | apply Drawn0.step)⟩
            · rw [if_neg c5] at H
              have c5b0 : decide (((rd_T25 l0 x3_1).f0) < 0) = false := decide_eq_false c5
              clear c5
              by_cases c6 : ((rd_T25 l0 x3_1).f0) > 8
              · rw [if_pos c6] at H
                have c6b0 : decide (8 < ((rd_T25 l0 x3_1).f0)) = true := decide_eq_true c6
                clear c6
                obtain rfl := Option.some.inj H
                have p101 : 0 ≤ (x3_1 : Int) := of_decide_eq_true (by first | (with_reducible assumption) | assumption)
                have q101 : x3_1 < (l0.length : Int) := of_decide_eq_true (by first | (with_reducible assumption) | assumption)
                obtain ⟨ad101, e101, hx101_0, hx101_1, hx101_2⟩ := at_T25 HR0.out x3_1 p101 q101
                cases e101
                (try simp only [Go.IntWalk.toNatUp] at hx101_0)
                (try simp only [Go.IntWalk.toNatUp] at hx101_1)
                (try simp only [Go.IntWalk.toNatUp] at hx101_2)
                replace p101 := eq_true p101
                replace q101 := eq_true q101
                have p102 : 0 ≤ (x3_1 : Int) := of_decide_eq_true (by first | (with_reducible assumption) | assumption)
                have q102 : x3_1 < (l0.length : Int) := of_decide_eq_true (by first | (with_reducible assumption) | assumption)
                obtain ⟨ad102, e102, hx102_0, hx102_1, hx102_2⟩ := at_T25 HR0.out x3_1 p102 q102
                obtain rfl : ad101 = ad102 := (by injection e102)
                (try simp only [Go.IntWalk.toNatUp] at hx102_0)
                (try simp only [Go.IntWalk.toNatUp] at hx102_1)
                (try simp only [Go.IntWalk.toNatUp] at hx102_2)
                replace p102 := eq_true p102
                replace q102 := eq_true q102
                go_wp2
                go_ret
                exact ⟨by first | rfl | (simp; done) | (simp [*]; done), by repeat (first | exact Drawn0.refl _ | apply Drawn0.step)⟩
              · rw [if_neg c6] at H
                have c6b0 : decide (8 < ((rd_T25 l0 x3_1).f0)) = false := decide_eq_false c6
                clear c6
                have H' := Aside0.mk H
                clear H
                have p101 : 0 ≤ (x3_1 : Int) := of_decide_eq_true (by first | (with_reducible assumption) | assumption)
                have q101 : x3_1 < (l0.length : Int) := of_decide_eq_true (by first | (with_reducible assumption) | assumption)
                obtain ⟨ad101, e101, hx101_0, hx101_1, hx101_2⟩ := at_T25 HR0.out x3_1 p101 q101
                cases e101
                (try simp only [Go.IntWalk.toNatUp] at hx101_0)
                (try simp only [Go.IntWalk.toNatUp] at hx101_1)
                (try simp only [Go.IntWalk.toNatUp] at hx101_2)
                replace p101 := eq_true p101
                replace q101 := eq_true q101
                have p102 : 0 ≤ (x3_1 : Int) := of_decide_eq_true (by first | (with_reducible assumption) | assumption)
                have q102 : x3_1 < (l0.length : Int) := of_decide_eq_true (by first | (with_reducible assumption) | assumption)
                obtain ⟨ad102, e102, hx102_0, hx102_1, hx102_2⟩ := at_T25 HR0.out x3_1 p102 q102
                obtain rfl : ad101 = ad102 := (by injection e102)
                (try simp only [Go.IntWalk.toNatUp] at hx102_0)
                (try simp only [Go.IntWalk.toNatUp] at hx102_1)
                (try simp only [Go.IntWalk.toNatUp] at hx102_2)
                replace p102 := eq_true p102
                replace q102 := eq_true q102
                go_wp2
                go_roundg k1
                case measure => have := HK1.out; omega
                case rel => exact ⟨(wrap64 (x3_1 + 1)), (by first | rfl | (simp; done) | (simp [*]; done)), H', ⟨by have := HK1.out; omega⟩, by repeat (first | exact Drawn0.refl _ | apply Drawn0.step)⟩
          · rw [if_neg c4] at H
            exact absurd H (by simp)
        · rw [if_neg c3] at H
          have c3b0 : decide (x3_1 < (l0.length : Int)) = false := decide_eq_false c3
          clear c3
          obtain rfl := Option.some.inj H
          go_wp2
          go_ret
          exact ⟨by first | rfl | (simp; done) | (simp [*]; done), by repeat (first | exact Drawn0.refl _ | apply Drawn0.step)⟩

-- NOT PRINTED: function 7 (twcache_NewLRUEvict_int_int)

-- NOT PRINTED: function 6 (twcache_NewLRU_int_int)

-- NOT PRINTED: function 21 (twcache_LRU_int_int_addToFront)

-- NOT PRINTED: function 22 (twcache_LRU_int_int_removeNode)

-- NOT PRINTED: function 19 (twcache_LRU_int_int_moveToFront)

-- NOT PRINTED: function 20 (twcache_LRU_int_int_removeOldest)

-- NOT PRINTED: function 9 (twcache_LRU_int_int_Add)

-- NOT PRINTED: function 10 (twcache_LRU_int_int_Get)

-- NOT PRINTED: function 11 (twcache_LRU_int_int_GetOrCompute)

-- NOT PRINTED: function 13 (twcache_LRU_int_int_Remove)

-- NOT PRINTED: function 14 (twcache_LRU_int_int_RemoveOldest)

-- NOT PRINTED: function 15 (twcache_LRU_int_int_Purge)

-- NOT PRINTED: function 16 (twcache_LRU_int_int_Len)

-- NOT PRINTED: function 17 (twcache_LRU_int_int_Cap)

-- NOT PRINTED: function 18 (twcache_LRU_int_int_HitRate)

-- NOT PRINTED: function 5 (impl_CacheRun)

-- NOT PRINTED: function 3 (laws_FnCacheLen)

end Go.Proofs.Ytjncpidadcfncaa.PFnCacheLen
