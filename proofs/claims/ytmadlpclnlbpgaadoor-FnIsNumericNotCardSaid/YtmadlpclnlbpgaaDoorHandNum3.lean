/- What tw.IsNumeric answers: no, where a letter stands in the text that no number has; yes, at a digit. -/
import Derived.Test.YtmadlpclnlbpgaaDoorHandNum2
namespace Go.Proofs.YtmadlpclnlbpgaaDoor.Hand
open Go.RowKit Go.Proofs.YtmadlpclnlbpgaaDoorW.PrintWords Go.Proofs.YtmadlpclnlbpgaaDoor.Base
set_option linter.unusedVariables false
set_option linter.unusedSimpArgs false

theorem mem_drop {f : UInt8 → Bool} {c : UInt8} (hc : f c = false) : ∀ l : List UInt8, c ∈ l → c ∈ l.dropWhile f
  | [], h => by cases h
  | a :: r, h => by
    rw [List.dropWhile_cons]
    split
    · rename_i ha
      rcases List.mem_cons.1 h with e | e
      · rw [e] at hc; rw [hc] at ha; cases ha
      · exact mem_drop hc r e
    · exact h
theorem mem_trim {c : UInt8} (hc : Lib.isSp c = false) (l : List UInt8) (h : c ∈ l) : c ∈ Lib.trimSpace l := by
  unfold Lib.trimSpace
  exact List.mem_reverse.2 (mem_drop hc _ (List.mem_reverse.2 (mem_drop hc l h)))
theorem bad_sp {c : UInt8} (h : badL c = true) : Lib.isSp c = false := by
  have : ∀ n : Fin 256, badL (UInt8.ofNat n.val) = true → Lib.isSp (UInt8.ofNat n.val) = false := by decide +kernel
  have := this ⟨c.toNat, c.toNat_lt⟩
  simp only [UInt8.ofNat_toNat] at this
  exact this h

set_option maxHeartbeats 8000000 in
set_option maxRecDepth 100000 in
theorem numeric_no (s : ByteArray) (w : World) (hT : LaidW w) (hA : Ascii s) (c : UInt8) (hc : c ∈ s.data.toList) (hb : badL c = true) (hs : s.size ≤ 1000000) :
    Calls Tryd.prog 13 #[.string s] w fun e w' => e = .returned (.bool false) ∧ Below w.heap.size w w' := by
  obtain ⟨t, ht⟩ : ∃ t : ByteArray, (⟨(Lib.trimSpace s.data.toList).toArray⟩ : ByteArray) = t := ⟨_, rfl⟩
  have htl : t.data.toList = Lib.trimSpace s.data.toList := by rw [← ht]
  have ct := Tryd.strings_TrimSpace s w (by omega) (fun j b hb => hA b (List.mem_of_getElem? hb)) hT.here
  rw [ht] at ct
  have hct : c ∈ t.data.toList := by rw [htl]; exact mem_trim (bad_sp hb) _ hc
  obtain ⟨k, hk⟩ := List.mem_iff_getElem?.1 hct
  have hts : t.size ≤ 1000000 := by rw [size_list, htl]; have := trim_le s.data.toList; rw [← size_list s] at this; omega
  have hem : t.toList.isEmpty = false := by rw [toList_data]; cases h : t.data.toList with | nil => rw [h] at hct; cases hct | cons a r => rfl
  have C1 := Aside0.mk (fun w => atoi_no t w k c hk (bad_of hb).C hts)
  have C2 := Aside0.mk (fun w => parse_no t w k c hk hb hts)
  have CT := Aside0.mk ct
  have HB := Aside0.mk (below_bytesWorld w 5 s)
  clear ht htl ct hct hk hc hb hT hA
  generalize Lib.bytesWorld w 5 s = w1 at CT HB
  go_enter Tryd.func13, Tryd.ntmps13
  go_wp2_with (first
    | ((go_at_call 16; with_reducible refine CT.out.mono ?_); rintro e w1 ⟨rfl, rfl⟩)
    | ((go_at_call 18; with_reducible refine (C1.out _).mono ?_); rintro e w2 ⟨⟨x, b, rfl⟩, h2⟩; have H2 := Aside0.mk h2; clear h2)
    | ((go_at_call 19; with_reducible refine (C2.out _).mono ?_); rintro e w3 ⟨⟨x3, b3, rfl⟩, h3⟩))
  go_ret
  exact ⟨rfl, (HB.out.trans (H2.out.mono HB.out.size)).trans (h3.mono (HB.out.trans (H2.out.mono HB.out.size)).size)⟩

theorem u64_nonneg (x : Int) : 0 ≤ IntKind.u64.wrap x := by
  unfold IntKind.wrap
  simp [IntKind.bits, IntKind.signed]
  omega
theorem u64_small (x : Int) (h0 : 0 ≤ x) (h1 : x ≤ 100) : IntKind.u64.wrap (IntKind.u64.wrap 0 + x) = x := by
  unfold IntKind.wrap
  simp [IntKind.bits, IntKind.signed]
  omega
set_option maxHeartbeats 8000000 in
set_option maxRecDepth 100000 in
theorem uint_dig (s : ByteArray) (w : World) (d : UInt8) (hl : s.data.toList = [d]) (h48 : 48 ≤ d.toNat) (h57 : d.toNat ≤ 57) :
    Calls Tryd.prog 53 #[.string s, .int .i64 10, .int .i64 0] w fun e w' => e = .returned (.tuple #[.int .u64 ((d.toNat : Int) - 48), .nilIface]) ∧ Below w.heap.size w w' := by
  obtain ⟨cap, w1, hc1, hR, hb1, hcap⟩ := to_bytes (P := Tryd.prog) w 9 29 5 s Tryd.underlying9 Tryd.underlying29 Tryd.underlying5
  rw [hl] at hc1 hR hcap
  change (convert 9 29 (.string s)).run Tryd.prog w = .ok (.slice (some ⟨w.heap.size, 0, none⟩) 1 cap) w1 at hc1
  have hem : s.toList.isEmpty = false := by rw [toList_data, hl]; rfl
  have HR := Aside0.mk hR
  have HB1 := Aside0.mk hb1
  clear hR hb1 hcap hl
  go_enter Tryd.func53, Tryd.ntmps53
  go_wp2
  obtain ⟨mx, hmx, hm2⟩ : ∃ mx : Int, IntKind.u64.wrap (IntKind.u64.wrap 18446744073709551616 - 1) = mx ∧ mx = 18446744073709551615 := ⟨_, rfl, by kernel_rfl⟩
  rw [hmx]
  have HMX := Aside0.mk hm2
  clear hmx hm2 hc1 hem
  have m0 : 1000 ≤ mx := by rw [HMX.out]; decide
  have hd := d.toNat_lt
  go_loopg [11, 12, 88] 1 (fun kq v11 v12 v88 w' => ∃ (i : Nat) (n : Int), v11 = .int .u64 n ∧ v12 = .bool false ∧ v88 = .int .i64 (i : Int) ∧ Aside0 (i + kq = 1) ∧ Aside0 (n = if i = 0 then 0 else (d.toNat : Int) - 48) ∧ w1 = w')
  case atStart => exact ⟨0, 0, rfl, rfl, rfl, ⟨rfl⟩, ⟨rfl⟩, rfl⟩
  case round =>
    obtain ⟨i, n, rfl, rfl, rfl, HI, HN, rfl⟩ := hrel
    by_cases h0 : i = 0
    · subst h0
      have hn : n = 0 := HN.out
      subst hn
      have hcb : w1.cell? ⟨w.heap.size, 0, none⟩ = some (.int .u8 (d.toNat : Int)) := HR.out.cell 0 _ rfl
      have y1 : (48 : Int) ≤ (d.toNat : Int) := by omega
      have y2 : (d.toNat : Int) ≤ 57 := by omega
      have w0 : 0 ≤ IntKind.u64.wrap ((IntKind.u64.wrap (mx - ((d.toNat : Int) - 48))).tdiv 10) := u64_nonneg _
      have HE := Aside0.mk (u64_small ((d.toNat : Int) - 48) (by omega) (by omega))
      go_wp2
      go_roundg (gk - 1)
      case measure => have := HI.out; omega
      case rel => exact ⟨1, _, rfl, rfl, rfl, ⟨by have := HI.out; omega⟩, ⟨rfl⟩, rfl⟩
    · have hi1 : i = 1 := by have := HI.out; omega
      subst hi1
      have hn : n = (d.toNat : Int) - 48 := HN.out
      have HNN := Aside0.mk hn
      clear hn HN
      go_wp2
      go_ret2
      exact ⟨by rw [← HNN.out]; rfl, HB1.out⟩

set_option maxHeartbeats 8000000 in
set_option maxRecDepth 100000 in
theorem int_dig (s : ByteArray) (w : World) (d : UInt8) (hl : s.data.toList = [d]) (h48 : 48 ≤ d.toNat) (h57 : d.toNat ≤ 57) :
    Calls Tryd.prog 30 #[.string s, .int .i64 10, .int .i64 0] w fun e w' => (∃ x : Int, e = .returned (.tuple #[.int .i64 x, .nilIface])) ∧ Below w.heap.size w w' := by
  have C0 := Aside0.mk (uint_dig s w d hl h48 h57)
  have hz : 0 < s.size := by rw [size_list, hl]; exact Nat.zero_lt_one
  have ha : s[0]'hz = d := by
    have h1 : s.data.toList[0]? = some d := by rw [hl]; rfl
    rw [List.getElem?_eq_getElem (by rw [← size_list]; exact hz)] at h1
    exact Option.some.inj h1
  have hem : s.toList.isEmpty = false := by rw [toList_data, hl]; rfl
  have e1 : ((d.toNat : Int) == 45) = false := beq_eq_false_iff_ne.mpr (by omega)
  have e2 : ((d.toNat : Int) == 43) = false := beq_eq_false_iff_ne.mpr (by omega)
  have y1 : (48 : Int) ≤ (d.toNat : Int) := by omega
  have y2 : (d.toNat : Int) ≤ 57 := by omega
  clear hl h48 h57
  go_enter Tryd.func30, Tryd.ntmps30
  go_wp2_with ((go_at_call 53; with_reducible refine C0.out.mono ?_); rintro e w' ⟨rfl, h'⟩)
  go_ret2
  exact ⟨⟨_, rfl⟩, h'⟩

set_option maxHeartbeats 8000000 in
set_option maxRecDepth 100000 in
theorem atoi_dig (s : ByteArray) (w : World) (d : UInt8) (hl : s.data.toList = [d]) (h48 : 48 ≤ d.toNat) (h57 : d.toNat ≤ 57) :
    Calls Tryd.prog 18 #[.string s] w fun e w' => (∃ x : Int, e = .returned (.tuple #[.int .i64 x, .nilIface])) ∧ Below w.heap.size w w' := by
  have D := Aside0.mk (int_dig s w d hl h48 h57)
  clear hl h48 h57
  go_enter Tryd.func18, Tryd.ntmps18
  go_wp2_with ((go_at_call 30; with_reducible refine D.out.mono ?_); rintro e w' ⟨⟨x, rfl⟩, h'⟩)
  go_ret2
  exact ⟨⟨_, rfl⟩, h'⟩

set_option maxHeartbeats 8000000 in
set_option maxRecDepth 100000 in
theorem numeric_dig (s : ByteArray) (w : World) (hT : LaidW w) (d : UInt8) (hl : s.data.toList = [d]) (h48 : 48 ≤ d.toNat) (h57 : d.toNat ≤ 57) :
    Calls Tryd.prog 13 #[.string s] w fun e w' => e = .returned (.bool true) ∧ Below w.heap.size w w' := by
  have hsp : Lib.isSp d = false := by
    have : ∀ n : Fin 256, 48 ≤ n.val → n.val ≤ 57 → Lib.isSp (UInt8.ofNat n.val) = false := by decide +kernel
    have := this ⟨d.toNat, d.toNat_lt⟩ h48 h57
    simpa using this
  have htr : Lib.trimSpace s.data.toList = s.data.toList := by
    rw [hl]
    unfold Lib.trimSpace
    rw [List.dropWhile_cons, if_neg (by rw [hsp]; decide)]
    show ([d].dropWhile Lib.isSp).reverse = [d]
    rw [List.dropWhile_cons, if_neg (by rw [hsp]; decide)]
    rfl
  have ct := Tryd.strings_TrimSpace s w (by rw [size_list, hl]; show 1 ≤ 9223372036854775807; decide) (fun j b hb => by
    have : b ∈ s.data.toList := List.mem_of_getElem? hb
    rw [hl] at this
    have : b = d := by simpa using this
    rw [this]; omega) hT.here
  rw [htr] at ct
  have hem : s.toList.isEmpty = false := by rw [toList_data, hl]; rfl
  have C1 := Aside0.mk (fun w => atoi_dig s w d hl h48 h57)
  have CT := Aside0.mk ct
  have HB := Aside0.mk (below_bytesWorld w 5 s)
  clear htr ct hl hsp h48 h57 hT
  generalize Lib.bytesWorld w 5 s = w1 at CT HB
  go_enter Tryd.func13, Tryd.ntmps13
  go_wp2_with (first
    | ((go_at_call 16; with_reducible refine CT.out.mono ?_); rintro e w1 ⟨rfl, rfl⟩)
    | ((go_at_call 18; with_reducible refine (C1.out _).mono ?_); rintro e w2 ⟨⟨x, rfl⟩, h2⟩))
  go_ret
  exact ⟨rfl, HB.out.trans (h2.mono HB.out.size)⟩

/-- One digit. -/
def oneDig (s : ByteArray) : Bool := match s.data.toList with
  | [d] => decide (48 ≤ d.toNat) && decide (d.toNat ≤ 57)
  | _ => false
def impl_TwIsNumeric.f (a0 : ByteArray) : Option Bool := if oneDig a0 = true then some true else if a0.size ≤ 1000000 ∧ asciiB a0 = true ∧ a0.data.toList.any badL = true then some false else none
set_option maxHeartbeats 8000000 in
set_option maxRecDepth 100000 in
theorem impl_TwIsNumeric.calls (a0 : ByteArray) (r : Bool) (w : World) (hT : LaidW w) (h : impl_TwIsNumeric.f a0 = some r) :
    Calls Tryd.prog 9 #[.string a0] w fun e w' => e = .returned (.bool r) ∧ Below w.heap.size w w' := by
  have key : Calls Tryd.prog 13 #[.string a0] w fun e w' => e = .returned (.bool r) ∧ Below w.heap.size w w' := by
    unfold impl_TwIsNumeric.f at h
    split at h
    · rename_i hd
      obtain rfl := Option.some.inj h
      unfold oneDig at hd
      split at hd
      · rename_i d hl
        simp only [Bool.and_eq_true, decide_eq_true_eq] at hd
        exact numeric_dig a0 w hT d hl hd.1 hd.2
      · cases hd
    · split at h
      · rename_i hc
        obtain rfl := Option.some.inj h
        obtain ⟨c, hc1, hc2⟩ := List.any_eq_true.1 hc.2.2
        exact numeric_no a0 w hT (asciiB_iff hc.2.1) c hc1 hc2 hc.1
      · cases h
  have K := Aside0.mk key
  clear key h hT
  go_enter Tryd.func9, Tryd.ntmps9
  go_wp2_with ((go_at_call 13; with_reducible refine K.out.mono ?_); rintro e w2 ⟨rfl, h2⟩)
  go_ret
  exact ⟨rfl, h2⟩
end Go.Proofs.YtmadlpclnlbpgaaDoor.Hand
