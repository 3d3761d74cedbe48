/- laws.FnVersionRead: the walk. -/
import Derived.Test.YtmblpmmnglmjfaaGreatDoorAgVe
import Derived.Test.YtmblpmmnglmjfaaGreatDoorAgAns
import Derived.Test.YtmblpmmnglmjfaaGreatDoorAgFits
import Derived.Lib.Strings
set_option linter.unusedVariables false
set_option linter.unusedSimpArgs false
namespace Go.Proofs.YtmblpmmnglmjfaaGreatDoor
open Go.RowKit

/-- What the law has gathered after so many lines. -/
structure Vs (n : Nat) (last : Bool) (l : List (List UInt8)) (es : List Bool) (k : Nat) (tx wt : List UInt8) (fb : Bool) : Prop where
  tx : tx = textP n last l es k
  wt : wt = (foundP n last l k).getD []
  fb : fb = (foundP n last l k).isSome
section
variable {n k : Nat} {last eb t fb : Bool} {l : List (List UInt8)} {es : List Bool} {tx wt s : List UInt8}
theorem vs_text (h : Vs n last l es k tx wt fb) (hs : l[k]? = some s) (hb : es[k]? = some eb) (ht : termP n last k = t) : tx ++ lineP s eb t = textP n last l es (k + 1) := by
  rw [textP, ← h.tx, List.getD_eq_getElem?_getD, hs, List.getD_eq_getElem?_getD, hb, ht]; rfl
theorem vs_old (h : Vs n last l es k tx wt true) (hs : l[k]? = some s) (hb : es[k]? = some eb) (ht : termP n last k = t) : Vs n last l es (k + 1) (tx ++ lineP s eb t) wt true := by
  obtain ⟨x, hx⟩ := Option.isSome_iff_exists.1 h.fb.symm
  have : foundP n last l (k + 1) = some x := by rw [foundP, hx]
  exact ⟨vs_text h hs hb ht, by rw [this, h.wt, hx], by rw [this]; rfl⟩
theorem vs_none (h : Vs n last l es k tx wt false) : foundP n last l k = none := by
  cases hf : foundP n last l k with
  | none => rfl
  | some x => have := h.fb; rw [hf] at this; cases this
theorem vs_hit (h : Vs n last l es k tx wt false) (hs : l[k]? = some s) (hb : es[k]? = some eb) (ht : termP n last k = true) (hq : isSsh s = true) : Vs n last l es (k + 1) (tx ++ lineP s eb true) s true := by
  have : foundP n last l (k + 1) = some s := by rw [foundP, vs_none h, List.getD_eq_getElem?_getD, hs, ht]; simp [hq]
  exact ⟨vs_text h hs hb ht, by rw [this]; rfl, by rw [this]; rfl⟩
theorem vs_noSsh (h : Vs n last l es k tx wt false) (hs : l[k]? = some s) (hb : es[k]? = some eb) (ht : termP n last k = t) (hq : isSsh s = false) : Vs n last l es (k + 1) (tx ++ lineP s eb t) wt false := by
  have : foundP n last l (k + 1) = none := by rw [foundP, vs_none h, List.getD_eq_getElem?_getD, hs]; simp [hq]
  exact ⟨vs_text h hs hb ht, by rw [this, h.wt, vs_none h], by rw [this]; rfl⟩
theorem vs_noEnd (h : Vs n last l es k tx wt false) (hs : l[k]? = some s) (hb : es[k]? = some eb) (ht : termP n last k = false) : Vs n last l es (k + 1) (tx ++ lineP s eb false) wt false := by
  have : foundP n last l (k + 1) = none := by rw [foundP, vs_none h, ht]; simp
  exact ⟨vs_text h hs hb ht, by rw [this, h.wt, vs_none h], by rw [this]; rfl⟩
theorem lo_next (h : ∀ i, i < k → LineOk (l.getD i [])) (hs : l[k]? = some s) (ho : LineOk s) : Hid (∀ i, i < k + 1 → LineOk (l.getD i [])) := fun i hi => by
  by_cases he : i = k
  · subst he; rw [List.getD_eq_getElem?_getD, hs]; exact ho
  · exact h i (by omega)
end
theorem str_app (a b : List UInt8) : (⟨a.toArray⟩ : ByteArray) ++ ⟨b.toArray⟩ = ⟨(a ++ b).toArray⟩ := by
  apply ByteArray.ext
  simp
theorem str_2 (a b : List UInt8) (e : Bool) : Value.string ((⟨a.toArray⟩ : ByteArray) ++ ⟨b.toArray⟩) = .string ⟨(a ++ lineP b e false).toArray⟩ := by rw [str_app]; simp [lineP]
theorem str_3 (a b : List UInt8) : Value.string ((⟨a.toArray⟩ : ByteArray) ++ ⟨b.toArray⟩ ++ ⟨#[10]⟩) = .string ⟨(a ++ lineP b false true).toArray⟩ := by
  rw [str_app a b]
  exact congrArg Value.string ((str_app (a ++ b) [10]).trans (by simp [lineP]))
theorem str_4 (a b : List UInt8) : Value.string ((⟨a.toArray⟩ : ByteArray) ++ ⟨b.toArray⟩ ++ ⟨#[13]⟩ ++ ⟨#[10]⟩) = .string ⟨(a ++ lineP b true true).toArray⟩ := by
  rw [str_app a b]
  have h1 := str_app (a ++ b) [13]
  have h2 := str_app (a ++ b ++ [13]) [10]
  show Value.string ((⟨(a ++ b).toArray⟩ ++ ⟨[13].toArray⟩) ++ ⟨[10].toArray⟩) = _
  rw [h1, h2]
  simp [lineP]
theorem take_ext (s : List UInt8) : ((⟨s.toArray⟩ : ByteArray).extract 0 4).toList = s.take 4 := by
  have : (⟨s.toArray⟩ : ByteArray).extract 0 4 = ⟨(s.take 4).toArray⟩ := by
    apply ByteArray.ext
    simp
  rw [this]
  simp
theorem ssh_eq {s : List UInt8} : isSsh s = true ↔ s.take 4 = [83, 83, 72, 45] := by
  unfold isSsh
  rw [← take_eq_prefix]
  rfl
theorem ssh_len {s : List UInt8} (h : isSsh s = true) : 4 ≤ s.length := by
  have := congrArg List.length (ssh_eq.1 h)
  simp at this
  omega
theorem ssh_take {s : List UInt8} (h : isSsh s = true) : ((⟨s.toArray⟩ : ByteArray).extract 0 4).toList = [83, 83, 72, 45] := by rw [take_ext]; exact ssh_eq.1 h
theorem no_take {s : List UInt8} (h : isSsh s = false) (_ : 4 ≤ s.length) : ¬ ((⟨s.toArray⟩ : ByteArray).extract 0 4).toList = [83, 83, 72, 45] := by
  rw [take_ext]
  intro e
  rw [ssh_eq.2 e] at h
  cases h
theorem no_take' {s : List UInt8} (h : isSsh s = false) (h4 : 4 ≤ s.length) : (((⟨s.toArray⟩ : ByteArray).extract 0 4).toList == [83, 83, 72, 45]) = false := by rw [beq_eq_false_iff_ne]; exact no_take h h4

set_option maxRecDepth 100000 in
set_option maxHeartbeats 16000000 in
theorem fnversion_walk (w0 : World) (A0 A1 : Option Addr) (c0 c1 : Nat) (l : List (List UInt8)) (es : List Bool) (last : Bool) (hm0 : l.length ≤ 9223372036854775807) (hm1 : es.length ≤ 9223372036854775807) (h0 : RR (lit strV) all_ w0 A0 l) (h1 : RR (lit Value.bool) all_ w0 A1 es) (T : TypeId) (v : Value) (he : w0.cell? ⟨2, 0, none⟩ = some (.iface T v)) :
    Calls Tryz.prog 3 #[.slice A0 l.length c0, .slice A1 es.length c1, .bool last] w0 fun e w' => e = .returned (.bool true) ∧ Below w0.heap.size w0 w' := by
  have HF0 := Lib.hid (fits4 all_ A0 c0 l w0 hm0 h0)
  have HAG := Lib.hid (fun (w : World) (hb : Below w0.heap.size w0 w) => agents_walk w T v ((hb.cell (blk_lt_of_cell he)).trans he))
  by_cases m1 : es.length ≤ 2147483647
  rotate_left
  · have d1 : ((2147483647 : Int) < (es.length : Int)) = True := eq_true (by omega)
    clear m1 h0 h1 he hm0 hm1
    go_enter Tryz.func3, Tryz.ntmps3
    go_wp2_with (go_at_call 5; refine HF0.out.mono ?_; rintro e w2 ⟨⟨b, rfl⟩, hw⟩; (have hw := hw.symm); subst hw; cases b)
    all_goals
      go_ret
      exact ⟨rfl, Below.refl _ _⟩
  have d1 : ((2147483647 : Int) < (es.length : Int)) = False := eq_false (by omega)
  by_cases n0 : l.length ≤ 20
  rotate_left
  · have d2 : ((20 : Int) < (l.length : Int)) = True := eq_true (by omega)
    clear m1 n0 h0 h1 he hm0 hm1
    go_enter Tryz.func3, Tryz.ntmps3
    go_wp2_with (first
      | (go_at_call 5; refine HF0.out.mono ?_; rintro e w2 ⟨⟨b, rfl⟩, hw⟩; (have hw := hw.symm); subst hw; cases b)
      | (go_at_call 6; refine (HAG.out _ (Below.refl _ _)).mono ?_; rintro e w3 ⟨rfl, hb3⟩))
    all_goals
      go_ret
      first | exact ⟨rfl, Below.refl _ _⟩ | exact ⟨rfl, hb3⟩
  have d2 : ((20 : Int) < (l.length : Int)) = False := eq_false (by omega)
  by_cases e0 : es.length = l.length
  rotate_left
  · have d3 : (es.length == l.length) = false := by rw [beq_eq_false_iff_ne]; exact e0
    have d4 : (es.length != l.length) = true := by rw [bne_iff_ne]; exact e0
    have d5 : ((es.length : Int) == (l.length : Int)) = false := by rw [beq_eq_false_iff_ne]; omega
    have d6 : ((es.length : Int) != (l.length : Int)) = true := by rw [bne_iff_ne]; omega
    clear m1 n0 h0 h1 he hm0 hm1 e0
    go_enter Tryz.func3, Tryz.ntmps3
    go_wp2_with (first
      | (go_at_call 5; refine HF0.out.mono ?_; rintro e w2 ⟨⟨b, rfl⟩, hw⟩; (have hw := hw.symm); subst hw; cases b)
      | (go_at_call 6; refine (HAG.out _ (Below.refl _ _)).mono ?_; rintro e w3 ⟨rfl, hb3⟩))
    all_goals
      go_ret
      first | exact ⟨rfl, Below.refl _ _⟩ | exact ⟨rfl, hb3⟩
  rw [e0] at d1 ⊢
  have H0 := Lib.hid h0
  have H1 := Lib.hid h1
  have HE := Lib.hid he
  have E0 := Lib.hid e0
  clear h0 h1 he hm0 hm1 e0 m1
  go_enter Tryz.func3, Tryz.ntmps3
  go_upto_region 5 with (go_at_call 5; refine HF0.out.mono ?_; rintro e w2 ⟨⟨b, rfl⟩, hw⟩; (have hw := hw.symm); subst hw; cases b)
  all_goals (first | (go_ret; exact ⟨rfl, Below.refl _ _⟩) | skip)
  clear d1 d2 HF0
  go_wp2_with fail
  go_loopg [7, 8, 9, 36] l.length (fun gk v7 v8 v9 v36 wr => ∃ (k : Nat) (tx wt : List UInt8) (fb : Bool), v7 = .string ⟨tx.toArray⟩ ∧ v8 = .string ⟨wt.toArray⟩ ∧ v9 = .bool fb ∧ v36 = .int .i64 (k : Int) ∧ k ≤ l.length ∧ Hid (k + gk = l.length) ∧ Hid (Vs l.length last l es k tx wt fb) ∧ Hid (∀ i, i < k → LineOk (l.getD i [])) ∧ wr = w0)
  case atStart => exact ⟨0, [], [], false, rfl, rfl, rfl, rfl, Nat.zero_le _, by simp [Hid], ⟨rfl, rfl, rfl⟩, fun i hi => by omega, rfl⟩
  case round =>
    obtain ⟨k, tx, wt, fb, rfl, rfl, rfl, rfl, hk, hgk, HV, HLO, hw⟩ := hrel
    have hw := hw.symm
    subst hw
    by_cases hlt : k < l.length
    · obtain ⟨s, hs⟩ : ∃ s, l[k]? = some s := ⟨_, List.getElem?_eq_getElem hlt⟩
      obtain ⟨ad, u, rfl, _, hcz, rfl⟩ := H0.out k s hs
      have hc1 : w0.cell? (ad.add k) = some (.string ⟨s.toArray⟩) := hcz
      have HS := Lib.hid hs
      clear hs hcz
      by_cases h200 : s.length ≤ 200
      rotate_left
      · have hd : ((200 : Int) < (s.length : Int)) = True := eq_true (by omega)
        clear h200
        go_wp2_with (go_at_call 6; refine (HAG.out _ (Below.refl _ _)).mono ?_; rintro e w3 ⟨rfl, hb3⟩)
        go_ret
        exact ⟨rfl, hb3⟩
      have hd : ((200 : Int) < (s.length : Int)) = False := eq_false (by omega)
      go_wp2_with fail
      obtain ⟨go, rfl⟩ : ∃ go, go = gk := ⟨_, rfl⟩
      go_loopg [47] s.length (fun gk v47 wr1 => ∃ j : Nat, v47 = .int .i64 (j : Int) ∧ j ≤ s.length ∧ Hid (j + gk = s.length) ∧ Hid (∀ c ∈ s.take j, c ≠ 10 ∧ c ≠ 13) ∧ wr1 = w0)
      case atStart => exact ⟨0, rfl, by omega, by simp [Hid], fun c hc => by simp at hc, rfl⟩
      case round =>
        obtain ⟨j, rfl, hj, hgj, hch, hw⟩ := hrel
        have hw := hw.symm
        subst hw
        by_cases hlj : j < s.length
        · obtain ⟨x, hx⟩ : ∃ x, s[j]? = some x := ⟨_, List.getElem?_eq_getElem hlj⟩
          have hsz : j < (⟨s.toArray⟩ : ByteArray).size := by simpa [ByteArray.size] using hlj
          have hix : (⟨s.toArray⟩ : ByteArray)[j]'hsz = x := by
            obtain ⟨h1, h2⟩ := List.getElem?_eq_some_iff.1 hx
            rw [← h2]
            rfl
          have HX := Lib.hid hx
          clear hx
          by_cases h10 : x = 10
          · subst h10
            go_wp2_with (go_at_call 6; refine (HAG.out _ (Below.refl _ _)).mono ?_; rintro e w3 ⟨rfl, hb3⟩)
            go_ret
            exact ⟨rfl, hb3⟩
          by_cases h13 : x = 13
          · subst h13
            go_wp2_with (go_at_call 6; refine (HAG.out _ (Below.refl _ _)).mono ?_; rintro e w3 ⟨rfl, hb3⟩)
            go_ret
            exact ⟨rfl, hb3⟩
          have b10 : ((x.toNat : Int) == 10) = false := by
            rw [beq_eq_false_iff_ne]; intro e; exact h10 (UInt8.toNat_inj.1 (by show x.toNat = 10; omega))
          have b13 : ((x.toNat : Int) == 13) = false := by
            rw [beq_eq_false_iff_ne]; intro e; exact h13 (UInt8.toNat_inj.1 (by show x.toNat = 13; omega))
          have HN := Lib.hid (And.intro h10 h13)
          clear h10 h13
          go_wp2_with fail
          go_roundg (gk - 1)
          case measure => have := hgj.out; omega
          case rel =>
            have hg := hgj.out
            refine ⟨j + 1, by go_num, by omega, show _ = _ by omega, show ∀ q ∈ _, _ from ?_, rfl⟩
            rw [List.take_add_one, HX.out]
            intro q hq
            rcases List.mem_append.1 hq with hq | hq
            · exact hch.out q hq
            · obtain rfl : q = x := by simpa using hq
              exact HN.out
        · have hje : j = s.length := by omega
          subst hje
          have hok : LineOk s := ⟨h200, fun c hc => hch.out c (by rw [List.take_length]; exact hc)⟩
          have HOK := Lib.hid hok
          clear hch hok hgj hlj hj
          obtain ⟨eb, heb⟩ : ∃ eb, es[k]? = some eb := ⟨_, List.getElem?_eq_getElem (by rw [E0.out]; exact hlt)⟩
          obtain ⟨ad1, u1, rfl, _, hce, rfl⟩ := H1.out k eb heb
          have HB := Lib.hid heb
          have hxl : tx.length ≤ 5000 := by
            rw [HV.out.tx]
            have := textP_len l.length last l es k (fun i hi => (HLO.out i hi).1)
            omega
          clear heb
          go_upto_region 17 with fail
          by_cases hq : isSsh s = true
          · have h4 := ssh_len hq
            have hd4 : ((4 : Int) ≤ (s.length : Int)) = True := eq_true (by omega)
            have hx4 := ssh_take hq
            have HQ := Lib.hid hq
            clear hq h4
            cases last
            · by_cases hkl : k + 1 < l.length
              · have hdk : ((k : Int) < (l.length : Int) - 1) = True := eq_true (by omega)
                have HT := Lib.hid (show termP l.length false k = true by simp [termP, hkl])
                clear hkl
                cases fb
                · cases eb
                  · go_wp2_with fail
                    go_roundg (go - 1)
                    case measure => have := hgk.out; omega
                    case rel =>
                      have hg := hgk.out
                      exact ⟨k + 1, tx ++ lineP s false true, s, true, str_3 tx s, rfl, rfl, by go_num, by omega, show _ = _ by omega, vs_hit HV.out HS.out HB.out HT.out HQ.out, lo_next HLO.out HS.out HOK.out, rfl⟩
                  · go_wp2_with fail
                    go_roundg (go - 1)
                    case measure => have := hgk.out; omega
                    case rel =>
                      have hg := hgk.out
                      exact ⟨k + 1, tx ++ lineP s true true, s, true, str_4 tx s, rfl, rfl, by go_num, by omega, show _ = _ by omega, vs_hit HV.out HS.out HB.out HT.out HQ.out, lo_next HLO.out HS.out HOK.out, rfl⟩
                · cases eb
                  · go_wp2_with fail
                    go_roundg (go - 1)
                    case measure => have := hgk.out; omega
                    case rel =>
                      have hg := hgk.out
                      exact ⟨k + 1, tx ++ lineP s false true, wt, true, str_3 tx s, rfl, rfl, by go_num, by omega, show _ = _ by omega, vs_old HV.out HS.out HB.out HT.out, lo_next HLO.out HS.out HOK.out, rfl⟩
                  · go_wp2_with fail
                    go_roundg (go - 1)
                    case measure => have := hgk.out; omega
                    case rel =>
                      have hg := hgk.out
                      exact ⟨k + 1, tx ++ lineP s true true, wt, true, str_4 tx s, rfl, rfl, by go_num, by omega, show _ = _ by omega, vs_old HV.out HS.out HB.out HT.out, lo_next HLO.out HS.out HOK.out, rfl⟩
              · have hdk : ((k : Int) < (l.length : Int) - 1) = False := eq_false (by omega)
                have HT := Lib.hid (show termP l.length false k = false by simp [termP, hkl])
                clear hkl
                cases fb
                · cases eb
                  · go_wp2_with fail
                    go_roundg (go - 1)
                    case measure => have := hgk.out; omega
                    case rel =>
                      have hg := hgk.out
                      exact ⟨k + 1, tx ++ lineP s false false, wt, false, str_2 tx s false, rfl, rfl, by go_num, by omega, show _ = _ by omega, vs_noEnd HV.out HS.out HB.out HT.out, lo_next HLO.out HS.out HOK.out, rfl⟩
                  · go_wp2_with fail
                    go_roundg (go - 1)
                    case measure => have := hgk.out; omega
                    case rel =>
                      have hg := hgk.out
                      exact ⟨k + 1, tx ++ lineP s true false, wt, false, str_2 tx s true, rfl, rfl, by go_num, by omega, show _ = _ by omega, vs_noEnd HV.out HS.out HB.out HT.out, lo_next HLO.out HS.out HOK.out, rfl⟩
                · cases eb
                  · go_wp2_with fail
                    go_roundg (go - 1)
                    case measure => have := hgk.out; omega
                    case rel =>
                      have hg := hgk.out
                      exact ⟨k + 1, tx ++ lineP s false false, wt, true, str_2 tx s false, rfl, rfl, by go_num, by omega, show _ = _ by omega, vs_old HV.out HS.out HB.out HT.out, lo_next HLO.out HS.out HOK.out, rfl⟩
                  · go_wp2_with fail
                    go_roundg (go - 1)
                    case measure => have := hgk.out; omega
                    case rel =>
                      have hg := hgk.out
                      exact ⟨k + 1, tx ++ lineP s true false, wt, true, str_2 tx s true, rfl, rfl, by go_num, by omega, show _ = _ by omega, vs_old HV.out HS.out HB.out HT.out, lo_next HLO.out HS.out HOK.out, rfl⟩
            · have HT := Lib.hid (show termP l.length true k = true by simp [termP])
              cases fb
              · cases eb
                · go_wp2_with fail
                  go_roundg (go - 1)
                  case measure => have := hgk.out; omega
                  case rel =>
                    have hg := hgk.out
                    exact ⟨k + 1, tx ++ lineP s false true, s, true, str_3 tx s, rfl, rfl, by go_num, by omega, show _ = _ by omega, vs_hit HV.out HS.out HB.out HT.out HQ.out, lo_next HLO.out HS.out HOK.out, rfl⟩
                · go_wp2_with fail
                  go_roundg (go - 1)
                  case measure => have := hgk.out; omega
                  case rel =>
                    have hg := hgk.out
                    exact ⟨k + 1, tx ++ lineP s true true, s, true, str_4 tx s, rfl, rfl, by go_num, by omega, show _ = _ by omega, vs_hit HV.out HS.out HB.out HT.out HQ.out, lo_next HLO.out HS.out HOK.out, rfl⟩
              · cases eb
                · go_wp2_with fail
                  go_roundg (go - 1)
                  case measure => have := hgk.out; omega
                  case rel =>
                    have hg := hgk.out
                    exact ⟨k + 1, tx ++ lineP s false true, wt, true, str_3 tx s, rfl, rfl, by go_num, by omega, show _ = _ by omega, vs_old HV.out HS.out HB.out HT.out, lo_next HLO.out HS.out HOK.out, rfl⟩
                · go_wp2_with fail
                  go_roundg (go - 1)
                  case measure => have := hgk.out; omega
                  case rel =>
                    have hg := hgk.out
                    exact ⟨k + 1, tx ++ lineP s true true, wt, true, str_4 tx s, rfl, rfl, by go_num, by omega, show _ = _ by omega, vs_old HV.out HS.out HB.out HT.out, lo_next HLO.out HS.out HOK.out, rfl⟩
          · have hq0 : isSsh s = false := by simpa using hq
            have HQ := Lib.hid hq0
            by_cases h4 : 4 ≤ s.length
            rotate_left
            · have hd4 : ((4 : Int) ≤ (s.length : Int)) = False := eq_false (by omega)
              clear hq hq0 h4
              cases last
              · by_cases hkl : k + 1 < l.length
                · have hdk : ((k : Int) < (l.length : Int) - 1) = True := eq_true (by omega)
                  have HT := Lib.hid (show termP l.length false k = true by simp [termP, hkl])
                  clear hkl
                  cases fb
                  · cases eb
                    · go_wp2_with fail
                      go_roundg (go - 1)
                      case measure => have := hgk.out; omega
                      case rel =>
                        have hg := hgk.out
                        exact ⟨k + 1, tx ++ lineP s false true, wt, false, str_3 tx s, rfl, rfl, by go_num, by omega, show _ = _ by omega, vs_noSsh HV.out HS.out HB.out HT.out HQ.out, lo_next HLO.out HS.out HOK.out, rfl⟩
                    · go_wp2_with fail
                      go_roundg (go - 1)
                      case measure => have := hgk.out; omega
                      case rel =>
                        have hg := hgk.out
                        exact ⟨k + 1, tx ++ lineP s true true, wt, false, str_4 tx s, rfl, rfl, by go_num, by omega, show _ = _ by omega, vs_noSsh HV.out HS.out HB.out HT.out HQ.out, lo_next HLO.out HS.out HOK.out, rfl⟩
                  · cases eb
                    · go_wp2_with fail
                      go_roundg (go - 1)
                      case measure => have := hgk.out; omega
                      case rel =>
                        have hg := hgk.out
                        exact ⟨k + 1, tx ++ lineP s false true, wt, true, str_3 tx s, rfl, rfl, by go_num, by omega, show _ = _ by omega, vs_old HV.out HS.out HB.out HT.out, lo_next HLO.out HS.out HOK.out, rfl⟩
                    · go_wp2_with fail
                      go_roundg (go - 1)
                      case measure => have := hgk.out; omega
                      case rel =>
                        have hg := hgk.out
                        exact ⟨k + 1, tx ++ lineP s true true, wt, true, str_4 tx s, rfl, rfl, by go_num, by omega, show _ = _ by omega, vs_old HV.out HS.out HB.out HT.out, lo_next HLO.out HS.out HOK.out, rfl⟩
                · have hdk : ((k : Int) < (l.length : Int) - 1) = False := eq_false (by omega)
                  have HT := Lib.hid (show termP l.length false k = false by simp [termP, hkl])
                  clear hkl
                  cases fb
                  · cases eb
                    · go_wp2_with fail
                      go_roundg (go - 1)
                      case measure => have := hgk.out; omega
                      case rel =>
                        have hg := hgk.out
                        exact ⟨k + 1, tx ++ lineP s false false, wt, false, str_2 tx s false, rfl, rfl, by go_num, by omega, show _ = _ by omega, vs_noSsh HV.out HS.out HB.out HT.out HQ.out, lo_next HLO.out HS.out HOK.out, rfl⟩
                    · go_wp2_with fail
                      go_roundg (go - 1)
                      case measure => have := hgk.out; omega
                      case rel =>
                        have hg := hgk.out
                        exact ⟨k + 1, tx ++ lineP s true false, wt, false, str_2 tx s true, rfl, rfl, by go_num, by omega, show _ = _ by omega, vs_noSsh HV.out HS.out HB.out HT.out HQ.out, lo_next HLO.out HS.out HOK.out, rfl⟩
                  · cases eb
                    · go_wp2_with fail
                      go_roundg (go - 1)
                      case measure => have := hgk.out; omega
                      case rel =>
                        have hg := hgk.out
                        exact ⟨k + 1, tx ++ lineP s false false, wt, true, str_2 tx s false, rfl, rfl, by go_num, by omega, show _ = _ by omega, vs_old HV.out HS.out HB.out HT.out, lo_next HLO.out HS.out HOK.out, rfl⟩
                    · go_wp2_with fail
                      go_roundg (go - 1)
                      case measure => have := hgk.out; omega
                      case rel =>
                        have hg := hgk.out
                        exact ⟨k + 1, tx ++ lineP s true false, wt, true, str_2 tx s true, rfl, rfl, by go_num, by omega, show _ = _ by omega, vs_old HV.out HS.out HB.out HT.out, lo_next HLO.out HS.out HOK.out, rfl⟩
              · have HT := Lib.hid (show termP l.length true k = true by simp [termP])
                cases fb
                · cases eb
                  · go_wp2_with fail
                    go_roundg (go - 1)
                    case measure => have := hgk.out; omega
                    case rel =>
                      have hg := hgk.out
                      exact ⟨k + 1, tx ++ lineP s false true, wt, false, str_3 tx s, rfl, rfl, by go_num, by omega, show _ = _ by omega, vs_noSsh HV.out HS.out HB.out HT.out HQ.out, lo_next HLO.out HS.out HOK.out, rfl⟩
                  · go_wp2_with fail
                    go_roundg (go - 1)
                    case measure => have := hgk.out; omega
                    case rel =>
                      have hg := hgk.out
                      exact ⟨k + 1, tx ++ lineP s true true, wt, false, str_4 tx s, rfl, rfl, by go_num, by omega, show _ = _ by omega, vs_noSsh HV.out HS.out HB.out HT.out HQ.out, lo_next HLO.out HS.out HOK.out, rfl⟩
                · cases eb
                  · go_wp2_with fail
                    go_roundg (go - 1)
                    case measure => have := hgk.out; omega
                    case rel =>
                      have hg := hgk.out
                      exact ⟨k + 1, tx ++ lineP s false true, wt, true, str_3 tx s, rfl, rfl, by go_num, by omega, show _ = _ by omega, vs_old HV.out HS.out HB.out HT.out, lo_next HLO.out HS.out HOK.out, rfl⟩
                  · go_wp2_with fail
                    go_roundg (go - 1)
                    case measure => have := hgk.out; omega
                    case rel =>
                      have hg := hgk.out
                      exact ⟨k + 1, tx ++ lineP s true true, wt, true, str_4 tx s, rfl, rfl, by go_num, by omega, show _ = _ by omega, vs_old HV.out HS.out HB.out HT.out, lo_next HLO.out HS.out HOK.out, rfl⟩
            have hd4 : ((4 : Int) ≤ (s.length : Int)) = True := eq_true (by omega)
            have hx4 := no_take hq0 h4
            have hx5 := no_take' hq0 h4
            clear hq hq0 h4
            cases last
            · by_cases hkl : k + 1 < l.length
              · have hdk : ((k : Int) < (l.length : Int) - 1) = True := eq_true (by omega)
                have HT := Lib.hid (show termP l.length false k = true by simp [termP, hkl])
                clear hkl
                cases fb
                · cases eb
                  · go_wp2_with fail
                    go_roundg (go - 1)
                    case measure => have := hgk.out; omega
                    case rel =>
                      have hg := hgk.out
                      exact ⟨k + 1, tx ++ lineP s false true, wt, false, str_3 tx s, rfl, rfl, by go_num, by omega, show _ = _ by omega, vs_noSsh HV.out HS.out HB.out HT.out HQ.out, lo_next HLO.out HS.out HOK.out, rfl⟩
                  · go_wp2_with fail
                    go_roundg (go - 1)
                    case measure => have := hgk.out; omega
                    case rel =>
                      have hg := hgk.out
                      exact ⟨k + 1, tx ++ lineP s true true, wt, false, str_4 tx s, rfl, rfl, by go_num, by omega, show _ = _ by omega, vs_noSsh HV.out HS.out HB.out HT.out HQ.out, lo_next HLO.out HS.out HOK.out, rfl⟩
                · cases eb
                  · go_wp2_with fail
                    go_roundg (go - 1)
                    case measure => have := hgk.out; omega
                    case rel =>
                      have hg := hgk.out
                      exact ⟨k + 1, tx ++ lineP s false true, wt, true, str_3 tx s, rfl, rfl, by go_num, by omega, show _ = _ by omega, vs_old HV.out HS.out HB.out HT.out, lo_next HLO.out HS.out HOK.out, rfl⟩
                  · go_wp2_with fail
                    go_roundg (go - 1)
                    case measure => have := hgk.out; omega
                    case rel =>
                      have hg := hgk.out
                      exact ⟨k + 1, tx ++ lineP s true true, wt, true, str_4 tx s, rfl, rfl, by go_num, by omega, show _ = _ by omega, vs_old HV.out HS.out HB.out HT.out, lo_next HLO.out HS.out HOK.out, rfl⟩
              · have hdk : ((k : Int) < (l.length : Int) - 1) = False := eq_false (by omega)
                have HT := Lib.hid (show termP l.length false k = false by simp [termP, hkl])
                clear hkl
                cases fb
                · cases eb
                  · go_wp2_with fail
                    go_roundg (go - 1)
                    case measure => have := hgk.out; omega
                    case rel =>
                      have hg := hgk.out
                      exact ⟨k + 1, tx ++ lineP s false false, wt, false, str_2 tx s false, rfl, rfl, by go_num, by omega, show _ = _ by omega, vs_noSsh HV.out HS.out HB.out HT.out HQ.out, lo_next HLO.out HS.out HOK.out, rfl⟩
                  · go_wp2_with fail
                    go_roundg (go - 1)
                    case measure => have := hgk.out; omega
                    case rel =>
                      have hg := hgk.out
                      exact ⟨k + 1, tx ++ lineP s true false, wt, false, str_2 tx s true, rfl, rfl, by go_num, by omega, show _ = _ by omega, vs_noSsh HV.out HS.out HB.out HT.out HQ.out, lo_next HLO.out HS.out HOK.out, rfl⟩
                · cases eb
                  · go_wp2_with fail
                    go_roundg (go - 1)
                    case measure => have := hgk.out; omega
                    case rel =>
                      have hg := hgk.out
                      exact ⟨k + 1, tx ++ lineP s false false, wt, true, str_2 tx s false, rfl, rfl, by go_num, by omega, show _ = _ by omega, vs_old HV.out HS.out HB.out HT.out, lo_next HLO.out HS.out HOK.out, rfl⟩
                  · go_wp2_with fail
                    go_roundg (go - 1)
                    case measure => have := hgk.out; omega
                    case rel =>
                      have hg := hgk.out
                      exact ⟨k + 1, tx ++ lineP s true false, wt, true, str_2 tx s true, rfl, rfl, by go_num, by omega, show _ = _ by omega, vs_old HV.out HS.out HB.out HT.out, lo_next HLO.out HS.out HOK.out, rfl⟩
            · have HT := Lib.hid (show termP l.length true k = true by simp [termP])
              cases fb
              · cases eb
                · go_wp2_with fail
                  go_roundg (go - 1)
                  case measure => have := hgk.out; omega
                  case rel =>
                    have hg := hgk.out
                    exact ⟨k + 1, tx ++ lineP s false true, wt, false, str_3 tx s, rfl, rfl, by go_num, by omega, show _ = _ by omega, vs_noSsh HV.out HS.out HB.out HT.out HQ.out, lo_next HLO.out HS.out HOK.out, rfl⟩
                · go_wp2_with fail
                  go_roundg (go - 1)
                  case measure => have := hgk.out; omega
                  case rel =>
                    have hg := hgk.out
                    exact ⟨k + 1, tx ++ lineP s true true, wt, false, str_4 tx s, rfl, rfl, by go_num, by omega, show _ = _ by omega, vs_noSsh HV.out HS.out HB.out HT.out HQ.out, lo_next HLO.out HS.out HOK.out, rfl⟩
              · cases eb
                · go_wp2_with fail
                  go_roundg (go - 1)
                  case measure => have := hgk.out; omega
                  case rel =>
                    have hg := hgk.out
                    exact ⟨k + 1, tx ++ lineP s false true, wt, true, str_3 tx s, rfl, rfl, by go_num, by omega, show _ = _ by omega, vs_old HV.out HS.out HB.out HT.out, lo_next HLO.out HS.out HOK.out, rfl⟩
                · go_wp2_with fail
                  go_roundg (go - 1)
                  case measure => have := hgk.out; omega
                  case rel =>
                    have hg := hgk.out
                    exact ⟨k + 1, tx ++ lineP s true true, wt, true, str_4 tx s, rfl, rfl, by go_num, by omega, show _ = _ by omega, vs_old HV.out HS.out HB.out HT.out, lo_next HLO.out HS.out HOK.out, rfl⟩
    · have hke : k = l.length := by omega
      subst hke
      have hxl : tx.length ≤ 5000 := by
        rw [HV.out.tx]
        have := textP_len l.length last l es l.length (fun i hi => (HLO.out i hi).1)
        omega
      obtain ⟨cc, w1, hcv, hb1, hz1, _, _, hrr⟩ := to_bytes (P := Tryz.prog) (src := 9) (dst := 26) Tryz.underlying9 Tryz.underlying26 Tryz.underlying5 w0 tx (by omega)
      have hrv : rvP tx [] 0 = foundP l.length last l l.length := by rw [HV.out.tx]; exact rvP_all l.length last l es n0 (fun i hi => HLO.out i hi)
      have HVR := Lib.hid (vr_any w1 cc T (some ⟨w0.heap.size, 0, none⟩) tx v (hrr _ trivial) (by omega) ((hb1.cell (blk_lt_of_cell HE.out)).trans HE.out))
      rw [hrv] at HVR
      have HB1 := Lib.hid hb1
      clear hb1 hz1 hrr hrv hxl hlt hk hgk n0
      go_upto_region 26 with (go_at_call 7; refine Hid.out ?_)
      refine Lib.hid ?_
      refine HVR.out.mono ?_
      rintro e w2 ⟨hb2, ⟨x, A', c', hx, rfl, hrx⟩ | ⟨hx, rfl⟩⟩
      · have hB2 := HB1.out.trans (hb2.mono HB1.out.size)
        obtain rfl : fb = true := by rw [HV.out.fb, hx]; rfl
        obtain rfl : wt = x := by rw [HV.out.wt, hx]; rfl
        have HB2 := Lib.hid hB2
        have HRX := Lib.hid hrx
        clear hb2 hx hrx hB2 hcv
        go_wp2_with (go_at_call 6; refine (HAG.out _ HB2.out).mono ?_; rintro e w3 ⟨rfl, hb3⟩; have cv : (convert 26 9 (.slice A' wt.length c')).run Tryz.prog w3 = .ok (.string ⟨wt.toArray⟩) w3 := run_to_string (P := Tryz.prog) Tryz.underlying26 Tryz.underlying5 Tryz.underlying9 c' (HRX.out.keep (lit_steady _) (Keep.of_below hb3)); have HB3 := Lib.hid hb3; clear hb3)
        go_ret
        exact ⟨rfl, HB2.out.trans (HB3.out.mono HB2.out.size)⟩
      · have hB2 := HB1.out.trans (hb2.mono HB1.out.size)
        obtain rfl : fb = false := by rw [HV.out.fb, hx]; rfl
        have HB2 := Lib.hid hB2
        clear hb2 hx hB2 hcv
        go_wp2_with (go_at_call 6; refine (HAG.out _ HB2.out).mono ?_; rintro e w3 ⟨rfl, hb3⟩; have HB3 := Lib.hid hb3; clear hb3)
        go_ret
        exact ⟨rfl, HB2.out.trans (HB3.out.mono HB2.out.size)⟩

end Go.Proofs.YtmblpmmnglmjfaaGreatDoor
