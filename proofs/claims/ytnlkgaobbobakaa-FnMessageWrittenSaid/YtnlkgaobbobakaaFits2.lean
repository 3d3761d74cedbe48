/- laws.messageFits: where it says true, the message's parts are small and its bytes stand. -/
import Derived.Test.YtnlkgaobbobakaaMsgBytesW
import Derived.Test.YtnlkgaobbobakaaSpecReadW
import Derived.Test.YtnlkgaobbobakaaFits
set_option linter.unusedVariables false
set_option linter.unusedSimpArgs false
namespace Go.Proofs.Ytnlkgaobbobakaa
open Go.RowKit

theorem shape_small {n : Int} {form : List UInt8} (h : shapeP n = some form) : letters form ∧ form.length ≤ 100 := by
  unfold shapeP at h
  unfold letters
  by_cases h1 : n = 1
  · rw [if_pos h1] at h; injection h with h; subst h; exact ⟨by decide, by decide⟩
  rw [if_neg h1] at h
  by_cases h5 : n = 5
  · rw [if_pos h5] at h; injection h with h; subst h; exact ⟨by decide, by decide⟩
  rw [if_neg h5] at h
  by_cases h6 : n = 6
  · rw [if_pos h6] at h; injection h with h; subst h; exact ⟨by decide, by decide⟩
  rw [if_neg h6] at h
  by_cases h20 : n = 20
  · rw [if_pos h20] at h; injection h with h; subst h; exact ⟨by decide, by decide⟩
  rw [if_neg h20] at h
  by_cases h50 : n = 50
  · rw [if_pos h50] at h; injection h with h; subst h; exact ⟨by decide, by decide⟩
  rw [if_neg h50] at h
  by_cases h51 : n = 51
  · rw [if_pos h51] at h; injection h with h; subst h; exact ⟨by decide, by decide⟩
  rw [if_neg h51] at h
  by_cases h52 : n = 52
  · rw [if_pos h52] at h; injection h with h; subst h; exact ⟨by decide, by decide⟩
  rw [if_neg h52] at h
  by_cases h80 : n = 80
  · rw [if_pos h80] at h; injection h with h; subst h; exact ⟨by decide, by decide⟩
  rw [if_neg h80] at h
  by_cases h81 : n = 81
  · rw [if_pos h81] at h; injection h with h; subst h; exact ⟨by decide, by decide⟩
  rw [if_neg h81] at h
  by_cases h82 : n = 82
  · rw [if_pos h82] at h; injection h with h; subst h; exact ⟨by decide, by decide⟩
  rw [if_neg h82] at h
  by_cases h90 : n = 90
  · rw [if_pos h90] at h; injection h with h; subst h; exact ⟨by decide, by decide⟩
  rw [if_neg h90] at h
  by_cases h91 : n = 91
  · rw [if_pos h91] at h; injection h with h; subst h; exact ⟨by decide, by decide⟩
  rw [if_neg h91] at h
  by_cases h92 : n = 92
  · rw [if_pos h92] at h; injection h with h; subst h; exact ⟨by decide, by decide⟩
  rw [if_neg h92] at h
  by_cases h93 : n = 93
  · rw [if_pos h93] at h; injection h with h; subst h; exact ⟨by decide, by decide⟩
  rw [if_neg h93] at h
  by_cases h96 : n = 96
  · rw [if_pos h96] at h; injection h with h; subst h; exact ⟨by decide, by decide⟩
  rw [if_neg h96] at h
  by_cases h97 : n = 97
  · rw [if_pos h97] at h; injection h with h; subst h; exact ⟨by decide, by decide⟩
  rw [if_neg h97] at h
  by_cases h98 : n = 98
  · rw [if_pos h98] at h; injection h with h; subst h; exact ⟨by decide, by decide⟩
  rw [if_neg h98] at h
  by_cases h99 : n = 99
  · rw [if_pos h99] at h; injection h with h; subst h; exact ⟨by decide, by decide⟩
  rw [if_neg h99] at h
  by_cases h100 : n = 100
  · rw [if_pos h100] at h; injection h with h; subst h; exact ⟨by decide, by decide⟩
  rw [if_neg h100] at h
  cases h

theorem idx_str {y : List UInt8} {i : Nat} {z : UInt8} (hz : y[i]? = some z) (W : World) : (Instr.index 9 (.string ⟨y.toArray⟩) (.int .i64 (i : Int))).run Try.prog W = .ok (.int .u8 (z.toNat : Int)) W := by
  obtain ⟨h1, h2⟩ := List.getElem?_eq_some_iff.1 hz
  have hs : (⟨y.toArray⟩ : ByteArray).size = y.length := by simp [ByteArray.size]
  rw [run_index_string W _ _ _ _ Try.underlying9, dif_pos ⟨Int.natCast_nonneg _, by rw [hs]; omega⟩]
  have : (⟨y.toArray⟩ : ByteArray)[(i : Int).toNat]'(by rw [hs]; omega) = z := by
    rw [← h2]; rfl
  rw [this]
/-- How messageFits ends. -/
def FitEnd (w0 : World) (M : Msg) (e : Ending) (w' : World) : Prop := ∃ b, e = .returned (.bool b) ∧ (b = true → Fit M ∧ (msgBytesP M).2 = true) ∧ Below w0.heap.size w0 w'
theorem FitEnd.no {w0 w' : World} {M : Msg} (h : Below w0.heap.size w0 w') : FitEnd w0 M (.returned (.bool false)) w' := ⟨false, rfl, fun h => absurd h (by decide), h⟩

set_option maxRecDepth 100000 in
set_option maxHeartbeats 1600000 in
theorem fit_walk (w0 : World) (v : Value) (M : Msg) (h : MsgS all_ w0 v M) (hu : ∀ n ∈ M.ints, n < 4294967296) (hnum : -9223372036854775808 ≤ M.number ∧ M.number ≤ 9223372036854775807) :
    Calls Try.prog 6 #[v] w0 (FitEnd w0 M) := by
  obtain ⟨vI, vS, vN, vT, vB, rfl, ⟨AI, cI, rfl, i1, i2, hI⟩, ⟨AS, cS, rfl, s1, s2, hS⟩, ⟨AN, cN, rfl, n1, n2, hN⟩, ⟨AT, cT, rfl, t1, t2, hT⟩, ⟨AB, cB, rfl, b1, b2, hB⟩⟩ := h
  obtain ⟨W, hW⟩ : ∃ W, W = w0.alloc (.cells #[.int .i64 M.number, .slice AI M.ints.length cI, .slice AS M.strings.length cS, .slice AN M.names.length cN, .slice AT M.truths.length cT, .slice AB M.bytes.length cB] 28) := ⟨_, rfl⟩
  have hk : Keep all_ w0 W := by rw [hW]; exact (Keep.refl _ _).alloc _
  have HB0 := Lib.hid (show Below w0.heap.size w0 W from hk.below)
  have HI := Lib.hid (show _ ∧ _ ∧ _ from ⟨i1, i2, hI.keep (lit_steady _) hk⟩)
  have HS := Lib.hid (show _ ∧ _ ∧ _ from ⟨s1, s2, hS.keep (lit_steady _) hk⟩)
  have HN := Lib.hid (show _ ∧ _ ∧ _ from ⟨n1, n2, hN.keep strs_steady hk⟩)
  have HT := Lib.hid (show _ ∧ _ ∧ _ from ⟨t1, t2, hT.keep (lit_steady _) hk⟩)
  have HB := Lib.hid (show _ ∧ _ ∧ _ from ⟨b1, b2, hB.keep (lit_steady _) hk⟩)
  have HU := Lib.hid hu
  have HNum := Lib.hid hnum
  have hW1 : ∀ b : Obj, Below w0.heap.size w0 (w0.alloc b) := fun b => (Below.refl _ _).alloc (Nat.le_refl _) b
  have ba := Blk.new w0 28 #[.int .i64 M.number, .slice AI M.ints.length cI, .slice AS M.strings.length cS, .slice AN M.names.length cN, .slice AT M.truths.length cT, .slice AB M.bytes.length cB]
  rw [← hW] at ba
  have c0 := ba.cell 0
  have c1 := ba.cell 1
  have c2 := ba.cell 2
  have c3 := ba.cell 3
  have c4 := ba.cell 4
  have c5 := ba.cell 5
  simp at c0 c1 c2 c3 c4 c5
  clear ba hI hS hN hT hB hk i1 i2 s1 s2 n1 n2 t1 t2 b1 b2 hu hnum
  by_cases q1 : M.ints.length ≤ 10
  rotate_left
  · have d1 : (10 < (M.ints.length : Int)) = True := eq_true (by omega)
    clear q1
    go_enter Try.func6, Try.ntmps6
    go_wp2_with fail
    go_ret
    exact FitEnd.no (hW1 _)
  have d1 : (10 < (M.ints.length : Int)) = False := eq_false (by omega)
  by_cases q2 : M.strings.length ≤ 10
  rotate_left
  · have d2 : (10 < (M.strings.length : Int)) = True := eq_true (by omega)
    clear q1 q2
    go_enter Try.func6, Try.ntmps6
    go_wp2_with fail
    go_ret
    exact FitEnd.no (hW1 _)
  have d2 : (10 < (M.strings.length : Int)) = False := eq_false (by omega)
  by_cases q3 : M.names.length ≤ 10
  rotate_left
  · have d3 : (10 < (M.names.length : Int)) = True := eq_true (by omega)
    clear q1 q2 q3
    go_enter Try.func6, Try.ntmps6
    go_wp2_with fail
    go_ret
    exact FitEnd.no (hW1 _)
  have d3 : (10 < (M.names.length : Int)) = False := eq_false (by omega)
  by_cases q4 : M.truths.length ≤ 5
  rotate_left
  · have d4 : (5 < (M.truths.length : Int)) = True := eq_true (by omega)
    clear q1 q2 q3 q4
    go_enter Try.func6, Try.ntmps6
    go_wp2_with fail
    go_ret
    exact FitEnd.no (hW1 _)
  have d4 : (5 < (M.truths.length : Int)) = False := eq_false (by omega)
  by_cases q5 : M.bytes.length ≤ 500
  rotate_left
  · have d5 : (500 < (M.bytes.length : Int)) = True := eq_true (by omega)
    clear q1 q2 q3 q4 q5
    go_enter Try.func6, Try.ntmps6
    go_wp2_with fail
    go_ret
    exact FitEnd.no (hW1 _)
  have d5 : (500 < (M.bytes.length : Int)) = False := eq_false (by omega)
  have HQ := Lib.hid (show _ ∧ _ ∧ _ ∧ _ ∧ _ from ⟨q1, q2, q3, q4, q5⟩)
  clear q1 q4 q5
  go_enter Try.func6, Try.ntmps6
  go_wp2_with fail
  rw [← hW]
  clear d1 d2 d3 d4 d5 hW hW1
  go_loopg [43] M.strings.length (fun gk v43 wr => ∃ k : Nat, v43 = .int .i64 (k : Int) ∧ k ≤ M.strings.length ∧ Hid (k + gk = M.strings.length) ∧ wr = W ∧ Hid (∀ s ∈ M.strings.take k, s.length ≤ 200))
  case atStart => exact ⟨0, rfl, by omega, by simp [Hid], rfl, fun s hs => by simp at hs⟩
  case round =>
    obtain ⟨k, rfl, hk, hgk, rfl, hall⟩ := hrel
    by_cases hlt : k < M.strings.length
    · obtain ⟨x, hx⟩ : ∃ x, M.strings[k]? = some x := ⟨_, List.getElem?_eq_getElem hlt⟩
      obtain ⟨ad, v, rfl, _, hc1, rfl⟩ := HS.out.2.2 k x hx
      have e1 : wr.cell? (ad.add k) = some (.string ⟨x.toArray⟩) := hc1
      have hx1 : M.strings.take (k + 1) = M.strings.take k ++ [x] := by rw [List.take_add_one, hx]; rfl
      have HX := Lib.hid hx1
      clear hx hc1 hx1
      by_cases q : x.length ≤ 200
      rotate_left
      · have d : (200 < (x.length : Int)) = True := eq_true (by omega)
        clear q
        go_wp2_with fail
        go_ret
        exact FitEnd.no HB0.out
      · have d : (200 < (x.length : Int)) = False := eq_false (by omega)
        have Q := Lib.hid q
        clear q
        go_wp2_with fail
        go_roundg (gk - 1)
        case measure => have := hgk.out; omega
        case rel =>
          have hg := hgk.out
          refine ⟨k + 1, by go_num, by omega, show _ = _ by omega, rfl, show ∀ s ∈ _, _ from ?_⟩
          rw [HX.out]
          intro s hs
          rcases List.mem_append.1 hs with hs | hs
          · exact hall.out s hs
          · obtain rfl := List.mem_singleton.1 hs
            exact Q.out
    · have hke : k = M.strings.length := by omega
      subst hke
      have HALL := Lib.hid (show ∀ s ∈ M.strings, s.length ≤ 200 by have := hall.out; rwa [List.take_length] at this)
      clear hall hgk hk hlt
      go_wp2_with fail
      go_loopg [54] M.names.length (fun gk v54 wr1 => ∃ k : Nat, v54 = .int .i64 (k : Int) ∧ k ≤ M.names.length ∧ Hid (k + gk = M.names.length) ∧ wr1 = wr ∧ Hid (∀ l ∈ M.names.take k, l.length ≤ 10 ∧ ∀ s ∈ l, s.length ≤ 60 ∧ s ≠ [] ∧ ∀ c ∈ s, c ≠ 44))
      case atStart => exact ⟨0, rfl, by omega, by simp [Hid], rfl, fun s hs => by simp at hs⟩
      case round =>
        obtain ⟨k, rfl, hk, hgk, rfl, hall⟩ := hrel
        obtain ⟨go, rfl⟩ : ∃ go, go = gk := ⟨_, rfl⟩
        by_cases hlt : k < M.names.length
        · obtain ⟨x, hx⟩ : ∃ x, M.names[k]? = some x := ⟨_, List.getElem?_eq_getElem hlt⟩
          obtain ⟨ad, v, rfl, _, hc1, A2, e2, rfl, f1, f2, f3⟩ := HN.out.2.2 k x hx
          have hx1 : M.names.take (k + 1) = M.names.take k ++ [x] := by rw [List.take_add_one, hx]; rfl
          have HX := Lib.hid hx1
          have HR2 := Lib.hid f3
          clear hx hx1 f3
          by_cases q : x.length ≤ 10
          rotate_left
          · have d : (10 < (x.length : Int)) = True := eq_true (by omega)
            clear q
            go_wp2_with fail
            go_ret
            exact FitEnd.no HB0.out
          have d : (10 < (x.length : Int)) = False := eq_false (by omega)
          go_wp2_with fail
          clear d
          go_loopg [63] x.length (fun gk v63 wr2 => ∃ j : Nat, v63 = .int .i64 (j : Int) ∧ j ≤ x.length ∧ Hid (j + gk = x.length) ∧ wr2 = wr ∧ Hid (∀ s ∈ x.take j, s.length ≤ 60 ∧ s ≠ [] ∧ ∀ c ∈ s, c ≠ 44))
          case atStart => exact ⟨0, rfl, by omega, by simp [Hid], rfl, fun s hs => by simp at hs⟩
          case round =>
            obtain ⟨j, rfl, hj, hgj, rfl, hall2⟩ := hrel
            obtain ⟨g2, rfl⟩ : ∃ g2, g2 = gk := ⟨_, rfl⟩
            by_cases hlj : j < x.length
            · obtain ⟨y, hy⟩ : ∃ y, x[j]? = some y := ⟨_, List.getElem?_eq_getElem hlj⟩
              obtain ⟨ad2, v, rfl, _, hc2, rfl⟩ := HR2.out j y hy
              have hc3 : wr.cell? (ad2.add j) = some (.string ⟨y.toArray⟩) := hc2
              have hy1 : x.take (j + 1) = x.take j ++ [y] := by rw [List.take_add_one, hy]; rfl
              have HY := Lib.hid hy1
              clear hy hc2 hy1
              by_cases hye : y = []
              · subst hye
                go_wp2_with fail
                go_ret
                exact FitEnd.no HB0.out
              by_cases q : y.length ≤ 60
              rotate_left
              · have d : (60 < (y.length : Int)) = True := eq_true (by omega)
                clear q
                go_wp2_with fail
                go_ret
                exact FitEnd.no HB0.out
              have d : (60 < (y.length : Int)) = False := eq_false (by omega)
              have hyl : y.length ≤ 1000 := by omega
              have Q := Lib.hid (show _ ∧ _ from ⟨q, hye⟩)
              clear q
              have hem : y.isEmpty = false := by cases y with | nil => exact absurd rfl hye | cons a b => rfl
              clear hye
              go_wp2_with fail
              clear d hem
              go_loopg [76] y.length (fun gk v76 wr3 => ∃ i : Nat, v76 = .int .i64 (i : Int) ∧ i ≤ y.length ∧ Hid (i + gk = y.length) ∧ wr3 = wr ∧ Hid (∀ c ∈ y.take i, c ≠ 44))
              case atStart => exact ⟨0, rfl, by omega, by simp [Hid], rfl, fun s hs => by simp at hs⟩
              case round =>
                obtain ⟨i, rfl, hi, hgi, rfl, hall3⟩ := hrel
                by_cases hli : i < y.length
                · obtain ⟨z, hz⟩ : ∃ z, y[i]? = some z := ⟨_, List.getElem?_eq_getElem hli⟩
                  have hz1 : y.take (i + 1) = y.take i ++ [z] := by rw [List.take_add_one, hz]; rfl
                  have hix : ∀ W : World, (Instr.index 9 (.string ⟨y.toArray⟩) (.int .i64 (i : Int))).run Try.prog W = .ok (.int .u8 (z.toNat : Int)) W := fun W => idx_str hz W
                  have HZ := Lib.hid hz1
                  clear hz hz1
                  by_cases hz44 : z = 44
                  · subst hz44
                    go_wp2_with fail
                    go_ret
                    exact FitEnd.no HB0.out
                  · have hzb : ((z.toNat : Int) == 44) = false := by
                      rw [beq_eq_false_iff_ne]
                      exact fun e => hz44 (UInt8.toNat_inj.1 (show z.toNat = 44 by omega))
                    have HZ44 := Lib.hid hz44
                    clear hz44
                    go_wp2_with fail
                    go_roundg (gk - 1)
                    case measure => have := hgi.out; omega
                    case rel =>
                      have hg := hgi.out
                      refine ⟨i + 1, by go_num, by omega, show _ = _ by omega, rfl, show ∀ c ∈ _, _ from ?_⟩
                      rw [HZ.out]
                      intro s hs
                      rcases List.mem_append.1 hs with hs | hs
                      · exact hall3.out s hs
                      · obtain rfl := List.mem_singleton.1 hs
                        exact HZ44.out
                · have hie : i = y.length := by omega
                  subst hie
                  have H3 := Lib.hid (show ∀ c ∈ y, c ≠ 44 by have := hall3.out; rwa [List.take_length] at this)
                  go_wp2_with fail
                  go_roundg (g2 - 1)
                  case measure => have := hgj.out; omega
                  case rel =>
                    have hg := hgj.out
                    refine ⟨j + 1, by go_num, by omega, show _ = _ by omega, rfl, show ∀ s ∈ _, _ from ?_⟩
                    rw [HY.out]
                    intro s hs
                    rcases List.mem_append.1 hs with hs | hs
                    · exact hall2.out s hs
                    · obtain rfl := List.mem_singleton.1 hs
                      exact ⟨Q.out.1, Q.out.2, H3.out⟩
            · have hje : j = x.length := by omega
              subst hje
              have H2 := Lib.hid (show ∀ s ∈ x, s.length ≤ 60 ∧ s ≠ [] ∧ ∀ c ∈ s, c ≠ 44 by have := hall2.out; rwa [List.take_length] at this)
              have Q := Lib.hid q
              clear hall2
              go_wp2_with fail
              go_roundg (go - 1)
              case measure => have := hgk.out; omega
              case rel =>
                have hg := hgk.out
                refine ⟨k + 1, by go_num, by omega, show _ = _ by omega, rfl, show ∀ s ∈ _, _ from ?_⟩
                rw [HX.out]
                intro s hs
                rcases List.mem_append.1 hs with hs | hs
                · exact hall.out s hs
                · obtain rfl := List.mem_singleton.1 hs
                  exact ⟨Q.out, H2.out⟩
        · have hke : k = M.names.length := by omega
          subst hke
          have HN2 := Lib.hid (show ∀ l ∈ M.names, l.length ≤ 10 ∧ ∀ s ∈ l, s.length ≤ 60 ∧ s ≠ [] ∧ ∀ c ∈ s, c ≠ 44 by have := hall.out; rwa [List.take_length] at this)
          have hfit : Fit M := ⟨HQ.out.1, HU.out, HQ.out.2.1, HALL.out, HQ.out.2.2.1, HN2.out, HQ.out.2.2.2.1, HQ.out.2.2.2.2⟩
          have hform : letters ((shapeP M.number).getD []) ∧ ((shapeP M.number).getD []).length ≤ 100 := by
            cases hs : shapeP M.number with
            | none => exact ⟨fun c hc => by simp at hc, by simp⟩
            | some f => exact shape_small hs
          have HM := Lib.hid (mb_walk wr all_ AI AS AN AT AB cI cS cN cT cB M _ hfit rfl hform.2 hform.1 HNum.out HI.out HS.out HN.out HT.out HB.out)
          have HF := Lib.hid hfit
          clear hfit hform hall
          go_wp2_with (go_at_call 8; refine HM.out.mono ?_; rintro e w1 ⟨A, c, rfl, hown, hc, hm, hb⟩; have HB1 := Lib.hid hb; clear hown hb)
          go_ret
          exact ⟨_, rfl, fun h => ⟨HF.out, h⟩, HB0.out.trans (HB1.out.mono HB0.out.size)⟩

end Go.Proofs.Ytnlkgaobbobakaa
