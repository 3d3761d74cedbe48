/- laws.sameMessage of a message that stands twice: true. -/
import Derived.Test.YtnlkgaobbobakaaSpecReadW
set_option linter.unusedVariables false
set_option linter.unusedSimpArgs false
namespace Go.Proofs.Ytnlkgaobbobakaa
open Go.RowKit

theorem Keep.of_all {W w : World} {n : Nat} (h : Keep all_ W w) (hn : n ≤ W.heap.size) : Below n W w := ⟨h.os, h.tape, h.output, h.size, fun k hk => h.block k (by omega) trivial⟩
set_option maxRecDepth 100000 in
set_option maxHeartbeats 1600000 in
theorem same_walk (w0 : World) (v1 v2 : Value) (M : Msg) (h1 : MsgS all_ w0 v1 M) (h2 : MsgS all_ w0 v2 M) :
    Calls Try.prog 11 #[v1, v2] w0 fun e w' => e = .returned (.bool true) ∧ Below w0.heap.size w0 w' := by
  obtain ⟨vI, vS, vN, vT, vB, rfl, ⟨AI, cI, rfl, i1, i2, hI⟩, ⟨AS, cS, rfl, s1, s2, hS⟩, ⟨AN, cN, rfl, n1, n2, hN⟩, ⟨AT, cT, rfl, t1, t2, hT⟩, ⟨AB, cB, rfl, b1, b2, hB⟩⟩ := h1
  obtain ⟨vI, vS, vN, vT, vB, rfl, ⟨BI, dI, rfl, j1, j2, kI⟩, ⟨BS, dS, rfl, u1, u2, kS⟩, ⟨BN, dN, rfl, o1, o2, kN⟩, ⟨BT, dT, rfl, x1, x2, kT⟩, ⟨BB, dB, rfl, y1, y2, kB⟩⟩ := h2
  obtain ⟨num, ints, strings, names, truths, bytes⟩ := M
  simp only at *
  obtain ⟨W, hW⟩ : ∃ W, W = (w0.alloc (.cells #[.int .i64 num, .slice AI ints.length cI, .slice AS strings.length cS, .slice AN names.length cN, .slice AT truths.length cT, .slice AB bytes.length cB] 28)).alloc (.cells #[.int .i64 num, .slice BI ints.length dI, .slice BS strings.length dS, .slice BN names.length dN, .slice BT truths.length dT, .slice BB bytes.length dB] 28) := ⟨_, rfl⟩
  have hk : Keep all_ w0 W := by rw [hW]; exact ((Keep.refl _ _).alloc _).alloc _
  have HB := Lib.hid (show Below w0.heap.size w0 W from hk.below)
  have HI := Lib.hid (hI.keep (lit_steady _) hk)
  have HS := Lib.hid (hS.keep (lit_steady _) hk)
  have HN := Lib.hid (hN.keep strs_steady hk)
  have HT := Lib.hid (hT.keep (lit_steady _) hk)
  have KI := Lib.hid (kI.keep (lit_steady _) hk)
  have KS := Lib.hid (kS.keep (lit_steady _) hk)
  have KN := Lib.hid (kN.keep strs_steady hk)
  have KT := Lib.hid (kT.keep (lit_steady _) hk)
  have cv1 : (convert 26 9 (.slice AB bytes.length cB)).run Try.prog ((w0.alloc (.cells #[.int .i64 num, .slice AI ints.length cI, .slice AS strings.length cS, .slice AN names.length cN, .slice AT truths.length cT, .slice AB bytes.length cB] 28)).alloc (.cells #[.int .i64 num, .slice BI ints.length dI, .slice BS strings.length dS, .slice BN names.length dN, .slice BT truths.length dT, .slice BB bytes.length dB] 28)) = .ok (.string ⟨bytes.toArray⟩) ((w0.alloc (.cells #[.int .i64 num, .slice AI ints.length cI, .slice AS strings.length cS, .slice AN names.length cN, .slice AT truths.length cT, .slice AB bytes.length cB] 28)).alloc (.cells #[.int .i64 num, .slice BI ints.length dI, .slice BS strings.length dS, .slice BN names.length dN, .slice BT truths.length dT, .slice BB bytes.length dB] 28)) := by rw [← hW]; exact run_to_string Try.underlying26 Try.underlying5 Try.underlying9 cB (hB.keep (lit_steady _) hk)
  have cv2 : (convert 26 9 (.slice BB bytes.length dB)).run Try.prog ((w0.alloc (.cells #[.int .i64 num, .slice AI ints.length cI, .slice AS strings.length cS, .slice AN names.length cN, .slice AT truths.length cT, .slice AB bytes.length cB] 28)).alloc (.cells #[.int .i64 num, .slice BI ints.length dI, .slice BS strings.length dS, .slice BN names.length dN, .slice BT truths.length dT, .slice BB bytes.length dB] 28)) = .ok (.string ⟨bytes.toArray⟩) ((w0.alloc (.cells #[.int .i64 num, .slice AI ints.length cI, .slice AS strings.length cS, .slice AN names.length cN, .slice AT truths.length cT, .slice AB bytes.length cB] 28)).alloc (.cells #[.int .i64 num, .slice BI ints.length dI, .slice BS strings.length dS, .slice BN names.length dN, .slice BT truths.length dT, .slice BB bytes.length dB] 28)) := by rw [← hW]; exact run_to_string Try.underlying26 Try.underlying5 Try.underlying9 dB (kB.keep (lit_steady _) hk)
  have ba := Blk.new w0 28 #[.int .i64 num, .slice AI ints.length cI, .slice AS strings.length cS, .slice AN names.length cN, .slice AT truths.length cT, .slice AB bytes.length cB]
  have bb := Blk.new (w0.alloc (.cells #[.int .i64 num, .slice AI ints.length cI, .slice AS strings.length cS, .slice AN names.length cN, .slice AT truths.length cT, .slice AB bytes.length cB] 28)) 28 #[.int .i64 num, .slice BI ints.length dI, .slice BS strings.length dS, .slice BN names.length dN, .slice BT truths.length dT, .slice BB bytes.length dB]
  rw [← hW] at bb
  have ba2 := ba.alloc (.cells #[.int .i64 num, .slice BI ints.length dI, .slice BS strings.length dS, .slice BN names.length dN, .slice BT truths.length dT, .slice BB bytes.length dB] 28)
  rw [← hW] at ba2
  simp only [World.size_alloc] at bb
  have HA := Lib.hid ba2
  have HBB := Lib.hid bb
  clear ba bb ba2 hI hS hN hT hB kI kS kN kT kB hk
  go_enter Try.func11, Try.ntmps11
  go_wp2_with fail
  rw [← hW]
  clear cv1 cv2 hW
  go_loopg [63] ints.length (fun gk v63 wr => ∃ k : Nat, v63 = .int .i64 (k : Int) ∧ k ≤ ints.length ∧ Hid (k + gk = ints.length) ∧ Hid (Keep all_ W wr))
  case atStart => exact ⟨0, rfl, by omega, by simp [Hid], Keep.refl _ _⟩
  case round =>
    obtain ⟨k, rfl, hk, hgk, HW1⟩ := hrel
    have m1 := (HA.out.keep HW1.out trivial).cell 1
    have m2 := (HBB.out.keep HW1.out trivial).cell 1
    by_cases hlt : k < ints.length
    · obtain ⟨x, hx⟩ : ∃ x, ints[k]? = some x := ⟨_, List.getElem?_eq_getElem hlt⟩
      obtain ⟨ad, v, rfl, _, hc1, rfl⟩ := (HI.out.keep (lit_steady _) HW1.out) k x hx
      obtain ⟨ad2, v, rfl, _, hc2, rfl⟩ := (KI.out.keep (lit_steady _) HW1.out) k x hx
      have d1 : wr.cell? (ad.add k) = some (.int .u32 (x : Int)) := hc1
      have d2 : wr.cell? (ad2.add k) = some (.int .u32 (x : Int)) := hc2
      have hlti : (k : Int) < (ints.length : Int) := by omega
      simp at m1 m2
      clear hx hc1 hc2
      go_wp2_with fail
      go_quiet (fail)
      go_wp2_with fail
      go_roundg (gk - 1)
      case measure => have := hgk.out; omega
      case rel =>
        have hg := hgk.out
        exact ⟨k + 1, by go_num, by omega, show _ = _ by omega, HW1.out.drewN _⟩
    · have hke : k = ints.length := by omega
      subst hke
      clear m1 m2
      have m1 := (HA.out.keep HW1.out trivial).cell 2
      simp at m1
      go_wp2_with fail
      clear m1 hlt hk hgk
      go_loopg [81] strings.length (fun gk v81 wr => ∃ k : Nat, v81 = .int .i64 (k : Int) ∧ k ≤ strings.length ∧ Hid (k + gk = strings.length) ∧ Hid (Keep all_ W wr))
      case atStart => exact ⟨0, rfl, by omega, by simp [Hid], HW1.out⟩
      case round =>
        obtain ⟨k, rfl, hk, hgk, HW2⟩ := hrel
        have m1 := (HA.out.keep HW2.out trivial).cell 2
        have m2 := (HBB.out.keep HW2.out trivial).cell 2
        by_cases hlt : k < strings.length
        · obtain ⟨x, hx⟩ : ∃ x, strings[k]? = some x := ⟨_, List.getElem?_eq_getElem hlt⟩
          obtain ⟨ad, v, rfl, _, hc1, rfl⟩ := (HS.out.keep (lit_steady _) HW2.out) k x hx
          obtain ⟨ad2, v, rfl, _, hc2, rfl⟩ := (KS.out.keep (lit_steady _) HW2.out) k x hx
          have d1 : wr.cell? (ad.add k) = some (.string ⟨x.toArray⟩) := hc1
          have d2 : wr.cell? (ad2.add k) = some (.string ⟨x.toArray⟩) := hc2
          have hlti : (k : Int) < (strings.length : Int) := by omega
          simp at m1 m2
          clear hx hc1 hc2
          go_wp2_with fail
          go_quiet (fail)
          go_wp2_with fail
          go_roundg (gk - 1)
          case measure => have := hgk.out; omega
          case rel =>
            have hg := hgk.out
            exact ⟨k + 1, by go_num, by omega, show _ = _ by omega, HW2.out.drewN _⟩
        · have hke : k = strings.length := by omega
          subst hke
          clear m1 m2
          have m1 := (HA.out.keep HW2.out trivial).cell 4
          simp at m1
          go_wp2_with fail
          clear m1 hlt hk hgk
          go_loopg [99] truths.length (fun gk v99 wr => ∃ k : Nat, v99 = .int .i64 (k : Int) ∧ k ≤ truths.length ∧ Hid (k + gk = truths.length) ∧ Hid (Keep all_ W wr))
          case atStart => exact ⟨0, rfl, by omega, by simp [Hid], HW2.out⟩
          case round =>
            obtain ⟨k, rfl, hk, hgk, HW3⟩ := hrel
            have m1 := (HA.out.keep HW3.out trivial).cell 4
            have m2 := (HBB.out.keep HW3.out trivial).cell 4
            by_cases hlt : k < truths.length
            · obtain ⟨x, hx⟩ : ∃ x, truths[k]? = some x := ⟨_, List.getElem?_eq_getElem hlt⟩
              obtain ⟨ad, v, rfl, _, hc1, rfl⟩ := (HT.out.keep (lit_steady _) HW3.out) k x hx
              obtain ⟨ad2, v, rfl, _, hc2, rfl⟩ := (KT.out.keep (lit_steady _) HW3.out) k x hx
              have d1 : wr.cell? (ad.add k) = some (.bool x) := hc1
              have d2 : wr.cell? (ad2.add k) = some (.bool x) := hc2
              have hlti : (k : Int) < (truths.length : Int) := by omega
              simp at m1 m2
              clear hx hc1 hc2
              go_wp2_with fail
              go_quiet (fail)
              go_wp2_with fail
              go_roundg (gk - 1)
              case measure => have := hgk.out; omega
              case rel =>
                have hg := hgk.out
                exact ⟨k + 1, by go_num, by omega, show _ = _ by omega, HW3.out.drewN _⟩
            · have hke : k = truths.length := by omega
              subst hke
              clear m1 m2
              have m1 := (HA.out.keep HW3.out trivial).cell 3
              simp at m1
              go_wp2_with fail
              clear m1 hlt hk hgk
              go_loopg [117] names.length (fun gk v117 wr => ∃ k : Nat, v117 = .int .i64 (k : Int) ∧ k ≤ names.length ∧ Hid (k + gk = names.length) ∧ Hid (Keep all_ W wr))
              case atStart => exact ⟨0, rfl, by omega, by simp [Hid], HW3.out⟩
              case round =>
                obtain ⟨k, rfl, hk, hgk, HW4⟩ := hrel
                have m1 := (HA.out.keep HW4.out trivial).cell 3
                have m2 := (HBB.out.keep HW4.out trivial).cell 3
                by_cases hlt : k < names.length
                · obtain ⟨x, hx⟩ : ∃ x, names[k]? = some x := ⟨_, List.getElem?_eq_getElem hlt⟩
                  obtain ⟨ad, v, rfl, _, d1, A2, c2, rfl, e1, e2, e3⟩ := (HN.out.keep strs_steady HW4.out) k x hx
                  obtain ⟨ad2, v, rfl, _, d2, B2, c3, rfl, f1, f2, f3⟩ := (KN.out.keep strs_steady HW4.out) k x hx
                  have HE := Lib.hid e3
                  have HF := Lib.hid f3
                  have hlti : (k : Int) < (names.length : Int) := by omega
                  simp at m1 m2
                  clear hx e3 f3
                  go_wp2_with fail
                  go_quiet (fail)
                  go_wp2_with fail
                  obtain ⟨go, rfl⟩ : ∃ go, go = gk := ⟨_, rfl⟩
                  obtain ⟨wo, rfl⟩ : ∃ wo, wo = wr := ⟨_, rfl⟩
                  go_loopg [139] x.length (fun gk v139 wr => ∃ j : Nat, v139 = .int .i64 (j : Int) ∧ j ≤ x.length ∧ Hid (j + gk = x.length) ∧ Hid (Keep all_ wo wr))
                  case atStart => exact ⟨0, rfl, by omega, by simp [Hid], (Keep.refl _ _).drewN _⟩
                  case round =>
                    obtain ⟨j, rfl, hj, hgj, HW5⟩ := hrel
                    by_cases hlj : j < x.length
                    · obtain ⟨y, hy⟩ : ∃ y, x[j]? = some y := ⟨_, List.getElem?_eq_getElem hlj⟩
                      obtain ⟨ad3, v, rfl, _, d3, rfl⟩ := (HE.out.keep (lit_steady _) HW5.out) j y hy
                      obtain ⟨ad4, v, rfl, _, d4, rfl⟩ := (HF.out.keep (lit_steady _) HW5.out) j y hy
                      have m3 := HW5.out.cell trivial m1
                      have m4 := HW5.out.cell trivial m2
                      have d5 := HW5.out.cell trivial d1
                      have d6 := HW5.out.cell trivial d2
                      have d7 : wr.cell? (ad3.add j) = some (.string ⟨y.toArray⟩) := d3
                      have d8 : wr.cell? (ad4.add j) = some (.string ⟨y.toArray⟩) := d4
                      have hlji : (j : Int) < (x.length : Int) := by omega
                      clear hy d3 d4 m1 m2 d1 d2
                      go_wp2_with fail
                      go_quiet (fail)
                      go_wp2_with fail
                      go_roundg (gk - 1)
                      case measure => have := hgj.out; omega
                      case rel =>
                        have hg := hgj.out
                        exact ⟨j + 1, by go_num, by omega, show _ = _ by omega, HW5.out.drewN _⟩
                    · have hje : j = x.length := by omega
                      subst hje
                      go_wp2_with fail
                      go_roundg (go - 1)
                      case measure => have := hgk.out; omega
                      case rel =>
                        have hg := hgk.out
                        exact ⟨k + 1, by go_num, by omega, show _ = _ by omega, HW4.out.trans HW5.out⟩
                · have hke : k = names.length := by omega
                  subst hke
                  go_wp2
                  go_ret
                  exact ⟨rfl, HB.out.trans (Keep.of_all HW4.out HB.out.size)⟩

end Go.Proofs.Ytnlkgaobbobakaa
