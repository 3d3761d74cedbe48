/- zznet.SplitHostPort and knownhosts.Normalize at a host and a port, at a host in brackets and a port, at a host alone. -/
import Derived.Test.YtoeepfmmceilaaaGreatDoorLnStr
import Derived.Test.YtoeepfmmceilaaaGreatDoorLnUnm
set_option linter.unusedVariables false
set_option linter.unusedSimpArgs false
namespace Go.Proofs.YtoeepfmmceilaaaGreatDoor
open Go.RowKit

/-- No sign of brackets. -/
def plainS (l : List UInt8) : Prop := ∀ y ∈ l, y ≠ 91 ∧ y ≠ 93
def noColon (l : List UInt8) : Prop := ∀ y ∈ l, y ≠ 58
set_option maxRecDepth 100000 in
set_option maxHeartbeats 800000 in
theorem split_plain (h0 : UInt8) (h p : List UInt8) (w : World) (hl : h.length ≤ 100000) (hpl : p.length ≤ 100000) (hh : plainS (h0 :: h)) (hc : noColon (h0 :: h)) (hp : plainS p) (hpc : noColon p) :
    Calls Tryz.prog 64 #[.string ⟨(h0 :: h ++ 58 :: p).toArray⟩] w fun e w' => e = .returned (.tuple #[.string ⟨(h0 :: h).toArray⟩, .string ⟨p.toArray⟩, .nilIface]) ∧ w' = w := by
  obtain ⟨H, hH⟩ : ∃ H, H = h0 :: h := ⟨_, rfl⟩
  have hHl : H.length ≤ 100001 := by rw [hH, List.length_cons]; omega
  have hH1 : 1 ≤ H.length := by rw [hH, List.length_cons]; omega
  rw [← hH] at hh hc ⊢
  obtain ⟨X, hX⟩ : ∃ X, X = H ++ 58 :: p := ⟨_, rfl⟩
  have hXl : X.length = H.length + 1 + p.length := by rw [hX, List.length_append, List.length_cons]; omega
  have HL := Lib.hid (last_58 X (H.length : Int) w (by omega) (by rw [hX]; exact last_at H p 58 hpc))
  have hx0 := get_list X 0 h0 (by rw [hX, hH]; rfl)
  have hne : (h0.toNat : Int) ≠ 91 := by
    have h9 := (hh h0 (by rw [hH]; exact List.mem_cons_self ..)).1
    intro e
    exact h9 (UInt8.toNat_inj.1 (by have : h0.toNat = 91 := by omega
                                    exact this))
  have hbe : ((h0.toNat : Int) == 91) = false := by rw [beq_eq_false_iff_ne]; exact hne
  have s1 : ∀ W : World, (Instr.slice 9 (.string ⟨X.toArray⟩) none (some (.int .i64 (H.length : Int))) none).run Tryz.prog W = .ok (.string ⟨H.toArray⟩) W := fun W => by
    have := slS_to X H.length (by omega) W
    rw [show X.take H.length = H by rw [hX, List.take_left]] at this
    exact this
  have s2 : ∀ W : World, (Instr.slice 9 (.string ⟨X.toArray⟩) (some (.int .i64 0)) none none).run Tryz.prog W = .ok (.string ⟨X.toArray⟩) W := fun W => slS_from X 0 (by omega) W
  have s3 : ∀ W : World, (Instr.slice 9 (.string ⟨X.toArray⟩) (some (.int .i64 ((H.length : Int) + 1))) none none).run Tryz.prog W = .ok (.string ⟨p.toArray⟩) W := fun W => by
    have := slS_from X (H.length + 1) (by omega) W
    rw [show X.drop (H.length + 1) = p by rw [hX, ← List.drop_drop, List.drop_left]; rfl] at this
    exact this
  have hxp : plainS X := by
    intro y hy
    rw [hX] at hy
    rcases List.mem_append.1 hy with hy | hy
    · exact hh y hy
    · rcases List.mem_cons.1 hy with rfl | hy
      · exact ⟨by decide, by decide⟩
      · exact hp y hy
  have i1 := index_none H 58 hc
  have i2 := index_none X 91 (fun y hy => (hxp y hy).1)
  have i3 := index_none X 93 (fun y hy => (hxp y hy).2)
  have hsz := size_list X
  have hX1 : 0 < X.length := by omega
  have hn0 : ¬ ((H.length : Int) < 0) := by omega
  rw [← hX]
  have HHL := Lib.hid hHl
  clear hX hH hh hc hp hpc hxp hne hXl hl hpl hH1
  go_enter Tryz.func64, Tryz.ntmps64
  go_upto_region 22 with (first
    | (go_at_call 93; refine HL.out.mono ?_; rintro e w1 ⟨rfl, hw⟩; (have hw := hw.symm); subst hw)
    | (go_at_call 94; refine (index_58 _ _).mono ?_; rintro e w1 ⟨rfl, hw⟩; (have hw := hw.symm); subst hw))
  go_upto_region 24 with (go_at_call 94; refine (index_91 _ _).mono ?_; rintro e w1 ⟨rfl, hw⟩; (have hw := hw.symm); subst hw)
  go_wp2_with (go_at_call 94; refine (index_93 _ _).mono ?_; rintro e w1 ⟨rfl, hw⟩; (have hw := hw.symm); subst hw)
  go_ret3
  exact ⟨rfl, rfl⟩

set_option maxRecDepth 100000 in
set_option maxHeartbeats 800000 in
theorem split_brack (h p : List UInt8) (w : World) (hl : h.length ≤ 100000) (hpl : p.length ≤ 100000) (hh : plainS h) (hp : plainS p) (hpc : noColon p) :
    Calls Tryz.prog 64 #[.string ⟨(91 :: h ++ 93 :: 58 :: p).toArray⟩] w fun e w' => e = .returned (.tuple #[.string ⟨h.toArray⟩, .string ⟨p.toArray⟩, .nilIface]) ∧ w' = w := by
  obtain ⟨H, hH⟩ : ∃ H, H = 91 :: h := ⟨_, rfl⟩
  have hHl : H.length = h.length + 1 := by rw [hH, List.length_cons]
  rw [← hH]
  obtain ⟨X, hX⟩ : ∃ X, X = H ++ 93 :: 58 :: p := ⟨_, rfl⟩
  have hXl : X.length = h.length + 3 + p.length := by rw [hX, List.length_append, List.length_cons, List.length_cons]; omega
  have hX2 : X = (H ++ [93]) ++ 58 :: p := by rw [hX]; simp
  have h2l : (H ++ [93]).length = h.length + 2 := by rw [List.length_append, hHl]; rfl
  have hlast := last_at (H ++ [93]) p 58 hpc
  rw [← hX2, h2l] at hlast
  obtain ⟨m, hm⟩ : ∃ m, m = h.length + 1 := ⟨_, rfl⟩
  have HL := Lib.hid (last_58 X ((m : Int) + 1) w (by omega) (by have e : ((h.length + 2 : Nat) : Int) = (m : Int) + 1 := by omega
                                                                 rw [← e]; exact hlast))
  have hx0 := get_list X 0 91 (by rw [hX, hH]; rfl)
  have i93 : Lib.indexByte X 93 = (m : Int) := by
    rw [hX, index_at H (58 :: p) 93 (fun y hy => by
      rw [hH] at hy
      rcases List.mem_cons.1 hy with rfl | hy
      · decide
      · exact (hh y hy).2), hHl, hm]
  have s1 : ∀ W : World, (Instr.slice 9 (.string ⟨X.toArray⟩) (some (.int .i64 1)) (some (.int .i64 (m : Int))) none).run Tryz.prog W = .ok (.string ⟨h.toArray⟩) W := fun W => by
    have := slS_mid X 1 m (by omega) (by omega) W
    rw [show (X.take m).drop 1 = h by rw [hX, hm, ← hHl, List.take_left, hH]; rfl] at this
    exact this
  obtain ⟨Y, hY⟩ : ∃ Y, Y = h ++ 93 :: 58 :: p := ⟨_, rfl⟩
  have s2 : ∀ W : World, (Instr.slice 9 (.string ⟨X.toArray⟩) (some (.int .i64 1)) none none).run Tryz.prog W = .ok (.string ⟨Y.toArray⟩) W := fun W => by
    have := slS_from X 1 (by omega) W
    rw [show X.drop 1 = Y by rw [hX, hY, hH]; rfl] at this
    exact this
  obtain ⟨Z, hZ⟩ : ∃ Z, Z = 58 :: p := ⟨_, rfl⟩
  have s3 : ∀ W : World, (Instr.slice 9 (.string ⟨X.toArray⟩) (some (.int .i64 ((m : Int) + 1))) none none).run Tryz.prog W = .ok (.string ⟨Z.toArray⟩) W := fun W => by
    have := slS_from X (m + 1) (by omega) W
    rw [show X.drop (m + 1) = Z by rw [hX, hm, ← hHl, ← List.drop_drop, List.drop_left, hZ]; rfl] at this
    exact this
  have s4 : ∀ W : World, (Instr.slice 9 (.string ⟨X.toArray⟩) (some (.int .i64 ((m : Int) + 1 + 1))) none none).run Tryz.prog W = .ok (.string ⟨p.toArray⟩) W := fun W => by
    have := slS_from X (m + 2) (by omega) W
    rw [show X.drop (m + 2) = p by rw [hX, hm, ← hHl, ← List.drop_drop, List.drop_left]; rfl] at this
    exact this
  have i2 := index_none Y 91 (fun y hy => by
    rw [hY] at hy
    rcases List.mem_append.1 hy with hy | hy
    · exact (hh y hy).1
    · rcases List.mem_cons.1 hy with rfl | hy
      · decide
      · rcases List.mem_cons.1 hy with rfl | hy
        · decide
        · exact (hp y hy).1)
  have i3 := index_none Z 93 (fun y hy => by
    rw [hZ] at hy
    rcases List.mem_cons.1 hy with rfl | hy
    · decide
    · exact (hp y hy).2)
  have hsz := size_list X
  have hX1 : 0 < X.length := by omega
  have hn0 : ¬ ((m : Int) + 1 < 0) := by omega
  have hn1 : ¬ ((m : Int) < 0) := by omega
  have hq : ((m : Int) + 1 == (X.length : Int)) = false := by rw [beq_eq_false_iff_ne]; omega
  have hmb : m ≤ 100001 := by omega
  rw [← hX]
  clear hX2 hX hH hh hp hpc hXl hl hpl hlast h2l hHl hm hY hZ
  go_enter Tryz.func64, Tryz.ntmps64
  go_upto_region 22 with (first
    | (go_at_call 93; refine HL.out.mono ?_; rintro e w1 ⟨rfl, hw⟩; (have hw := hw.symm); subst hw)
    | (go_at_call 94; refine (index_93 _ _).mono ?_; rintro e w1 ⟨rfl, hw⟩; (have hw := hw.symm); subst hw))
  go_upto_region 24 with (go_at_call 94; refine (index_91 _ _).mono ?_; rintro e w1 ⟨rfl, hw⟩; (have hw := hw.symm); subst hw)
  go_wp2_with (go_at_call 94; refine (index_93 _ _).mono ?_; rintro e w1 ⟨rfl, hw⟩; (have hw := hw.symm); subst hw)
  go_ret3
  exact ⟨rfl, rfl⟩

theorem split_err (s : ByteArray) (w : World) : Calls Tryz.prog 92 #[.string s] w fun e w' => (∃ T v, e = .returned (.tuple #[.string ⟨#[]⟩, .string ⟨#[]⟩, .iface T v])) ∧ Below w.heap.size w w' := by
  go_enter Tryz.func92, Tryz.ntmps92
  go_wp2_with (go_at_call 63; refine (errors_new _ _).mono ?_; rintro e w1 ⟨T, v, rfl, hb⟩)
  go_ret3
  exact ⟨⟨T, v, rfl⟩, hb⟩
set_option maxRecDepth 100000 in
set_option maxHeartbeats 800000 in
theorem split_bare (h : List UInt8) (w : World) (hl : h.length ≤ 100000) (hc : noColon h) :
    Calls Tryz.prog 64 #[.string ⟨h.toArray⟩] w fun e w' => (∃ T v, e = .returned (.tuple #[.string ⟨#[]⟩, .string ⟨#[]⟩, .iface T v])) ∧ Below w.heap.size w w' := by
  have HL := Lib.hid (last_58 h (-1) w (by omega) (last_none h 58 hc))
  clear hc
  go_enter Tryz.func64, Tryz.ntmps64
  go_wp2_with (first
    | (go_at_call 93; refine HL.out.mono ?_; rintro e w1 ⟨rfl, hw⟩; (have hw := hw.symm); subst hw)
    | (go_at_call 92; refine (split_err _ _).mono ?_; rintro e w1 ⟨⟨T, v, rfl⟩, hb⟩))
  go_ret3
  exact ⟨⟨T, v, rfl⟩, hb⟩

end Go.Proofs.YtoeepfmmceilaaaGreatDoor
