/- What the reference's reader does to memory: fail, take, number, bytes. -/
import Derived.Test.YtoeepfmmceilaaaGreatDoorBase
import Derived.Test.YtoeepfmmceilaaaGreatDoorProg
set_option linter.unusedVariables false
set_option linter.unusedSimpArgs false
namespace Go.Proofs.YtoeepfmmceilaaaGreatDoor
open Go.RowKit

theorem info_u8 : (Tryz.prog.info? 5).map (fun i => (i.zero, i.size, i.bytes)) = some (some (.int .u8 0), 1, 1) := by kernel_rfl

/-- The reference's reader in block g: what is left to read, and its word. -/
def Rdr (ok : Nat → Prop) (w : World) (g : Nat) (xs : List UInt8) (st : Nat) : Prop :=
  ∃ A c, Blk w g 129 #[.slice A xs.length c, .int .i64 (st : Int)] ∧ xs.length ≤ c ∧ c ≤ 9223372036854775807 ∧ RR (lit byteV) ok w A xs

theorem Rdr.keep {ok : Nat → Prop} {w w' : World} {g : Nat} {xs : List UInt8} {st : Nat} (h : Rdr ok w g xs st) (hk : Keep ok w w') (hg : w'.heap[g]? = w.heap[g]?) : Rdr ok w' g xs st := by
  obtain ⟨A, c, h1, h2, h3, h4⟩ := h
  exact ⟨A, c, hg.trans h1, h2, h3, h4.keep (lit_steady _) hk⟩


set_option maxHeartbeats 400000 in
theorem fail_any (ok : Nat → Prop) (g : Nat) (xs : List UInt8) (st n : Nat) (w : World) (hn : ¬ ok g) (h : Rdr ok w g xs st) :
    Calls Tryz.prog 85 #[.pointer (some ⟨g, 0, none⟩), .int .i64 (n : Int)] w fun e w' => e = .returned (.tuple #[]) ∧ Rdr ok w' g xs (failP st n) ∧ w.grownBy w' (some g) := by
  obtain ⟨A, c, hb, h2, h3, h4⟩ := h
  have c1 := hb.cell 1
  have f1 := hb.frozen 1
  have H := Lib.hid hb
  have H4 := Lib.hid h4
  clear hb h4
  simp at c1
  by_cases hs : st = 0
  · subst hs
    go_enter Tryz.func85, Tryz.ntmps85
    go_wp2
    go_end0
    refine ⟨rfl, ⟨A, c, ?_, h2, h3, ?_⟩, ?_⟩
    · exact H.out.set_ 1 _
    · exact H4.out.keep (lit_steady _) ((Keep.refl ok w).setCell (fun _ => hn) _)
    · exact ⟨rfl, rfl, rfl, by simp [World.setCell], fun k _ hk => Below.heap_setCell _ _ _ _ (fun e => hk (by rw [e]))⟩
  · have hs' : ((st : Int) == 0) = false := by simp; omega
    go_enter Tryz.func85, Tryz.ntmps85
    go_wp2
    go_end0
    refine ⟨rfl, ⟨A, c, ?_, h2, h3, ?_⟩, ?_⟩
    · simp only [failP, if_neg hs]; exact H.out
    · exact H4.out
    · exact ⟨rfl, rfl, rfl, Nat.le_refl _, fun _ _ _ => rfl⟩

set_option maxHeartbeats 400000 in
theorem take_any (ok : Nat → Prop) (g : Nat) (xs : List UInt8) (st n : Nat) (w : World) (hn : ¬ ok g) (hnew : ∀ b, w.heap.size ≤ b → ok b) (hl : n ≤ 9223372036854775807) (h : Rdr ok w g xs st) :
    Calls Tryz.prog 112 #[.pointer (some ⟨g, 0, none⟩), .int .i64 (n : Int)] w fun e w' =>
      ∃ v, e = .returned v ∧ Byts ok w' v (takeP xs st n).1 ∧ Rdr ok w' g (takeP xs st n).2.1 (takeP xs st n).2.2 ∧ w.grownBy w' (some g) := by
  obtain ⟨A, c, hb, h2, h3, h4⟩ := h
  have c0 := hb.cell 0
  have c1 := hb.cell 1
  have f0 := hb.frozen 0
  simp at c0 c1
  by_cases hs : st = 0 ∧ n ≤ xs.length
  · obtain ⟨rfl, hle⟩ := hs
    obtain ⟨i0, hi0, _, hsz, _⟩ := info_parts info_u8
    obtain ⟨A1, ys, r1, e1, l1, q1⟩ := cut_to (P := Tryz.prog) 28 5 .i64 Tryz.underlying28 hi0 hsz A c xs n hle h2
    obtain ⟨A2, zs, r2, e2, l2, q2⟩ := cut_from (P := Tryz.prog) 28 5 .i64 Tryz.underlying28 hi0 hsz A c xs n hle h2
    have e3 := takeP xs 0 n
    have H := Lib.hid hb
    have H4 := Lib.hid h4
    clear hb h4 hi0 hsz e3
    go_enter Tryz.func112, Tryz.ntmps112
    go_wp2
    go_ret
    have hk : ∀ u, Keep ok w (w.setCell ⟨g, 0, none⟩ u) := fun u => (Keep.refl ok w).setCell (fun _ => hn) _
    refine ⟨_, rfl, ?_, ?_, ?_⟩
    · simp only [takeP, hle, and_self, if_true, ← e1.out]
      exact ⟨A1, c, rfl, l1, h3, (q1 _ _ _ H4.out).keep (lit_steady _) (hk _)⟩
    · simp only [takeP, hle, and_self, if_true, ← e2.out]
      exact ⟨A2, c - n, H.out.set_ 0 _, l2, by omega, (q2 _ _ _ H4.out).keep (lit_steady _) (hk _)⟩
    · exact ⟨rfl, rfl, rfl, by simp [World.setCell], fun k _ hk => Below.heap_setCell _ _ _ _ (fun e => hk (by rw [e]))⟩
  · have HF' := Lib.hid (fail_any ok g xs st 1)
    have H := Lib.hid (show Rdr ok w g xs st from ⟨A, c, hb, h2, h3, h4⟩)
    clear hb h4
    have hmk := fun m hm W => run_make_bytes (P := Tryz.prog) Tryz.underlying28 info_u8 m hm W
    have Hs := Lib.hid hs
    have fin : ∀ (m : Nat), m = min n 64 → ∀ (w1 : World), Rdr ok w1 g xs (failP st 1) → w.grownBy w1 (some g) → ∃ v, Ending.returned (.slice (some ⟨w1.heap.size, 0, none⟩) m m) = .returned v ∧ Byts ok (w1.alloc (.cells (zeros m) 5)) v (takeP xs st n).1 ∧ Rdr ok (w1.alloc (.cells (zeros m) 5)) g (takeP xs st n).2.1 (takeP xs st n).2.2 ∧ w.grownBy (w1.alloc (.cells (zeros m) 5)) (some g) := by
      intro m hm w1 hr1 hg1
      have hfail : takeP xs st n = (List.replicate m 0, xs, failP st 1) := by simp only [takeP, if_neg Hs.out, hm]
      rw [hfail]
      refine ⟨_, rfl, ⟨some ⟨w1.heap.size, 0, none⟩, m, by simp, by simp, by omega, made_bytes ok w1 5 m (hnew _ hg1.size)⟩, ?_, ?_⟩
      · obtain ⟨A, c, q1, q2, q3, q4⟩ := hr1
        exact ⟨A, c, q1.alloc _, q2, q3, q4.keep (lit_steady _) ((Keep.refl ok w1).alloc _)⟩
      · exact ⟨hg1.os, hg1.tape, hg1.output, Nat.le_trans hg1.size (by simp), fun k hk hne => (Below.heap_alloc _ _ _ (Nat.lt_of_lt_of_le hk hg1.size)).trans (hg1.block k hk hne)⟩
    have Fin := Lib.hid fin
    clear fin hnew
    by_cases h64 : 64 < n
    · have hm1 : ∀ W : World, (Instr.makeSlice 28 (.int .i64 64) (.int .i64 64)).run Tryz.prog W = .ok (.slice (some ⟨W.heap.size, 0, none⟩) 64 64) (W.alloc (.cells (zeros 64) 5)) := hmk 64 (by omega)
      have F := Lib.hid (Fin.out 64 (by omega))
      clear hmk Fin
      by_cases h0 : st = 0
      · have hgt : xs.length < n := by have := Hs.out; omega
        subst h0
        clear hs
        go_enter Tryz.func112, Tryz.ntmps112
        go_wp2_with (go_at_call 85; refine (HF'.out _ hn H.out).mono ?_; rintro e w1 ⟨rfl, hr1, hg1⟩)
        go_ret
        exact F.out _ hr1 hg1
      · have hs' : ((st : Int) != 0) = true := by simp; omega
        clear hs h0
        go_enter Tryz.func112, Tryz.ntmps112
        go_wp2_with (go_at_call 85; refine (HF'.out _ hn H.out).mono ?_; rintro e w1 ⟨rfl, hr1, hg1⟩)
        go_ret
        exact F.out _ hr1 hg1
    · have hm1 := hmk n (by omega)
      have F := Lib.hid (Fin.out n (by omega))
      clear hmk Fin
      by_cases h0 : st = 0
      · have hgt : xs.length < n := by have := Hs.out; omega
        subst h0
        clear hs
        go_enter Tryz.func112, Tryz.ntmps112
        go_wp2_with (go_at_call 85; refine (HF'.out _ hn H.out).mono ?_; rintro e w1 ⟨rfl, hr1, hg1⟩)
        go_ret
        exact F.out _ hr1 hg1
      · have hs' : ((st : Int) != 0) = true := by simp; omega
        clear hs h0
        by_cases hz : n = 0
        · have hm0 : ∀ W : World, (Instr.makeSlice 28 (.int .i64 0) (.int .i64 0)).run Tryz.prog W = .ok (.slice (some ⟨W.heap.size, 0, none⟩) 0 0) (W.alloc (.cells (zeros 0) 5)) := by subst hz; exact hm1
          subst hz
          clear hm1
          go_enter Tryz.func112, Tryz.ntmps112
          go_wp2_with (go_at_call 85; refine (HF'.out _ hn H.out).mono ?_; rintro e w1 ⟨rfl, hr1, hg1⟩)
          go_ret
          exact F.out _ hr1 hg1
        · have hz' : 0 < n := by omega
          clear hz
          go_enter Tryz.func112, Tryz.ntmps112
          go_wp2_with (go_at_call 85; refine (HF'.out _ hn H.out).mono ?_; rintro e w1 ⟨rfl, hr1, hg1⟩)
          go_ret
          exact F.out _ hr1 hg1

theorem four {α : Type} {l : List α} (h : l.length = 4) : ∃ a b c d, l = [a, b, c, d] := by
  match l, h with
  | [a, b, c, d], _ => exact ⟨a, b, c, d, rfl⟩
theorem takeP_length (xs : List UInt8) (st n : Nat) (h : n ≤ 64) : (takeP xs st n).1.length = n := by
  unfold takeP
  split
  · rename_i q; simp; omega
  · simp; omega

set_option maxHeartbeats 400000 in
theorem number_any (ok : Nat → Prop) (g : Nat) (xs : List UInt8) (st : Nat) (w : World) (hn : ¬ ok g) (hnew : ∀ b, w.heap.size ≤ b → ok b) (h : Rdr ok w g xs st) :
    Calls Tryz.prog 111 #[.pointer (some ⟨g, 0, none⟩)] w fun e w' =>
      e = .returned (.int .u32 ((numP xs st).1 : Int)) ∧ Rdr ok w' g (numP xs st).2.1 (numP xs st).2.2 ∧ w.grownBy w' (some g) := by
  have HT := Lib.hid (take_any ok g xs st 4 w hn hnew (by omega) h)
  clear h hnew
  go_enter Tryz.func111, Tryz.ntmps111
  go_wp2_with fail
  refine HT.out.mono ?_
  rintro e w1 ⟨v, rfl, hv, hr, hg⟩
  obtain ⟨a, b, c, d, hl⟩ := four (takeP_length xs st 4 (by omega))
  obtain ⟨A, cc, rfl, h2, h3, h4⟩ := hv
  rw [hl] at h2 h4 ⊢
  obtain ⟨ad, rfl, _, hc⟩ := RB.at h4 (by simp)
  have c0 : w1.cell? ad = _ := hc 0 a rfl
  have c1 : w1.cell? ⟨ad.block, ad.off + 1, none⟩ = _ := hc 1 b rfl
  have c2 : w1.cell? ⟨ad.block, ad.off + 2, none⟩ = _ := hc 2 c rfl
  have c3 : w1.cell? ⟨ad.block, ad.off + 3, none⟩ = _ := hc 3 d rfl
  have b0 := byte_le a
  have b1 := byte_le b
  have b2 := byte_le c
  have b3 := byte_le d
  have Hr := Lib.hid hr
  have Hg := Lib.hid hg
  have Hl := Lib.hid hl
  clear hc h4 hr hg hl
  go_wp2_with fail
  go_quiet (fail)
  go_wp2
  go_ret
  have e1 := or_be32 a b c d
  have e2 : numP xs st = (be32 a b c d, (takeP xs st 4).2) := by unfold numP; rw [Hl.out]; rfl
  rw [e2]
  refine ⟨congrArg (fun n => Ending.returned (.int .u32 n)) e1, ?_, ?_⟩
  · exact Rdr.keep Hr.out ((Keep.refl _ _).drewN _) rfl
  · have hg := Hg.out
    exact ⟨hg.os, hg.tape, hg.output, hg.size, hg.block⟩

theorem numP_lt (xs : List UInt8) (st : Nat) : (numP xs st).1 < 4294967296 := by
  obtain ⟨a, b, c, d, h⟩ := four (takeP_length xs st 4 (by omega))
  unfold numP
  rw [h]
  exact be32_lt a b c d
theorem Rdr.len {ok : Nat → Prop} {w : World} {g : Nat} {xs : List UInt8} {st : Nat} (h : Rdr ok w g xs st) : xs.length ≤ 9223372036854775807 := by
  obtain ⟨A, c, _, h2, h3, _⟩ := h
  omega

set_option maxHeartbeats 400000 in
theorem bytes_any (ok : Nat → Prop) (g : Nat) (xs : List UInt8) (st : Nat) (w : World) (hn : ¬ ok g) (hnew : ∀ b, w.heap.size ≤ b → ok b) (h : Rdr ok w g xs st) :
    Calls Tryz.prog 81 #[.pointer (some ⟨g, 0, none⟩)] w fun e w' =>
      ∃ v, e = .returned v ∧ Byts ok w' v (bytesP xs st).1 ∧ Rdr ok w' g (bytesP xs st).2.1 (bytesP xs st).2.2 ∧ w.grownBy w' (some g) := by
  have HN := Lib.hid (number_any ok g xs st w hn hnew h)
  have hlt := numP_lt xs st
  clear h
  unfold bytesP
  generalize hq : numP xs st = q at HN hlt ⊢
  obtain ⟨n, ys, st1⟩ := q
  clear hq
  dsimp only at hlt HN ⊢
  have Hnew := Lib.hid hnew
  clear hnew
  by_cases hs : st1 = 0
  · subst hs
    by_cases hle : n ≤ ys.length
    · rw [if_pos ⟨rfl, hle⟩]
      go_enter Tryz.func81, Tryz.ntmps81
      go_wp2_with fail
      refine HN.out.mono ?_
      rintro e w1 ⟨rfl, hr, hg⟩
      have HT := Lib.hid (take_any ok g ys 0 n w1 hn (fun b hb => Hnew.out b (Nat.le_trans hg.size hb)) (by omega) hr)
      obtain ⟨A, c, hb, h2, h3, h4⟩ := hr
      have c0 := hb.cell 0
      have c1 := hb.cell 1
      simp at c0 c1
      have Hg := Lib.hid hg
      clear hb h4 hg
      go_wp2_with fail
      refine HT.out.mono ?_
      rintro e w2 ⟨v, rfl, hv, hr, hg⟩
      go_wp2
      go_ret
      rw [show takeP ys 0 n = (ys.take n, ys.drop n, 0) by simp [takeP, hle]] at hv hr
      exact ⟨_, rfl, hv, hr, grownBy_trans Hg.out hg⟩
    · rw [if_neg (fun h => hle h.2)]
      go_enter Tryz.func81, Tryz.ntmps81
      go_wp2_with fail
      refine HN.out.mono ?_
      rintro e w1 ⟨rfl, hr, hg⟩
      have HF := Lib.hid (fail_any ok g ys 0 1 w1 hn hr)
      obtain ⟨A, c, hb, h2, h3, h4⟩ := hr
      have c0 := hb.cell 0
      have c1 := hb.cell 1
      simp at c0 c1
      have Hg := Lib.hid hg
      clear hb h4 hg
      go_wp2_with fail
      refine HF.out.mono ?_
      rintro e w2 ⟨rfl, hr, hg⟩
      go_wp2
      go_ret
      exact ⟨_, rfl, SL.none_ _ _ _, hr, grownBy_trans Hg.out hg⟩
  · rw [if_neg (fun h => hs h.1)]
    have hs' : ((st1 : Int) != 0) = true := by simp; omega
    clear hs
    go_enter Tryz.func81, Tryz.ntmps81
    go_wp2_with fail
    refine HN.out.mono ?_
    rintro e w1 ⟨rfl, hr, hg⟩
    have HF := Lib.hid (fail_any ok g ys st1 1 w1 hn hr)
    obtain ⟨A, c, hb, h2, h3, h4⟩ := hr
    have c0 := hb.cell 0
    have c1 := hb.cell 1
    simp at c0 c1
    have Hg := Lib.hid hg
    clear hb h4 hg
    go_wp2_with fail
    refine HF.out.mono ?_
    rintro e w2 ⟨rfl, hr, hg⟩
    go_wp2
    go_ret
    exact ⟨_, rfl, SL.none_ _ _ _, hr, grownBy_trans Hg.out hg⟩

end Go.Proofs.YtoeepfmmceilaaaGreatDoor