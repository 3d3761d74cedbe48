/- base64.NewEncoding at the standard alphabet: a block whose cells are known. -/
import Derived.Test.YtoeepfmmceilaaaGreatDoorLnB64
import Derived.Test.YtoeepfmmceilaaaGreatDoorLnEncP
import Derived.Lib.BufferWrite
import Derived.Laws.CopyOwn
set_option linter.unusedVariables false
set_option linter.unusedSimpArgs false
namespace Go.Proofs.YtoeepfmmceilaaaGreatDoor
open Go.RowKit

def ffB : ByteArray := ⟨#[255, 255, 255, 255, 255, 255, 255, 255, 255, 255, 255, 255, 255, 255, 255, 255, 255, 255, 255, 255, 255, 255, 255, 255, 255, 255, 255, 255, 255, 255, 255, 255, 255, 255, 255, 255, 255, 255, 255, 255, 255, 255, 255, 255, 255, 255, 255, 255, 255, 255, 255, 255, 255, 255, 255, 255, 255, 255, 255, 255, 255, 255, 255, 255, 255, 255, 255, 255, 255, 255, 255, 255, 255, 255, 255, 255, 255, 255, 255, 255, 255, 255, 255, 255, 255, 255, 255, 255, 255, 255, 255, 255, 255, 255, 255, 255, 255, 255, 255, 255, 255, 255, 255, 255, 255, 255, 255, 255, 255, 255, 255, 255, 255, 255, 255, 255, 255, 255, 255, 255, 255, 255, 255, 255, 255, 255, 255, 255, 255, 255, 255, 255, 255, 255, 255, 255, 255, 255, 255, 255, 255, 255, 255, 255, 255, 255, 255, 255, 255, 255, 255, 255, 255, 255, 255, 255, 255, 255, 255, 255, 255, 255, 255, 255, 255, 255, 255, 255, 255, 255, 255, 255, 255, 255, 255, 255, 255, 255, 255, 255, 255, 255, 255, 255, 255, 255, 255, 255, 255, 255, 255, 255, 255, 255, 255, 255, 255, 255, 255, 255, 255, 255, 255, 255, 255, 255, 255, 255, 255, 255, 255, 255, 255, 255, 255, 255, 255, 255, 255, 255, 255, 255, 255, 255, 255, 255, 255, 255, 255, 255, 255, 255, 255, 255, 255, 255, 255, 255, 255, 255, 255, 255, 255, 255, 255, 255, 255, 255, 255, 255, 255, 255, 255, 255, 255, 255]⟩
theorem alpha_size : alphaB.size = 64 := by decide
theorem byteCells_map (l : List UInt8) : Lib.byteCells l = l.map byteV := rfl
/-- copy of a string into a block. -/
theorem copy_blk {P : Program} (w : World) (t t' ty e el : TypeId) (g off n : Nat) (cs : Array Value) (str : ByteArray) (hu : P.underlying t = some (.slice el)) (hsz : (P.info? el).map (·.size) = some 1) (hb : Blk w g e cs) (hle : str.size ≤ n) (hfit : off + str.size ≤ cs.size) :
    ∃ W, (Builtin.copy_ #[t, t'] ty #[.slice (some ⟨g, off, none⟩) n n, .string str]).run P w = .ok (goInt str.size) W ∧ Hid (Blk W g e (cs.toList.take off ++ str.data.toList.map byteV ++ cs.toList.drop (off + str.size)).toArray) ∧ Hid (Below g w W) := by
  have hr := Lib.run_copy_row_string (P := P) w t t' ty el g off n n str cs e hu hsz hb hle hfit
  exact ⟨_, hr, setRow_heap w g _ _ e _ hb, below_setRow (Below.refl _ _) (Nat.le_refl _) _⟩

theorem alpha_at_all : ∀ d : Fin 64, alphaB.data.toList[d.val]? = some (signP d.val) := by decide
theorem alpha_at (i : Nat) (h : i < alphaB.size) : alphaB[i]'h = signP i := by
  have h64 : i < 64 := by rw [alpha_size] at h; exact h
  have h1 := alpha_at_all ⟨i, h64⟩
  have h2 : alphaB.data.toList[i]? = some (signP i) := h1
  rw [Array.getElem?_toList] at h2
  exact (Array.getElem?_eq_some_iff.1 h2).2
theorem sign_crlf_all : ∀ d : Fin 64, (signP d.val).toNat ≠ 10 ∧ (signP d.val).toNat ≠ 13 := by decide

set_option maxRecDepth 100000 in
set_option maxHeartbeats 1600000 in
theorem newEnc_walk (w : World) : Calls Tryz.prog 110 #[.string alphaB] w fun e w' => e = .returned (.pointer (some ⟨w.heap.size, 0, none⟩)) ∧ Blk w' w.heap.size 177 encC ∧ Below w.heap.size w w' := by
  have hs := alpha_size
  have hsz : (Tryz.prog.info? 5).map (·.size) = some 1 := by kernel_rfl
  have hb0 := Blk.new w 177 (Tryz.zeroCells177.setIfInBounds 320 (Value.int .i32 61))
  obtain ⟨w1, hc1, hb1, hl1⟩ := copy_blk (P := Tryz.prog) _ 28 9 3 _ _ w.heap.size 0 64 _ alphaB Tryz.underlying28 hsz hb0 (Nat.le_of_eq hs) (by rw [hs]; decide)
  rw [hs] at hc1
  have hc1' := (hc1 : _ = Result.ok (Value.int .i64 64) w1)
  clear hc1
  obtain ⟨w2, hc2, hb2, hl2⟩ := copy_blk (P := Tryz.prog) _ 28 9 3 _ _ w.heap.size 64 256 _ ffB Tryz.underlying28 hsz hb1.out (by decide) (by simp only [List.size_toArray, List.length_append, List.length_map]; decide)
  have hc2' := (hc2 : _ = Result.ok (Value.int .i64 256) w2)
  clear hc2
  unfold ffB at hc2'
  have hE : ((((Tryz.zeroCells177.setIfInBounds 320 (Value.int .i32 61)).toList.take 0 ++ alphaB.data.toList.map byteV ++ (Tryz.zeroCells177.setIfInBounds 320 (Value.int .i32 61)).toList.drop (0 + alphaB.size)).toArray.toList.take 64 ++ ffB.data.toList.map byteV ++ ((Tryz.zeroCells177.setIfInBounds 320 (Value.int .i32 61)).toList.take 0 ++ alphaB.data.toList.map byteV ++ (Tryz.zeroCells177.setIfInBounds 320 (Value.int .i32 61)).toList.drop (0 + alphaB.size)).toArray.toList.drop (64 + ffB.size)).toArray) = (encL 0).toArray := by kernel_rfl
  have HB := Lib.hid (show Blk w2 w.heap.size 177 (encL 0).toArray from by have := hb2.out; rwa [hE] at this)
  have HL := Lib.hid (show Below w.heap.size w w2 from (((Below.refl _ _).alloc (Nat.le_refl _) _).trans hl1.out).trans hl2.out)
  clear hE hb1 hb2 hl1 hl2 hb0 hsz
  go_enter Tryz.func110, Tryz.ntmps110
  go_wp2_with fail
  go_loopg [4] 64 (fun gk v4 wr => ∃ i : Nat, v4 = .int .i64 (i : Int) ∧ i ≤ 64 ∧ Hid (i + gk = 64) ∧ Hid (Blk wr w.heap.size 177 (encL i).toArray) ∧ Hid (Below w.heap.size w wr))
  case atStart => exact ⟨0, rfl, by omega, by simp [Hid], HB, HL⟩
  case round =>
    obtain ⟨i, rfl, hi, hgk, HB1, HL1⟩ := hrel
    by_cases hlt : i < 64
    · obtain ⟨sg, hsg⟩ : ∃ n : Nat, n = (signP i).toNat := ⟨_, rfl⟩
      have ha : ∀ h, (alphaB[i]'h).toNat = sg := fun h => by rw [alpha_at, hsg]
      have hcl := sign_crlf_all ⟨i, hlt⟩
      have hsl : sg < 256 := by rw [hsg]; exact (signP i).toNat_lt
      have c10 : ((sg : Int) == 10) = false := by
        simp only [beq_eq_false_iff_ne, ne_eq]
        have := hcl.1
        simp only [← hsg] at this
        omega
      have c13 : ((sg : Int) == 13) = false := by
        simp only [beq_eq_false_iff_ne, ne_eq]
        have := hcl.2
        simp only [← hsg] at this
        omega
      have hcell : wr.cell? ⟨w.heap.size, 64 + sg, none⟩ = some (.int .u8 255) := by
        rw [HB1.out.cell, List.getElem?_toArray, encL_map _ _ hsl, hsg, dmap_before hlt]
        rfl
      have hfr : wr.frozen? ⟨w.heap.size, 64 + sg, none⟩ = false := HB1.out.frozen _
      have HS := Lib.hid hsg
      have hsi : ((sg : Int) < 256) = True := eq_true (by omega)
      clear hcl hsg
      go_wp2_with fail
      go_quiet (fail)
      go_wp2_with fail
      go_region_law (fail)
      all_goals
        go_wp2_with fail
        go_roundg (gk - 1)
        case measure => have := hgk.out; omega
        case rel =>
          have hg := hgk.out
          refine ⟨i + 1, by simp, by omega, show _ = _ by omega, ?_, ?_⟩
          · have h1 := (HB1.out.set_ (64 + sg) (.int .u8 (i : Int)))
            rw [List.setIfInBounds_toArray, HS.out, encL_set hlt, ← HS.out] at h1
            exact h1
          · have h0 := HL1.out
            exact Below.setCell (show Below w.heap.size w (wr.drewN _) from ⟨h0.os, h0.tape, h0.output, h0.size, h0.block⟩) (Nat.le_refl _) _
    · have hie : i = 64 := by omega
      subst hie
      go_wp2_with fail
      go_ret
      exact ⟨rfl, HB1.out, HL1.out⟩

/-- ssh.zzB64: a new encoding. -/
theorem zzB64_walk (w : World) : Calls Tryz.prog 79 #[] w fun e w' => e = .returned (.pointer (some ⟨w.heap.size, 0, none⟩)) ∧ Blk w' w.heap.size 177 encC ∧ Below w.heap.size w w' := by
  have H := Lib.hid (newEnc_walk w)
  go_enter Tryz.func79, Tryz.ntmps79
  go_wp2_with (go_at_call 110; refine H.out.mono ?_; rintro e w1 ⟨rfl, h1, h2⟩; have H1 := Lib.hid h1; have H2 := Lib.hid h2; clear h1 h2)
  go_ret
  exact ⟨rfl, H1.out, H2.out⟩
theorem decodedLen_walk (w : World) (g n : Nat) (hn : n ≤ 4000000) (hb : Blk w g 177 encC) : Calls Tryz.prog 90 #[.pointer (some ⟨g, 0, none⟩), .int .i64 (n : Int)] w fun e w' => e = .returned (.int .i64 ((n / 4 * 3 : Nat) : Int)) ∧ w' = w := by
  have hp : w.cell? ⟨g, 320, none⟩ = some (.int .i32 61) := by rw [hb.cell]; exact encC_pad
  clear hb
  go_enter Tryz.func90, Tryz.ntmps90
  go_wp2_with (go_enter Tryz.func119, Tryz.ntmps119)
  go_ret
  exact ⟨by simp, rfl⟩

end Go.Proofs.YtoeepfmmceilaaaGreatDoor
