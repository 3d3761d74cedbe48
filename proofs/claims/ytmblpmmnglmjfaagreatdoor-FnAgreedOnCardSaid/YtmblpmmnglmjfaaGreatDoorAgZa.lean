/- ssh.ZzAgreed, impl.AgreedOn: what two ends agree on by their lists. -/
import Derived.Test.YtmblpmmnglmjfaaGreatDoorAgFa
import Derived.Test.YtmblpmmnglmjfaaGreatDoorAgZz
set_option linter.unusedVariables false
set_option linter.unusedSimpArgs false
namespace Go.Proofs.YtmblpmmnglmjfaaGreatDoor
open Go.RowKit

/-- How ZzAgreed ends. -/
def ZaEnd (w : World) (g : Nat → Option (List UInt8)) (e : Ending) (w' : World) : Prop :=
  Below w.heap.size w w' ∧ ((allP g = true ∧ ∃ b, e = .returned (.tuple #[.slice (some ⟨b, 0, none⟩) 8 8, .nilIface]) ∧ w.heap.size ≤ b ∧
      Blk w' b 9 (#[wantP g 0, wantP g 1, wantP g 2, wantP g 3, wantP g 4, wantP g 5, wantP g 6, wantP g 7].map strV)) ∨
    (allP g = false ∧ ∃ T v, e = .returned (.tuple #[.slice none 0 0, .iface T v])))

set_option maxRecDepth 100000 in
set_option maxHeartbeats 3200000 in
theorem za_any (w : World) (adc ads : Addr) (capc caps : Nat) (A B : Nat → Option Addr) (a b : Nat → Nat) (c s : Nat → List (List UInt8)) (hc : ∀ i, i < 10 → In1 w adc i (c i) (A i) (a i)) (hs : ∀ i, i < 10 → In1 w ads i (s i) (B i) (b i)) :
    Calls Tryz.prog 20 #[.slice (some adc) 10 capc, .slice (some ads) 10 caps] w (ZaEnd w fun i => agreeP (s i) (c i)) := by
  obtain ⟨G, hG⟩ : ∃ G : Nat → Option (List UInt8), G = fun i => agreeP (s i) (c i) := ⟨_, rfl⟩
  rw [← hG]
  have HG := Lib.hid hG
  have HI1 := Lib.hid (init_any w adc capc A a c hc)
  have HI2 := Lib.hid (show ∀ w1, Below w.heap.size w w1 → _ from fun w1 hb => init_any w1 ads caps B b s (fun i hi => (hs i hi).below hb))
  have HC := Lib.hid hc
  have HS := Lib.hid hs
  clear hc hs hG
  go_enter Tryz.func20, Tryz.ntmps20
  go_upto_region 4 with (first
    | (go_at_call 28; (with_reducible refine HI1.out.mono ?_); rintro e w1 ⟨rfl, hb1, hc1⟩; have HB1 := Lib.hid hb1; have HC1 := Lib.hid hc1; clear hb1 hc1)
    | (go_at_call 28; (with_reducible refine (HI2.out w1 HB1.out).mono ?_); rintro e w2 ⟨rfl, hb2, hs2⟩; have HB2 := Lib.hid hb2; have HS2 := Lib.hid hs2; clear hb2 hs2)
    | (go_at_call 27; refine Hid.out ?_))
  refine Lib.hid ?_
  have hp : ∀ i, i < 8 → Pair w2 w.heap.size w1.heap.size (16 + i) (c i) (s i) (A i) (B i) (a i) (b i) := fun i hi => by
    have hc1 := HC1.out i (by omega)
    have hci := ((HC.out i (by omega)).below HB1.out).below HB2.out
    have hsi := ((HS.out i (by omega)).below HB1.out).below HB2.out
    exact ⟨(HB2.out.cell (blk_lt_of_cell hc1)).trans hc1, HS2.out i (by omega), hci.rr, hsi.rr, hci.le, hsi.le⟩
  have hf := fa_any w2 w.heap.size w1.heap.size A B a b c s (hp 0 (by decide)) (hp 1 (by decide)) (hp 2 (by decide)) (hp 3 (by decide)) (hp 4 (by decide)) (hp 5 (by decide)) (hp 6 (by decide)) (hp 7 (by decide))
  rw [← HG.out] at hf
  refine hf.mono ?_
  rintro e w3 ⟨hb3, ⟨hall, rfl, hbk⟩ | ⟨hall, T, v, rfl⟩⟩
  · have HB3 := Lib.hid ((HB1.out.trans (HB2.out.mono HB1.out.size)).trans (hb3.mono (by have := HB1.out.size; have := HB2.out.size; omega)))
    have HA := Lib.hid hall
    have c0 : w3.cell? ⟨w2.heap.size, 0, none⟩ = some (.string ⟨(wantP G 0).toArray⟩) := by simpa [strV] using hbk.cell 0
    have c1 : w3.cell? ⟨w2.heap.size, 1, none⟩ = some (.string ⟨(wantP G 1).toArray⟩) := by simpa [strV] using hbk.cell 1
    have c2 : w3.cell? ⟨w2.heap.size, 2, none⟩ = some (.string ⟨(wantP G 3).toArray⟩) := by simpa [strV] using hbk.cell 2
    have c3 : w3.cell? ⟨w2.heap.size, 3, none⟩ = some (.string ⟨(wantP G 5).toArray⟩) := by simpa [strV] using hbk.cell 3
    have c4 : w3.cell? ⟨w2.heap.size, 4, none⟩ = some (.string ⟨(wantP G 7).toArray⟩) := by simpa [strV] using hbk.cell 4
    have c5 : w3.cell? ⟨w2.heap.size, 5, none⟩ = some (.string ⟨(wantP G 2).toArray⟩) := by simpa [strV] using hbk.cell 5
    have c6 : w3.cell? ⟨w2.heap.size, 6, none⟩ = some (.string ⟨(wantP G 4).toArray⟩) := by simpa [strV] using hbk.cell 6
    have c7 : w3.cell? ⟨w2.heap.size, 7, none⟩ = some (.string ⟨(wantP G 6).toArray⟩) := by simpa [strV] using hbk.cell 7
    clear hf hp hb3 hbk hall
    go_upto_region 4 with fail
    go_region_held3 (fun w' => w'.cell? ⟨w2.heap.size, 0, none⟩ = some (.string ⟨(wantP G 0).toArray⟩) ∧ w'.cell? ⟨w2.heap.size, 1, none⟩ = some (.string ⟨(wantP G 1).toArray⟩) ∧ w'.cell? ⟨w2.heap.size, 2, none⟩ = some (.string ⟨(wantP G 3).toArray⟩) ∧ w'.cell? ⟨w2.heap.size, 3, none⟩ = some (.string ⟨(wantP G 5).toArray⟩) ∧ w'.cell? ⟨w2.heap.size, 4, none⟩ = some (.string ⟨(wantP G 7).toArray⟩) ∧ w'.cell? ⟨w2.heap.size, 5, none⟩ = some (.string ⟨(wantP G 2).toArray⟩) ∧ w'.cell? ⟨w2.heap.size, 6, none⟩ = some (.string ⟨(wantP G 4).toArray⟩) ∧ w'.cell? ⟨w2.heap.size, 7, none⟩ = some (.string ⟨(wantP G 6).toArray⟩)) (first | go_keep) (first | fail)
    go_wp2_with fail
    go_ret2
    refine ⟨HB3.out.drew.alloc (by have := HB3.out.size; exact this) _, .inl ⟨HA.out, _, rfl, HB3.out.size, ?_⟩⟩
    have h := (Blk.new w3 9 #[.string ⟨(wantP G 0).toArray⟩, .string ⟨(wantP G 1).toArray⟩, .string ⟨(wantP G 2).toArray⟩, .string ⟨(wantP G 3).toArray⟩, .string ⟨(wantP G 4).toArray⟩, .string ⟨(wantP G 5).toArray⟩, .string ⟨(wantP G 6).toArray⟩, .string ⟨(wantP G 7).toArray⟩]).drew
    simpa [strV] using h
  · have HB3 := Lib.hid ((HB1.out.trans (HB2.out.mono HB1.out.size)).trans (hb3.mono (by have := HB1.out.size; have := HB2.out.size; omega)))
    have HA := Lib.hid hall
    clear hf hp hb3 hall
    go_wp2_with fail
    go_ret2
    exact ⟨HB3.out, .inr ⟨HA.out, T, v, rfl⟩⟩

end Go.Proofs.YtmblpmmnglmjfaaGreatDoor
