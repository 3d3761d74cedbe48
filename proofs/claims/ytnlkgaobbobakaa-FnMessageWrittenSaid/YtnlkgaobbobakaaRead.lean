/- impl.ReadMessage. -/
import Derived.Test.YtnlkgaobbobakaaDec
import Derived.Test.YtnlkgaobbobakaaDecK
import Derived.Test.YtnlkgaobbobakaaCalm
set_option linter.unusedVariables false
set_option linter.unusedSimpArgs false
namespace Go.Proofs.Ytnlkgaobbobakaa
open Go.RowKit

/-- What ZzDecode hands back, the number 52 with it. -/
def ZzE (B : Nat) (w : World) (L : List (UInt8 × Nat)) (xs : List UInt8) (e : Ending) (w' : World) : Prop :=
  Below w.heap.size w w' ∧
  ((∃ vals gp Af t cs, rdAll (L.map (·.1)) xs = some (vals, []) ∧ e = .returned (.tuple #[.slice Af L.length L.length, .nilIface]) ∧ w.heap.size ≤ gp ∧ Blk w' gp t cs ∧ RR (lit fun q : UInt8 × Nat => fieldV gp q.1 q.2) (fun b => w.heap.size ≤ b) w' Af L ∧ vals.length = L.length ∧ Got (fun b => B ≤ b ∧ b ≠ gp) w' cs L vals) ∨
  ((∀ vals, rdAll (L.map (·.1)) xs ≠ some (vals, [])) ∧ ∃ T v, e = .returned (.tuple #[.slice none 0 0, .iface T v])))
theorem ZzEnd.e {B : Nat} {w : World} {L : List (UInt8 × Nat)} {xs : List UInt8} {e : Ending} {w' : World} (h : ZzEnd B w L xs e w') : ZzE B w L xs e w' := by
  obtain ⟨hb, h⟩ := h
  refine ⟨hb, ?_⟩
  rcases h with ⟨vals, gp, b2, t, cs, h1, h2, h3, h4, h5, h6, h7, h8⟩ | h
  · refine .inl ⟨vals, gp, _, t, cs, h1, h2, h3, h5, fun i q hq => ⟨⟨b2, 0, none⟩, _, rfl, by show _ ≤ b2; omega, ?_, rfl⟩, h7, h8⟩
    rw [addr0, h6.cell i]
    simp [hq]
  · exact .inr h
set_option maxHeartbeats 1000000 in
theorem decode_52 (ok : Nat → Prop) (A : Option Addr) (c : Nat) (w : World) (hr : RR (lit byteV) ok w A [52]) :
    Calls Try.prog 32 #[.slice A 1 c] w fun e w' => e = .returned (.tuple #[.iface 171 (.pointer (some ⟨w.heap.size, 0, none⟩)), .nilIface]) ∧ w' = w.alloc (.cells #[] 173) := by
  obtain ⟨ad, rfl, hado, hcc⟩ := RB.at hr (by simp)
  have hcx : w.cell? ad = some (.int .u8 52) := hcc 0 52 rfl
  clear hr hcc
  go_enter Try.func32, Try.ntmps32
  go_wp2_with fail
  go_ret2
  exact ⟨rfl, rfl⟩
theorem fields_52 (p : Value) (w : World) : Calls Try.prog 116 #[p] w fun e w' => e = .returned (.tuple #[.slice none 0 0, .slice none 0 0]) ∧ w' = w := by
  go_enter Try.func116, Try.ntmps116
  go_wp2
  go_ret2
  exact ⟨rfl, rfl⟩
theorem zz_52 (B : Nat) (ok : Nat → Prop) (A : Option Addr) (c : Nat) (w : World) (hr : RR (lit byteV) ok w A [52]) : Calls Try.prog 26 #[.slice A 1 c] w (ZzE B w [] []) := by
  have HD := Lib.hid (decode_52 ok A c w hr)
  have hme : ∀ (gp : Nat) (W : World), (method 334 171 (.pointer (some ⟨gp, 0, none⟩)) "ZzFields").run Try.prog W = .ok (116, .pointer (some ⟨gp, 0, none⟩)) W := fun gp W => by kernel_rfl
  clear hr
  go_enter Try.func26, Try.ntmps26
  go_wp2_with (first
    | (go_at_call 32; refine HD.out.mono ?_; rintro e w1 ⟨rfl, rfl⟩)
    | (go_at_call 116; refine (fields_52 _ _).mono ?_; rintro e w2 ⟨rfl, rfl⟩))
  go_ret2
  exact ⟨(Below.refl _ _).alloc (Nat.le_refl _) _, .inl ⟨[], w.heap.size, none, _, _, rfl, rfl, Nat.le_refl _, Blk.new _ _ _, RR.nil _ _ _ _, rfl, Got.nil _ _ _ _⟩⟩
/-- Fields of plain bytes: at most one. -/
def isB (c : UInt8) : Bool := c == 99 || c == 114
def noB (L : List (UInt8 × Nat)) : Bool := L.all fun q => !isB q.1
def oneB : List (UInt8 × Nat) → Bool
  | [] => true
  | q :: r => if isB q.1 then noB r else oneB r

/-- What the closure that reads has done. -/
def RmEnd (w : World) (g4 g5 : Nat) (L : List (UInt8 × Nat)) (xs : List UInt8) (w' : World) : Prop :=
  Keep (fun b => b ≠ g4 ∧ b ≠ g5) w w' ∧
  ((∃ vals gp Af t cs, rdAll (L.map (·.1)) xs = some (vals, []) ∧ w'.cell? ⟨g4, 0, none⟩ = some (.slice Af L.length L.length) ∧ w'.cell? ⟨g5, 0, none⟩ = some .nilIface ∧ w.heap.size ≤ gp ∧ Blk w' gp t cs ∧ RR (lit fun q : UInt8 × Nat => fieldV gp q.1 q.2) (fun b => w.heap.size ≤ b) w' Af L ∧ vals.length = L.length ∧ Got (fun b => w.heap.size ≤ b ∧ b ≠ gp) w' cs L vals) ∨
  ((∀ vals, rdAll (L.map (·.1)) xs ≠ some (vals, [])) ∧ ∃ T v, w'.cell? ⟨g5, 0, none⟩ = some (.iface T v)))
set_option maxHeartbeats 1000000 in
theorem rm1 (A : Option Addr) (c : Nat) (x : UInt8) (xs : List UInt8) (w : World) (g1 g4 g5 : Nat) (L : List (UInt8 × Nat)) (o4 o5 : Value) (hl : xs.length ≤ 1000000) (hr : RR (lit byteV) all_ w A (x :: xs))
    (h1 : w.cell? ⟨g1, 0, none⟩ = some (.slice A (xs.length + 1) c)) (h4 : w.cell? ⟨g4, 0, none⟩ = some o4) (h5 : w.cell? ⟨g5, 0, none⟩ = some o5) (h4f : w.frozen? ⟨g4, 0, none⟩ = false) (h5f : w.frozen? ⟨g5, 0, none⟩ = false) (h45 : g4 ≠ g5)
    (hz : ∀ (B : Nat) (A : Option Addr) (c : Nat) (W : World), xs.length + 1 ≤ c → c ≤ 9223372036854775807 → B ≤ W.heap.size → RR (lit byteV) (fun b => B ≤ b) W A (x :: xs) → Calls Try.prog 26 #[.slice A (xs.length + 1) c] W (ZzE B W L xs)) :
    Calls Try.prog 25 #[.pointer (some ⟨g1, 0, none⟩), .pointer (some ⟨g4, 0, none⟩), .pointer (some ⟨g5, 0, none⟩)] w fun e w' => e = .returned (.tuple #[]) ∧ RmEnd w g4 g5 L xs w' := by
  have HO := Lib.hid (news_of (own_new all_ A c (x :: xs) w (by simp; omega) hr))
  have HZ := Lib.hid hz
  clear hr hz
  go_enter Try.func25, Try.ntmps25
  go_wp2_with (go_at_call 27; refine HO.out.mono ?_; rintro e w1 ⟨A1, c1, rfl, hown, hc1, hm1, hb⟩; have HW := Lib.hid hown; have HB := Lib.hid hb; clear hown hb)
  have hz1 := HZ.out w.heap.size A1 c1 w1 (by simpa using hc1) hm1 HB.out.size (byts_parts (own_byts HW.out (fun b hb => hb))).2.2
  have HZ1 := Lib.hid hz1
  have hk1 : Keep all_ w w1 := Keep.of_below HB.out
  have h41 := (HB.out.cell (blk_lt_of_cell h4)).trans h4
  have h51 := (HB.out.cell (blk_lt_of_cell h5)).trans h5
  have h4f1 := (HB.out.frozen (blk_lt_of_cell h4)).trans h4f
  have h5f1 := (HB.out.frozen (blk_lt_of_cell h5)).trans h5f
  clear hz1 hk1
  refine HZ1.out.mono ?_
  rintro e w2 ⟨hb2, hz2⟩
  have h42 := (hb2.cell (blk_lt_of_cell h41)).trans h41
  have h52 := (hb2.cell (blk_lt_of_cell h51)).trans h51
  have h4f2 := (hb2.frozen (blk_lt_of_cell h41)).trans h4f1
  have h5f2 := (hb2.frozen (blk_lt_of_cell h51)).trans h5f1
  have HB2 := Lib.hid hb2
  rcases hz2 with ⟨vals, gp, Af, t, cs, hv, rfl, hgp, hblk, hRR, hlen, hgot⟩ | ⟨hv, T, v, rfl⟩
  · have HV := Lib.hid hv
    have HBK := Lib.hid hblk
    have HRR := Lib.hid hRR
    have HG := Lib.hid hgot
    clear hb2 hv hblk hRR hgot
    go_wp2_with fail
    go_end0
    have h1lt := blk_lt_of_cell h41
    have h2lt := blk_lt_of_cell h51
    refine ⟨rfl, ((Keep.of_below (HB.out.trans (HB2.out.mono HB.out.size))).setCell (fun _ ho => ho.1 rfl) _).setCell (fun _ ho => ho.2 rfl) _, .inl ⟨vals, gp, Af, t, cs, HV.out, ?_, ?_, Nat.le_trans HB.out.size hgp, ?_, ?_, hlen, ?_⟩⟩
    · simp [go_sem, h45, h42, h52]
    · simp [go_sem, h45, h42, h52]
    · exact (HBK.out.far (show gp ≠ g4 by simp at h1lt; omega) _).far (show gp ≠ g5 by simp at h2lt; omega) _
    · exact RR.mono (RR.keep HRR.out (lit_steady _) (((Keep.refl _ w2).setCell (fun _ ho => by simp at h1lt ho; omega) _).setCell (fun _ ho => by simp at h2lt ho; omega) _)) (lit_steady _) (fun b _ hb => Nat.le_trans HB.out.size hb)
    · intro i fv q h1 h2
      refine (HG.out i fv q h1 h2).away (fun _ _ _ => rfl) (((Keep.refl _ w2).setCell (fun _ ho => ?_) _).setCell (fun _ ho => ?_) _)
      · have := blk_lt_of_cell h4
        have := ho.1
        simp at *
        omega
      · have := blk_lt_of_cell h5
        have := ho.1
        simp at *
        omega
  · have HV := Lib.hid hv
    clear hb2 hv
    go_wp2_with fail
    go_end0
    refine ⟨rfl, ((Keep.of_below (HB.out.trans (HB2.out.mono HB.out.size))).setCell (fun _ ho => ho.1 rfl) _).setCell (fun _ ho => ho.2 rfl) _, .inr ⟨HV.out, T, v, ?_⟩⟩
    simp [go_sem, h45, h42, h52]

/-- ZzDecode at any number that has a shape. -/
def ZzAll (x : UInt8) (xs : List UInt8) (L : List (UInt8 × Nat)) : Prop := ∀ (B : Nat) (A : Option Addr) (c : Nat) (W : World), xs.length + 1 ≤ c → c ≤ 9223372036854775807 → B ≤ W.heap.size → RR (lit byteV) (fun b => B ≤ b) W A (x :: xs) → Calls Try.prog 26 #[.slice A (xs.length + 1) c] W (ZzE B W L xs)
theorem u8_of {x : UInt8} {n : Nat} (h : (x.toNat : Int) = (n : Int)) (hn : n < 256) : x = UInt8.ofNat n := by
  apply UInt8.toNat_inj.1
  rw [UInt8.toNat_ofNat']
  omega
theorem zz_any (x : UInt8) (xs form : List UInt8) (hl : xs.length ≤ 1000000) (hf : shapeP x.toNat = some form) (hx52 : x = 52 → xs = []) : ∃ L : List (UInt8 × Nat), L.map (·.1) = form ∧ oneB L = true ∧ L.length ≤ 100 ∧ ZzAll x xs L := by
  unfold shapeP at hf
  by_cases h1 : (x.toNat : Int) = 1
  · rw [if_pos h1] at hf
    obtain rfl : x = UInt8.ofNat 1 := u8_of h1 (by decide)
    injection hf with hf
    subst hf
    exact ⟨[(110, 0), (115, 1), (115, 2)], rfl, by decide, by decide, fun B A c W h1 h2 h3 h4 => (zz_1 B A c xs W hl h1 h2 h3 h4).mono fun _ _ h => h.e⟩
  rw [if_neg h1] at hf
  by_cases h5 : (x.toNat : Int) = 5
  · rw [if_pos h5] at hf
    obtain rfl : x = UInt8.ofNat 5 := u8_of h5 (by decide)
    injection hf with hf
    subst hf
    exact ⟨[(115, 0)], rfl, by decide, by decide, fun B A c W h1 h2 h3 h4 => (zz_5 B A c xs W hl h1 h2 h3 h4).mono fun _ _ h => h.e⟩
  rw [if_neg h5] at hf
  by_cases h6 : (x.toNat : Int) = 6
  · rw [if_pos h6] at hf
    obtain rfl : x = UInt8.ofNat 6 := u8_of h6 (by decide)
    injection hf with hf
    subst hf
    exact ⟨[(115, 0)], rfl, by decide, by decide, fun B A c W h1 h2 h3 h4 => (zz_6 B A c xs W hl h1 h2 h3 h4).mono fun _ _ h => h.e⟩
  rw [if_neg h6] at hf
  by_cases h20 : (x.toNat : Int) = 20
  · rw [if_pos h20] at hf
    obtain rfl : x = UInt8.ofNat 20 := u8_of h20 (by decide)
    injection hf with hf
    subst hf
    exact ⟨[(99, 0), (108, 16), (108, 17), (108, 18), (108, 19), (108, 20), (108, 21), (108, 22), (108, 23), (108, 24), (108, 25), (116, 26), (110, 27)], rfl, by decide, by decide, fun B A c W h1 h2 h3 h4 => (zz_20 B A c xs W hl h1 h2 h3 h4).mono fun _ _ h => h.e⟩
  rw [if_neg h20] at hf
  by_cases h50 : (x.toNat : Int) = 50
  · rw [if_pos h50] at hf
    obtain rfl : x = UInt8.ofNat 50 := u8_of h50 (by decide)
    injection hf with hf
    subst hf
    exact ⟨[(115, 0), (115, 1), (115, 2), (114, 3)], rfl, by decide, by decide, fun B A c W h1 h2 h3 h4 => (zz_50 B A c xs W hl h1 h2 h3 h4).mono fun _ _ h => h.e⟩
  rw [if_neg h50] at hf
  by_cases h51 : (x.toNat : Int) = 51
  · rw [if_pos h51] at hf
    obtain rfl : x = UInt8.ofNat 51 := u8_of h51 (by decide)
    injection hf with hf
    subst hf
    exact ⟨[(108, 0), (116, 1)], rfl, by decide, by decide, fun B A c W h1 h2 h3 h4 => (zz_51 B A c xs W hl h1 h2 h3 h4).mono fun _ _ h => h.e⟩
  rw [if_neg h51] at hf
  by_cases h52 : (x.toNat : Int) = 52
  · rw [if_pos h52] at hf
    obtain rfl : x = UInt8.ofNat 52 := u8_of h52 (by decide)
    injection hf with hf
    subst hf
    obtain rfl := hx52 rfl
    exact ⟨[], rfl, rfl, by decide, fun B A c W h1 h2 h3 h4 => zz_52 B _ A c W h4⟩
  rw [if_neg h52] at hf
  by_cases h80 : (x.toNat : Int) = 80
  · rw [if_pos h80] at hf
    obtain rfl : x = UInt8.ofNat 80 := u8_of h80 (by decide)
    injection hf with hf
    subst hf
    exact ⟨[(115, 0), (116, 1), (114, 2)], rfl, by decide, by decide, fun B A c W h1 h2 h3 h4 => (zz_80 B A c xs W hl h1 h2 h3 h4).mono fun _ _ h => h.e⟩
  rw [if_neg h80] at hf
  by_cases h81 : (x.toNat : Int) = 81
  · rw [if_pos h81] at hf
    obtain rfl : x = UInt8.ofNat 81 := u8_of h81 (by decide)
    injection hf with hf
    subst hf
    exact ⟨[(114, 0)], rfl, by decide, by decide, fun B A c W h1 h2 h3 h4 => (zz_81 B A c xs W hl h1 h2 h3 h4).mono fun _ _ h => h.e⟩
  rw [if_neg h81] at hf
  by_cases h82 : (x.toNat : Int) = 82
  · rw [if_pos h82] at hf
    obtain rfl : x = UInt8.ofNat 82 := u8_of h82 (by decide)
    injection hf with hf
    subst hf
    exact ⟨[(114, 0)], rfl, by decide, by decide, fun B A c W h1 h2 h3 h4 => (zz_82 B A c xs W hl h1 h2 h3 h4).mono fun _ _ h => h.e⟩
  rw [if_neg h82] at hf
  by_cases h90 : (x.toNat : Int) = 90
  · rw [if_pos h90] at hf
    obtain rfl : x = UInt8.ofNat 90 := u8_of h90 (by decide)
    injection hf with hf
    subst hf
    exact ⟨[(115, 0), (110, 1), (110, 2), (110, 3), (114, 4)], rfl, by decide, by decide, fun B A c W h1 h2 h3 h4 => (zz_90 B A c xs W hl h1 h2 h3 h4).mono fun _ _ h => h.e⟩
  rw [if_neg h90] at hf
  by_cases h91 : (x.toNat : Int) = 91
  · rw [if_pos h91] at hf
    obtain rfl : x = UInt8.ofNat 91 := u8_of h91 (by decide)
    injection hf with hf
    subst hf
    exact ⟨[(110, 0), (110, 1), (110, 2), (110, 3), (114, 4)], rfl, by decide, by decide, fun B A c W h1 h2 h3 h4 => (zz_91 B A c xs W hl h1 h2 h3 h4).mono fun _ _ h => h.e⟩
  rw [if_neg h91] at hf
  by_cases h92 : (x.toNat : Int) = 92
  · rw [if_pos h92] at hf
    obtain rfl : x = UInt8.ofNat 92 := u8_of h92 (by decide)
    injection hf with hf
    subst hf
    exact ⟨[(110, 0), (110, 1), (115, 2), (115, 3)], rfl, by decide, by decide, fun B A c W h1 h2 h3 h4 => (zz_92 B A c xs W hl h1 h2 h3 h4).mono fun _ _ h => h.e⟩
  rw [if_neg h92] at hf
  by_cases h93 : (x.toNat : Int) = 93
  · rw [if_pos h93] at hf
    obtain rfl : x = UInt8.ofNat 93 := u8_of h93 (by decide)
    injection hf with hf
    subst hf
    exact ⟨[(110, 0), (110, 1)], rfl, by decide, by decide, fun B A c W h1 h2 h3 h4 => (zz_93 B A c xs W hl h1 h2 h3 h4).mono fun _ _ h => h.e⟩
  rw [if_neg h93] at hf
  by_cases h96 : (x.toNat : Int) = 96
  · rw [if_pos h96] at hf
    obtain rfl : x = UInt8.ofNat 96 := u8_of h96 (by decide)
    injection hf with hf
    subst hf
    exact ⟨[(110, 0)], rfl, by decide, by decide, fun B A c W h1 h2 h3 h4 => (zz_96 B A c xs W hl h1 h2 h3 h4).mono fun _ _ h => h.e⟩
  rw [if_neg h96] at hf
  by_cases h97 : (x.toNat : Int) = 97
  · rw [if_pos h97] at hf
    obtain rfl : x = UInt8.ofNat 97 := u8_of h97 (by decide)
    injection hf with hf
    subst hf
    exact ⟨[(110, 0)], rfl, by decide, by decide, fun B A c W h1 h2 h3 h4 => (zz_97 B A c xs W hl h1 h2 h3 h4).mono fun _ _ h => h.e⟩
  rw [if_neg h97] at hf
  by_cases h98 : (x.toNat : Int) = 98
  · rw [if_pos h98] at hf
    obtain rfl : x = UInt8.ofNat 98 := u8_of h98 (by decide)
    injection hf with hf
    subst hf
    exact ⟨[(110, 0), (115, 1), (116, 2), (114, 3)], rfl, by decide, by decide, fun B A c W h1 h2 h3 h4 => (zz_98 B A c xs W hl h1 h2 h3 h4).mono fun _ _ h => h.e⟩
  rw [if_neg h98] at hf
  by_cases h99 : (x.toNat : Int) = 99
  · rw [if_pos h99] at hf
    obtain rfl : x = UInt8.ofNat 99 := u8_of h99 (by decide)
    injection hf with hf
    subst hf
    exact ⟨[(110, 0)], rfl, by decide, by decide, fun B A c W h1 h2 h3 h4 => (zz_99 B A c xs W hl h1 h2 h3 h4).mono fun _ _ h => h.e⟩
  rw [if_neg h99] at hf
  by_cases h100 : (x.toNat : Int) = 100
  · rw [if_pos h100] at hf
    obtain rfl : x = UInt8.ofNat 100 := u8_of h100 (by decide)
    injection hf with hf
    subst hf
    exact ⟨[(110, 0)], rfl, by decide, by decide, fun B A c W h1 h2 h3 h4 => (zz_100 B A c xs W hl h1 h2 h3 h4).mono fun _ _ h => h.e⟩
  rw [if_neg h100] at hf
  cases hf

end Go.Proofs.Ytnlkgaobbobakaa
