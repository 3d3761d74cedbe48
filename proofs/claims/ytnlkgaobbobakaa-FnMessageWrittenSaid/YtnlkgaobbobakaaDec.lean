/- ssh.decode and ssh.ZzDecode, number for number. Printed by gen_dec.py. -/
import Derived.Test.YtnlkgaobbobakaaUnm
set_option linter.unusedVariables false
set_option linter.unusedSimpArgs false
namespace Go.Proofs.Ytnlkgaobbobakaa
open Go.RowKit

/-- What decode hands back. -/
def DecEnd (B : Nat) (w : World) (T : Nat) (t : TypeId) (L : List (UInt8 × Nat)) (xs : List UInt8) (e : Ending) (w' : World) : Prop :=
  Below w.heap.size w w' ∧
  match rdAll (L.map (·.1)) xs with
  | some (vals, []) => ∃ gp cs, e = .returned (.tuple #[.iface T (.pointer (some ⟨gp, 0, none⟩)), .nilIface]) ∧ w.heap.size ≤ gp ∧ Blk w' gp t cs ∧ vals.length = L.length ∧ Got (fun b => B ≤ b ∧ b ≠ gp) w' cs L vals
  | _ => ∃ T v, e = .returned (.tuple #[.nilIface, .iface T v])
/-- What Unmarshal's error means for decode. -/
theorem dec_of_unm {B : Nat} {w w1 : World} {gp : Nat} {t : TypeId} {L : List (UInt8 × Nat)} {xs : List UInt8} {e : Ending} {w' : World} (h : UnmEnd (fun b => B ≤ b ∧ b ≠ gp) w1 gp t L xs e w') (hg : gp = w.heap.size) (hb : Below w.heap.size w w1) :
    (e = .returned .nilIface ∧ ∀ T, DecEnd B w T t L xs (.returned (.tuple #[.iface T (.pointer (some ⟨gp, 0, none⟩)), .nilIface])) w') ∨ ∃ T v, e = .returned (.iface T v) ∧ ∀ T', DecEnd B w T' t L xs (.returned (.tuple #[.nilIface, .iface T v])) w' := by
  subst hg
  obtain ⟨hk, hm⟩ := h
  have hB : Below w.heap.size w w' := ⟨hk.os.trans hb.os, hk.tape.trans hb.tape, hk.output.trans hb.output, Nat.le_trans hb.size hk.size, fun k hlt => (hk.block k (Nat.lt_of_lt_of_le hlt hb.size) (show k ≠ w.heap.size by omega)).trans (hb.block k hlt)⟩
  unfold DecEnd
  split at hm
  · rename_i vals hv
    obtain ⟨rfl, cs, h1, h2, h3⟩ := hm
    refine .inl ⟨rfl, fun T => ⟨hB, ?_⟩⟩
    rw [hv]
    exact ⟨_, cs, rfl, Nat.le_refl _, h1, h2, h3⟩
  · rename_i hv
    obtain ⟨T, v, rfl⟩ := hm
    refine .inr ⟨T, v, rfl, fun T' => ⟨hB, ?_⟩⟩
    split
    · rename_i vals hv'
      exact (hv vals hv').elim
    · exact ⟨T, v, rfl⟩

theorem Got.below {ok : Nat → Prop} {w w' : World} {cs : Array Value} {L : List (UInt8 × Nat)} {vals : List Fv} (h : Got ok w cs L vals) (hb : Below w.heap.size w w') : Got ok w' cs L vals := fun i fv q h1 h2 => (h i fv q h1 h2).away (fun _ _ _ => rfl) (Keep.of_below hb)
/-- What ZzDecode hands back. -/
def ZzEnd (B : Nat) (w : World) (L : List (UInt8 × Nat)) (xs : List UInt8) (e : Ending) (w' : World) : Prop :=
  Below w.heap.size w w' ∧
  ((∃ vals gp b2 t cs, rdAll (L.map (·.1)) xs = some (vals, []) ∧ e = .returned (.tuple #[.slice (some ⟨b2, 0, none⟩) L.length L.length, .nilIface]) ∧ w.heap.size ≤ gp ∧ gp < b2 ∧ Blk w' gp t cs ∧ Blk w' b2 20 (L.map fun q => fieldV gp q.1 q.2).toArray ∧ vals.length = L.length ∧ Got (fun b => B ≤ b ∧ b ≠ gp) w' cs L vals) ∨
  ((∀ vals, rdAll (L.map (·.1)) xs ≠ some (vals, [])) ∧ ∃ T v, e = .returned (.tuple #[.slice none 0 0, .iface T v])))
set_option maxHeartbeats 400000 in
theorem zz_walk (B : Nat) (A : Option Addr) (c : Nat) (xs : List UInt8) (w : World) (T F : Nat) (num : Nat) (t : TypeId) (L : List (UInt8 × Nat)) (hd : Calls Try.prog 32 #[.slice A (xs.length + 1) c] w (DecEnd B w T t L xs))
    (hme : ∀ (gp : Nat) (W : World), (method 334 T (.pointer (some ⟨gp, 0, none⟩)) "ZzFields").run Try.prog W = .ok (F, .pointer (some ⟨gp, 0, none⟩)) W)
    (hcf : ∀ (gp : Nat) (W : World), (callFunc F #[.pointer (some ⟨gp, 0, none⟩)]).run Try.prog W = .ok (.enter F #[.pointer (some ⟨gp, 0, none⟩)]) W)
    (hf : ∀ (gp : Nat) (W : World), Calls Try.prog F #[.pointer (some ⟨gp, 0, none⟩)] W (FieldsEnd W gp num L)) :
    Calls Try.prog 26 #[.slice A (xs.length + 1) c] w (ZzEnd B w L xs) := by
  have HD := Lib.hid hd
  have HF := Lib.hid hf
  clear hd hf
  by_cases hv : ∃ vals, rdAll (L.map (·.1)) xs = some (vals, [])
  · obtain ⟨vals, hv⟩ := hv
    have HV := Lib.hid hv
    unfold DecEnd at HD
    rw [hv] at HD
    clear hv
    go_enter Try.func26, Try.ntmps26
    go_wp2_with (first
      | (go_at_call 32; refine HD.out.mono ?_; rintro e w1 ⟨hb1, gp, cs, rfl, hgp, hblk, hlen, hgot⟩; have HB1 := Lib.hid hb1; have HK1 := Lib.hid hblk; have HG1 := Lib.hid hgot; clear hb1 hblk hgot)
      | (refine (HF.out _ _).mono ?_; rintro e w2 ⟨b1, b2, rfl, hb1, hb2, hn1, hn2, hbl⟩))
    go_ret2
    exact ⟨HB1.out.trans (hbl.mono HB1.out.size), .inl ⟨vals, gp, b2, t, cs, HV.out, rfl, hgp, by have := HK1.out.lt; omega, (hbl.block gp HK1.out.lt).trans HK1.out, hb2, hlen, HG1.out.below hbl⟩⟩
  · have hv' : ∀ vals, rdAll (L.map (·.1)) xs ≠ some (vals, []) := fun vals h => hv ⟨vals, h⟩
    have hd2 : Calls Try.prog 32 #[.slice A (xs.length + 1) c] w fun e w' => Below w.heap.size w w' ∧ ∃ T v, e = .returned (.tuple #[.nilIface, .iface T v]) := HD.out.mono fun e w' ⟨h1, h2⟩ => by
      refine ⟨h1, ?_⟩
      split at h2
      · rename_i vals h3
        exact (hv' vals h3).elim
      · exact h2
    have HD2 := Lib.hid hd2
    have HV := Lib.hid hv'
    clear hd2 hv hv'
    go_enter Try.func26, Try.ntmps26
    go_wp2_with (go_at_call 32; refine HD2.out.mono ?_; rintro e w1 ⟨hb1, T1, v1, rfl⟩; have HB1 := Lib.hid hb1; clear hb1)
    go_ret2
    exact ⟨HB1.out, .inr ⟨HV.out, T1, v1, rfl⟩⟩

set_option maxRecDepth 20000 in
set_option maxHeartbeats 1000000 in
theorem decode_1 (B : Nat) (A : Option Addr) (c : Nat) (xs : List UInt8) (w : World) (hl : xs.length ≤ 1000000) (hc : xs.length + 1 ≤ c) (hm : c ≤ 9223372036854775807) (hB : B ≤ w.heap.size) (hr : RR (lit byteV) (fun b => B ≤ b) w A (1 :: xs)) :
    Calls Try.prog 32 #[.slice A (xs.length + 1) c] w (DecEnd B w 83 85 [(110, 0), (115, 1), (115, 2)] xs) := by
  have hr1 : RR (lit byteV) (fun b => B ≤ b ∧ b ≠ w.heap.size) (w.alloc (.cells #[.int .u32 0, .string ⟨#[]⟩, .string ⟨#[]⟩] 85)) A (1 :: xs) := RR.move hr (lit_steady _) (fun b hb ho => ⟨⟨ho, by omega⟩, Below.heap_alloc _ _ _ hb⟩)
  have HU := Lib.hid (unmarshal_walk (fun b => B ≤ b ∧ b ≠ w.heap.size) A c 1 xs (w.alloc (.cells #[.int .u32 0, .string ⟨#[]⟩, .string ⟨#[]⟩] 85)) 83 87 w.heap.size 85 #[.int .u32 0, .string ⟨#[]⟩, .string ⟨#[]⟩] [(110, 0), (115, 1), (115, 2)] hl (by decide) hc hm (fun b hb => hb.2) (fun b hb => by simp at hb; omega) hr1 (by decide) (Blk.new _ _ _) (by simp [Laid, letter, widthC]) (fun W => by kernel_rfl) (fun W => by kernel_rfl) (fun W => fields_1 W _))
  obtain ⟨ad, rfl, hado, hcc⟩ := RB.at hr (by simp)
  have hcx : w.cell? ad = some (.int .u8 1) := hcc 0 1 rfl
  have HC := Lib.hid hc
  clear hr hr1 hcc hc
  go_enter Try.func32, Try.ntmps32
  go_wp2_with (go_at_call 35; refine HU.out.mono ?_; intro e w2 hue; rcases dec_of_unm hue rfl ((Below.refl _ w).alloc (Nat.le_refl _) _) with ⟨rfl, hd⟩ | ⟨T, v, rfl, hd⟩)
  all_goals
    go_ret2
    exact hd _
theorem zz_1 (B : Nat) (A : Option Addr) (c : Nat) (xs : List UInt8) (w : World) (hl : xs.length ≤ 1000000) (hc : xs.length + 1 ≤ c) (hm : c ≤ 9223372036854775807) (hB : B ≤ w.heap.size) (hr : RR (lit byteV) (fun b => B ≤ b) w A (1 :: xs)) :
    Calls Try.prog 26 #[.slice A (xs.length + 1) c] w (ZzEnd B w [(110, 0), (115, 1), (115, 2)] xs) :=
  zz_walk B A c xs w 83 87 1 85 [(110, 0), (115, 1), (115, 2)] (decode_1 B A c xs w hl hc hm hB hr) (fun gp W => by kernel_rfl) (fun gp W => by kernel_rfl) (fun gp W => fields_1 W gp)
set_option maxRecDepth 20000 in
set_option maxHeartbeats 1000000 in
theorem decode_5 (B : Nat) (A : Option Addr) (c : Nat) (xs : List UInt8) (w : World) (hl : xs.length ≤ 1000000) (hc : xs.length + 1 ≤ c) (hm : c ≤ 9223372036854775807) (hB : B ≤ w.heap.size) (hr : RR (lit byteV) (fun b => B ≤ b) w A (5 :: xs)) :
    Calls Try.prog 32 #[.slice A (xs.length + 1) c] w (DecEnd B w 86 88 [(115, 0)] xs) := by
  have hr1 : RR (lit byteV) (fun b => B ≤ b ∧ b ≠ w.heap.size) (w.alloc (.cells #[.string ⟨#[]⟩] 88)) A (5 :: xs) := RR.move hr (lit_steady _) (fun b hb ho => ⟨⟨ho, by omega⟩, Below.heap_alloc _ _ _ hb⟩)
  have HU := Lib.hid (unmarshal_walk (fun b => B ≤ b ∧ b ≠ w.heap.size) A c 5 xs (w.alloc (.cells #[.string ⟨#[]⟩] 88)) 86 88 w.heap.size 88 #[.string ⟨#[]⟩] [(115, 0)] hl (by decide) hc hm (fun b hb => hb.2) (fun b hb => by simp at hb; omega) hr1 (by decide) (Blk.new _ _ _) (by simp [Laid, letter, widthC]) (fun W => by kernel_rfl) (fun W => by kernel_rfl) (fun W => fields_5 W _))
  obtain ⟨ad, rfl, hado, hcc⟩ := RB.at hr (by simp)
  have hcx : w.cell? ad = some (.int .u8 5) := hcc 0 5 rfl
  have HC := Lib.hid hc
  clear hr hr1 hcc hc
  go_enter Try.func32, Try.ntmps32
  go_wp2_with (go_at_call 35; refine HU.out.mono ?_; intro e w2 hue; rcases dec_of_unm hue rfl ((Below.refl _ w).alloc (Nat.le_refl _) _) with ⟨rfl, hd⟩ | ⟨T, v, rfl, hd⟩)
  all_goals
    go_ret2
    exact hd _
theorem zz_5 (B : Nat) (A : Option Addr) (c : Nat) (xs : List UInt8) (w : World) (hl : xs.length ≤ 1000000) (hc : xs.length + 1 ≤ c) (hm : c ≤ 9223372036854775807) (hB : B ≤ w.heap.size) (hr : RR (lit byteV) (fun b => B ≤ b) w A (5 :: xs)) :
    Calls Try.prog 26 #[.slice A (xs.length + 1) c] w (ZzEnd B w [(115, 0)] xs) :=
  zz_walk B A c xs w 86 88 5 88 [(115, 0)] (decode_5 B A c xs w hl hc hm hB hr) (fun gp W => by kernel_rfl) (fun gp W => by kernel_rfl) (fun gp W => fields_5 W gp)
set_option maxRecDepth 20000 in
set_option maxHeartbeats 1000000 in
theorem decode_6 (B : Nat) (A : Option Addr) (c : Nat) (xs : List UInt8) (w : World) (hl : xs.length ≤ 1000000) (hc : xs.length + 1 ≤ c) (hm : c ≤ 9223372036854775807) (hB : B ≤ w.heap.size) (hr : RR (lit byteV) (fun b => B ≤ b) w A (6 :: xs)) :
    Calls Try.prog 32 #[.slice A (xs.length + 1) c] w (DecEnd B w 89 91 [(115, 0)] xs) := by
  have hr1 : RR (lit byteV) (fun b => B ≤ b ∧ b ≠ w.heap.size) (w.alloc (.cells #[.string ⟨#[]⟩] 91)) A (6 :: xs) := RR.move hr (lit_steady _) (fun b hb ho => ⟨⟨ho, by omega⟩, Below.heap_alloc _ _ _ hb⟩)
  have HU := Lib.hid (unmarshal_walk (fun b => B ≤ b ∧ b ≠ w.heap.size) A c 6 xs (w.alloc (.cells #[.string ⟨#[]⟩] 91)) 89 89 w.heap.size 91 #[.string ⟨#[]⟩] [(115, 0)] hl (by decide) hc hm (fun b hb => hb.2) (fun b hb => by simp at hb; omega) hr1 (by decide) (Blk.new _ _ _) (by simp [Laid, letter, widthC]) (fun W => by kernel_rfl) (fun W => by kernel_rfl) (fun W => fields_6 W _))
  obtain ⟨ad, rfl, hado, hcc⟩ := RB.at hr (by simp)
  have hcx : w.cell? ad = some (.int .u8 6) := hcc 0 6 rfl
  have HC := Lib.hid hc
  clear hr hr1 hcc hc
  go_enter Try.func32, Try.ntmps32
  go_wp2_with (go_at_call 35; refine HU.out.mono ?_; intro e w2 hue; rcases dec_of_unm hue rfl ((Below.refl _ w).alloc (Nat.le_refl _) _) with ⟨rfl, hd⟩ | ⟨T, v, rfl, hd⟩)
  all_goals
    go_ret2
    exact hd _
theorem zz_6 (B : Nat) (A : Option Addr) (c : Nat) (xs : List UInt8) (w : World) (hl : xs.length ≤ 1000000) (hc : xs.length + 1 ≤ c) (hm : c ≤ 9223372036854775807) (hB : B ≤ w.heap.size) (hr : RR (lit byteV) (fun b => B ≤ b) w A (6 :: xs)) :
    Calls Try.prog 26 #[.slice A (xs.length + 1) c] w (ZzEnd B w [(115, 0)] xs) :=
  zz_walk B A c xs w 89 89 6 91 [(115, 0)] (decode_6 B A c xs w hl hc hm hB hr) (fun gp W => by kernel_rfl) (fun gp W => by kernel_rfl) (fun gp W => fields_6 W gp)
set_option maxRecDepth 20000 in
set_option maxHeartbeats 1000000 in
theorem decode_50 (B : Nat) (A : Option Addr) (c : Nat) (xs : List UInt8) (w : World) (hl : xs.length ≤ 1000000) (hc : xs.length + 1 ≤ c) (hm : c ≤ 9223372036854775807) (hB : B ≤ w.heap.size) (hr : RR (lit byteV) (fun b => B ≤ b) w A (50 :: xs)) :
    Calls Try.prog 32 #[.slice A (xs.length + 1) c] w (DecEnd B w 99 101 [(115, 0), (115, 1), (115, 2), (114, 3)] xs) := by
  have hr1 : RR (lit byteV) (fun b => B ≤ b ∧ b ≠ w.heap.size) (w.alloc (.cells #[.string ⟨#[]⟩, .string ⟨#[]⟩, .string ⟨#[]⟩, .slice none 0 0] 101)) A (50 :: xs) := RR.move hr (lit_steady _) (fun b hb ho => ⟨⟨ho, by omega⟩, Below.heap_alloc _ _ _ hb⟩)
  have HU := Lib.hid (unmarshal_walk (fun b => B ≤ b ∧ b ≠ w.heap.size) A c 50 xs (w.alloc (.cells #[.string ⟨#[]⟩, .string ⟨#[]⟩, .string ⟨#[]⟩, .slice none 0 0] 101)) 99 92 w.heap.size 101 #[.string ⟨#[]⟩, .string ⟨#[]⟩, .string ⟨#[]⟩, .slice none 0 0] [(115, 0), (115, 1), (115, 2), (114, 3)] hl (by decide) hc hm (fun b hb => hb.2) (fun b hb => by simp at hb; omega) hr1 (by decide) (Blk.new _ _ _) (by simp [Laid, letter, widthC]) (fun W => by kernel_rfl) (fun W => by kernel_rfl) (fun W => fields_50 W _))
  obtain ⟨ad, rfl, hado, hcc⟩ := RB.at hr (by simp)
  have hcx : w.cell? ad = some (.int .u8 50) := hcc 0 50 rfl
  have HC := Lib.hid hc
  clear hr hr1 hcc hc
  go_enter Try.func32, Try.ntmps32
  go_wp2_with (go_at_call 35; refine HU.out.mono ?_; intro e w2 hue; rcases dec_of_unm hue rfl ((Below.refl _ w).alloc (Nat.le_refl _) _) with ⟨rfl, hd⟩ | ⟨T, v, rfl, hd⟩)
  all_goals
    go_ret2
    exact hd _
theorem zz_50 (B : Nat) (A : Option Addr) (c : Nat) (xs : List UInt8) (w : World) (hl : xs.length ≤ 1000000) (hc : xs.length + 1 ≤ c) (hm : c ≤ 9223372036854775807) (hB : B ≤ w.heap.size) (hr : RR (lit byteV) (fun b => B ≤ b) w A (50 :: xs)) :
    Calls Try.prog 26 #[.slice A (xs.length + 1) c] w (ZzEnd B w [(115, 0), (115, 1), (115, 2), (114, 3)] xs) :=
  zz_walk B A c xs w 99 92 50 101 [(115, 0), (115, 1), (115, 2), (114, 3)] (decode_50 B A c xs w hl hc hm hB hr) (fun gp W => by kernel_rfl) (fun gp W => by kernel_rfl) (fun gp W => fields_50 W gp)
set_option maxRecDepth 20000 in
set_option maxHeartbeats 1000000 in
theorem decode_51 (B : Nat) (A : Option Addr) (c : Nat) (xs : List UInt8) (w : World) (hl : xs.length ≤ 1000000) (hc : xs.length + 1 ≤ c) (hm : c ≤ 9223372036854775807) (hB : B ≤ w.heap.size) (hr : RR (lit byteV) (fun b => B ≤ b) w A (51 :: xs)) :
    Calls Try.prog 32 #[.slice A (xs.length + 1) c] w (DecEnd B w 102 104 [(108, 0), (116, 1)] xs) := by
  have hr1 : RR (lit byteV) (fun b => B ≤ b ∧ b ≠ w.heap.size) (w.alloc (.cells #[.slice none 0 0, .bool false] 104)) A (51 :: xs) := RR.move hr (lit_steady _) (fun b hb ho => ⟨⟨ho, by omega⟩, Below.heap_alloc _ _ _ hb⟩)
  have HU := Lib.hid (unmarshal_walk (fun b => B ≤ b ∧ b ≠ w.heap.size) A c 51 xs (w.alloc (.cells #[.slice none 0 0, .bool false] 104)) 102 93 w.heap.size 104 #[.slice none 0 0, .bool false] [(108, 0), (116, 1)] hl (by decide) hc hm (fun b hb => hb.2) (fun b hb => by simp at hb; omega) hr1 (by decide) (Blk.new _ _ _) (by simp [Laid, letter, widthC]) (fun W => by kernel_rfl) (fun W => by kernel_rfl) (fun W => fields_51 W _))
  obtain ⟨ad, rfl, hado, hcc⟩ := RB.at hr (by simp)
  have hcx : w.cell? ad = some (.int .u8 51) := hcc 0 51 rfl
  have HC := Lib.hid hc
  clear hr hr1 hcc hc
  go_enter Try.func32, Try.ntmps32
  go_wp2_with (go_at_call 35; refine HU.out.mono ?_; intro e w2 hue; rcases dec_of_unm hue rfl ((Below.refl _ w).alloc (Nat.le_refl _) _) with ⟨rfl, hd⟩ | ⟨T, v, rfl, hd⟩)
  all_goals
    go_ret2
    exact hd _
theorem zz_51 (B : Nat) (A : Option Addr) (c : Nat) (xs : List UInt8) (w : World) (hl : xs.length ≤ 1000000) (hc : xs.length + 1 ≤ c) (hm : c ≤ 9223372036854775807) (hB : B ≤ w.heap.size) (hr : RR (lit byteV) (fun b => B ≤ b) w A (51 :: xs)) :
    Calls Try.prog 26 #[.slice A (xs.length + 1) c] w (ZzEnd B w [(108, 0), (116, 1)] xs) :=
  zz_walk B A c xs w 102 93 51 104 [(108, 0), (116, 1)] (decode_51 B A c xs w hl hc hm hB hr) (fun gp W => by kernel_rfl) (fun gp W => by kernel_rfl) (fun gp W => fields_51 W gp)
set_option maxRecDepth 20000 in
set_option maxHeartbeats 1000000 in
theorem decode_80 (B : Nat) (A : Option Addr) (c : Nat) (xs : List UInt8) (w : World) (hl : xs.length ≤ 1000000) (hc : xs.length + 1 ≤ c) (hm : c ≤ 9223372036854775807) (hB : B ≤ w.heap.size) (hr : RR (lit byteV) (fun b => B ≤ b) w A (80 :: xs)) :
    Calls Try.prog 32 #[.slice A (xs.length + 1) c] w (DecEnd B w 111 113 [(115, 0), (116, 1), (114, 2)] xs) := by
  have hr1 : RR (lit byteV) (fun b => B ≤ b ∧ b ≠ w.heap.size) (w.alloc (.cells #[.string ⟨#[]⟩, .bool false, .slice none 0 0] 113)) A (80 :: xs) := RR.move hr (lit_steady _) (fun b hb ho => ⟨⟨ho, by omega⟩, Below.heap_alloc _ _ _ hb⟩)
  have HU := Lib.hid (unmarshal_walk (fun b => B ≤ b ∧ b ≠ w.heap.size) A c 80 xs (w.alloc (.cells #[.string ⟨#[]⟩, .bool false, .slice none 0 0] 113)) 111 96 w.heap.size 113 #[.string ⟨#[]⟩, .bool false, .slice none 0 0] [(115, 0), (116, 1), (114, 2)] hl (by decide) hc hm (fun b hb => hb.2) (fun b hb => by simp at hb; omega) hr1 (by decide) (Blk.new _ _ _) (by simp [Laid, letter, widthC]) (fun W => by kernel_rfl) (fun W => by kernel_rfl) (fun W => fields_80 W _))
  obtain ⟨ad, rfl, hado, hcc⟩ := RB.at hr (by simp)
  have hcx : w.cell? ad = some (.int .u8 80) := hcc 0 80 rfl
  have HC := Lib.hid hc
  clear hr hr1 hcc hc
  go_enter Try.func32, Try.ntmps32
  go_wp2_with (go_at_call 35; refine HU.out.mono ?_; intro e w2 hue; rcases dec_of_unm hue rfl ((Below.refl _ w).alloc (Nat.le_refl _) _) with ⟨rfl, hd⟩ | ⟨T, v, rfl, hd⟩)
  all_goals
    go_ret2
    exact hd _
theorem zz_80 (B : Nat) (A : Option Addr) (c : Nat) (xs : List UInt8) (w : World) (hl : xs.length ≤ 1000000) (hc : xs.length + 1 ≤ c) (hm : c ≤ 9223372036854775807) (hB : B ≤ w.heap.size) (hr : RR (lit byteV) (fun b => B ≤ b) w A (80 :: xs)) :
    Calls Try.prog 26 #[.slice A (xs.length + 1) c] w (ZzEnd B w [(115, 0), (116, 1), (114, 2)] xs) :=
  zz_walk B A c xs w 111 96 80 113 [(115, 0), (116, 1), (114, 2)] (decode_80 B A c xs w hl hc hm hB hr) (fun gp W => by kernel_rfl) (fun gp W => by kernel_rfl) (fun gp W => fields_80 W gp)
set_option maxRecDepth 20000 in
set_option maxHeartbeats 1000000 in
theorem decode_81 (B : Nat) (A : Option Addr) (c : Nat) (xs : List UInt8) (w : World) (hl : xs.length ≤ 1000000) (hc : xs.length + 1 ≤ c) (hm : c ≤ 9223372036854775807) (hB : B ≤ w.heap.size) (hr : RR (lit byteV) (fun b => B ≤ b) w A (81 :: xs)) :
    Calls Try.prog 32 #[.slice A (xs.length + 1) c] w (DecEnd B w 114 116 [(114, 0)] xs) := by
  have hr1 : RR (lit byteV) (fun b => B ≤ b ∧ b ≠ w.heap.size) (w.alloc (.cells #[.slice none 0 0] 116)) A (81 :: xs) := RR.move hr (lit_steady _) (fun b hb ho => ⟨⟨ho, by omega⟩, Below.heap_alloc _ _ _ hb⟩)
  have HU := Lib.hid (unmarshal_walk (fun b => B ≤ b ∧ b ≠ w.heap.size) A c 81 xs (w.alloc (.cells #[.slice none 0 0] 116)) 114 97 w.heap.size 116 #[.slice none 0 0] [(114, 0)] hl (by decide) hc hm (fun b hb => hb.2) (fun b hb => by simp at hb; omega) hr1 (by decide) (Blk.new _ _ _) (by simp [Laid, letter, widthC]) (fun W => by kernel_rfl) (fun W => by kernel_rfl) (fun W => fields_81 W _))
  obtain ⟨ad, rfl, hado, hcc⟩ := RB.at hr (by simp)
  have hcx : w.cell? ad = some (.int .u8 81) := hcc 0 81 rfl
  have HC := Lib.hid hc
  clear hr hr1 hcc hc
  go_enter Try.func32, Try.ntmps32
  go_wp2_with (go_at_call 35; refine HU.out.mono ?_; intro e w2 hue; rcases dec_of_unm hue rfl ((Below.refl _ w).alloc (Nat.le_refl _) _) with ⟨rfl, hd⟩ | ⟨T, v, rfl, hd⟩)
  all_goals
    go_ret2
    exact hd _
theorem zz_81 (B : Nat) (A : Option Addr) (c : Nat) (xs : List UInt8) (w : World) (hl : xs.length ≤ 1000000) (hc : xs.length + 1 ≤ c) (hm : c ≤ 9223372036854775807) (hB : B ≤ w.heap.size) (hr : RR (lit byteV) (fun b => B ≤ b) w A (81 :: xs)) :
    Calls Try.prog 26 #[.slice A (xs.length + 1) c] w (ZzEnd B w [(114, 0)] xs) :=
  zz_walk B A c xs w 114 97 81 116 [(114, 0)] (decode_81 B A c xs w hl hc hm hB hr) (fun gp W => by kernel_rfl) (fun gp W => by kernel_rfl) (fun gp W => fields_81 W gp)
set_option maxRecDepth 20000 in
set_option maxHeartbeats 1000000 in
theorem decode_82 (B : Nat) (A : Option Addr) (c : Nat) (xs : List UInt8) (w : World) (hl : xs.length ≤ 1000000) (hc : xs.length + 1 ≤ c) (hm : c ≤ 9223372036854775807) (hB : B ≤ w.heap.size) (hr : RR (lit byteV) (fun b => B ≤ b) w A (82 :: xs)) :
    Calls Try.prog 32 #[.slice A (xs.length + 1) c] w (DecEnd B w 117 119 [(114, 0)] xs) := by
  have hr1 : RR (lit byteV) (fun b => B ≤ b ∧ b ≠ w.heap.size) (w.alloc (.cells #[.slice none 0 0] 119)) A (82 :: xs) := RR.move hr (lit_steady _) (fun b hb ho => ⟨⟨ho, by omega⟩, Below.heap_alloc _ _ _ hb⟩)
  have HU := Lib.hid (unmarshal_walk (fun b => B ≤ b ∧ b ≠ w.heap.size) A c 82 xs (w.alloc (.cells #[.slice none 0 0] 119)) 117 98 w.heap.size 119 #[.slice none 0 0] [(114, 0)] hl (by decide) hc hm (fun b hb => hb.2) (fun b hb => by simp at hb; omega) hr1 (by decide) (Blk.new _ _ _) (by simp [Laid, letter, widthC]) (fun W => by kernel_rfl) (fun W => by kernel_rfl) (fun W => fields_82 W _))
  obtain ⟨ad, rfl, hado, hcc⟩ := RB.at hr (by simp)
  have hcx : w.cell? ad = some (.int .u8 82) := hcc 0 82 rfl
  have HC := Lib.hid hc
  clear hr hr1 hcc hc
  go_enter Try.func32, Try.ntmps32
  go_wp2_with (go_at_call 35; refine HU.out.mono ?_; intro e w2 hue; rcases dec_of_unm hue rfl ((Below.refl _ w).alloc (Nat.le_refl _) _) with ⟨rfl, hd⟩ | ⟨T, v, rfl, hd⟩)
  all_goals
    go_ret2
    exact hd _
theorem zz_82 (B : Nat) (A : Option Addr) (c : Nat) (xs : List UInt8) (w : World) (hl : xs.length ≤ 1000000) (hc : xs.length + 1 ≤ c) (hm : c ≤ 9223372036854775807) (hB : B ≤ w.heap.size) (hr : RR (lit byteV) (fun b => B ≤ b) w A (82 :: xs)) :
    Calls Try.prog 26 #[.slice A (xs.length + 1) c] w (ZzEnd B w [(114, 0)] xs) :=
  zz_walk B A c xs w 117 98 82 119 [(114, 0)] (decode_82 B A c xs w hl hc hm hB hr) (fun gp W => by kernel_rfl) (fun gp W => by kernel_rfl) (fun gp W => fields_82 W gp)
set_option maxRecDepth 20000 in
set_option maxHeartbeats 1000000 in
theorem decode_90 (B : Nat) (A : Option Addr) (c : Nat) (xs : List UInt8) (w : World) (hl : xs.length ≤ 1000000) (hc : xs.length + 1 ≤ c) (hm : c ≤ 9223372036854775807) (hB : B ≤ w.heap.size) (hr : RR (lit byteV) (fun b => B ≤ b) w A (90 :: xs)) :
    Calls Try.prog 32 #[.slice A (xs.length + 1) c] w (DecEnd B w 120 122 [(115, 0), (110, 1), (110, 2), (110, 3), (114, 4)] xs) := by
  have hr1 : RR (lit byteV) (fun b => B ≤ b ∧ b ≠ w.heap.size) (w.alloc (.cells #[.string ⟨#[]⟩, .int .u32 0, .int .u32 0, .int .u32 0, .slice none 0 0] 122)) A (90 :: xs) := RR.move hr (lit_steady _) (fun b hb ho => ⟨⟨ho, by omega⟩, Below.heap_alloc _ _ _ hb⟩)
  have HU := Lib.hid (unmarshal_walk (fun b => B ≤ b ∧ b ≠ w.heap.size) A c 90 xs (w.alloc (.cells #[.string ⟨#[]⟩, .int .u32 0, .int .u32 0, .int .u32 0, .slice none 0 0] 122)) 120 99 w.heap.size 122 #[.string ⟨#[]⟩, .int .u32 0, .int .u32 0, .int .u32 0, .slice none 0 0] [(115, 0), (110, 1), (110, 2), (110, 3), (114, 4)] hl (by decide) hc hm (fun b hb => hb.2) (fun b hb => by simp at hb; omega) hr1 (by decide) (Blk.new _ _ _) (by simp [Laid, letter, widthC]) (fun W => by kernel_rfl) (fun W => by kernel_rfl) (fun W => fields_90 W _))
  obtain ⟨ad, rfl, hado, hcc⟩ := RB.at hr (by simp)
  have hcx : w.cell? ad = some (.int .u8 90) := hcc 0 90 rfl
  have HC := Lib.hid hc
  clear hr hr1 hcc hc
  go_enter Try.func32, Try.ntmps32
  go_wp2_with (go_at_call 35; refine HU.out.mono ?_; intro e w2 hue; rcases dec_of_unm hue rfl ((Below.refl _ w).alloc (Nat.le_refl _) _) with ⟨rfl, hd⟩ | ⟨T, v, rfl, hd⟩)
  all_goals
    go_ret2
    exact hd _
theorem zz_90 (B : Nat) (A : Option Addr) (c : Nat) (xs : List UInt8) (w : World) (hl : xs.length ≤ 1000000) (hc : xs.length + 1 ≤ c) (hm : c ≤ 9223372036854775807) (hB : B ≤ w.heap.size) (hr : RR (lit byteV) (fun b => B ≤ b) w A (90 :: xs)) :
    Calls Try.prog 26 #[.slice A (xs.length + 1) c] w (ZzEnd B w [(115, 0), (110, 1), (110, 2), (110, 3), (114, 4)] xs) :=
  zz_walk B A c xs w 120 99 90 122 [(115, 0), (110, 1), (110, 2), (110, 3), (114, 4)] (decode_90 B A c xs w hl hc hm hB hr) (fun gp W => by kernel_rfl) (fun gp W => by kernel_rfl) (fun gp W => fields_90 W gp)
set_option maxRecDepth 20000 in
set_option maxHeartbeats 1000000 in
theorem decode_91 (B : Nat) (A : Option Addr) (c : Nat) (xs : List UInt8) (w : World) (hl : xs.length ≤ 1000000) (hc : xs.length + 1 ≤ c) (hm : c ≤ 9223372036854775807) (hB : B ≤ w.heap.size) (hr : RR (lit byteV) (fun b => B ≤ b) w A (91 :: xs)) :
    Calls Try.prog 32 #[.slice A (xs.length + 1) c] w (DecEnd B w 123 125 [(110, 0), (110, 1), (110, 2), (110, 3), (114, 4)] xs) := by
  have hr1 : RR (lit byteV) (fun b => B ≤ b ∧ b ≠ w.heap.size) (w.alloc (.cells #[.int .u32 0, .int .u32 0, .int .u32 0, .int .u32 0, .slice none 0 0] 125)) A (91 :: xs) := RR.move hr (lit_steady _) (fun b hb ho => ⟨⟨ho, by omega⟩, Below.heap_alloc _ _ _ hb⟩)
  have HU := Lib.hid (unmarshal_walk (fun b => B ≤ b ∧ b ≠ w.heap.size) A c 91 xs (w.alloc (.cells #[.int .u32 0, .int .u32 0, .int .u32 0, .int .u32 0, .slice none 0 0] 125)) 123 100 w.heap.size 125 #[.int .u32 0, .int .u32 0, .int .u32 0, .int .u32 0, .slice none 0 0] [(110, 0), (110, 1), (110, 2), (110, 3), (114, 4)] hl (by decide) hc hm (fun b hb => hb.2) (fun b hb => by simp at hb; omega) hr1 (by decide) (Blk.new _ _ _) (by simp [Laid, letter, widthC]) (fun W => by kernel_rfl) (fun W => by kernel_rfl) (fun W => fields_91 W _))
  obtain ⟨ad, rfl, hado, hcc⟩ := RB.at hr (by simp)
  have hcx : w.cell? ad = some (.int .u8 91) := hcc 0 91 rfl
  have HC := Lib.hid hc
  clear hr hr1 hcc hc
  go_enter Try.func32, Try.ntmps32
  go_wp2_with (go_at_call 35; refine HU.out.mono ?_; intro e w2 hue; rcases dec_of_unm hue rfl ((Below.refl _ w).alloc (Nat.le_refl _) _) with ⟨rfl, hd⟩ | ⟨T, v, rfl, hd⟩)
  all_goals
    go_ret2
    exact hd _
theorem zz_91 (B : Nat) (A : Option Addr) (c : Nat) (xs : List UInt8) (w : World) (hl : xs.length ≤ 1000000) (hc : xs.length + 1 ≤ c) (hm : c ≤ 9223372036854775807) (hB : B ≤ w.heap.size) (hr : RR (lit byteV) (fun b => B ≤ b) w A (91 :: xs)) :
    Calls Try.prog 26 #[.slice A (xs.length + 1) c] w (ZzEnd B w [(110, 0), (110, 1), (110, 2), (110, 3), (114, 4)] xs) :=
  zz_walk B A c xs w 123 100 91 125 [(110, 0), (110, 1), (110, 2), (110, 3), (114, 4)] (decode_91 B A c xs w hl hc hm hB hr) (fun gp W => by kernel_rfl) (fun gp W => by kernel_rfl) (fun gp W => fields_91 W gp)
set_option maxRecDepth 20000 in
set_option maxHeartbeats 1000000 in
theorem decode_92 (B : Nat) (A : Option Addr) (c : Nat) (xs : List UInt8) (w : World) (hl : xs.length ≤ 1000000) (hc : xs.length + 1 ≤ c) (hm : c ≤ 9223372036854775807) (hB : B ≤ w.heap.size) (hr : RR (lit byteV) (fun b => B ≤ b) w A (92 :: xs)) :
    Calls Try.prog 32 #[.slice A (xs.length + 1) c] w (DecEnd B w 126 129 [(110, 0), (110, 1), (115, 2), (115, 3)] xs) := by
  have hr1 : RR (lit byteV) (fun b => B ≤ b ∧ b ≠ w.heap.size) (w.alloc (.cells #[.int .u32 0, .int .u32 0, .string ⟨#[]⟩, .string ⟨#[]⟩] 129)) A (92 :: xs) := RR.move hr (lit_steady _) (fun b hb ho => ⟨⟨ho, by omega⟩, Below.heap_alloc _ _ _ hb⟩)
  have HU := Lib.hid (unmarshal_walk (fun b => B ≤ b ∧ b ≠ w.heap.size) A c 92 xs (w.alloc (.cells #[.int .u32 0, .int .u32 0, .string ⟨#[]⟩, .string ⟨#[]⟩] 129)) 126 101 w.heap.size 129 #[.int .u32 0, .int .u32 0, .string ⟨#[]⟩, .string ⟨#[]⟩] [(110, 0), (110, 1), (115, 2), (115, 3)] hl (by decide) hc hm (fun b hb => hb.2) (fun b hb => by simp at hb; omega) hr1 (by decide) (Blk.new _ _ _) (by simp [Laid, letter, widthC]) (fun W => by kernel_rfl) (fun W => by kernel_rfl) (fun W => fields_92 W _))
  obtain ⟨ad, rfl, hado, hcc⟩ := RB.at hr (by simp)
  have hcx : w.cell? ad = some (.int .u8 92) := hcc 0 92 rfl
  have HC := Lib.hid hc
  clear hr hr1 hcc hc
  go_enter Try.func32, Try.ntmps32
  go_wp2_with (go_at_call 35; refine HU.out.mono ?_; intro e w2 hue; rcases dec_of_unm hue rfl ((Below.refl _ w).alloc (Nat.le_refl _) _) with ⟨rfl, hd⟩ | ⟨T, v, rfl, hd⟩)
  all_goals
    go_ret2
    exact hd _
theorem zz_92 (B : Nat) (A : Option Addr) (c : Nat) (xs : List UInt8) (w : World) (hl : xs.length ≤ 1000000) (hc : xs.length + 1 ≤ c) (hm : c ≤ 9223372036854775807) (hB : B ≤ w.heap.size) (hr : RR (lit byteV) (fun b => B ≤ b) w A (92 :: xs)) :
    Calls Try.prog 26 #[.slice A (xs.length + 1) c] w (ZzEnd B w [(110, 0), (110, 1), (115, 2), (115, 3)] xs) :=
  zz_walk B A c xs w 126 101 92 129 [(110, 0), (110, 1), (115, 2), (115, 3)] (decode_92 B A c xs w hl hc hm hB hr) (fun gp W => by kernel_rfl) (fun gp W => by kernel_rfl) (fun gp W => fields_92 W gp)
set_option maxRecDepth 20000 in
set_option maxHeartbeats 1000000 in
theorem decode_93 (B : Nat) (A : Option Addr) (c : Nat) (xs : List UInt8) (w : World) (hl : xs.length ≤ 1000000) (hc : xs.length + 1 ≤ c) (hm : c ≤ 9223372036854775807) (hB : B ≤ w.heap.size) (hr : RR (lit byteV) (fun b => B ≤ b) w A (93 :: xs)) :
    Calls Try.prog 32 #[.slice A (xs.length + 1) c] w (DecEnd B w 130 132 [(110, 0), (110, 1)] xs) := by
  have hr1 : RR (lit byteV) (fun b => B ≤ b ∧ b ≠ w.heap.size) (w.alloc (.cells #[.int .u32 0, .int .u32 0] 132)) A (93 :: xs) := RR.move hr (lit_steady _) (fun b hb ho => ⟨⟨ho, by omega⟩, Below.heap_alloc _ _ _ hb⟩)
  have HU := Lib.hid (unmarshal_walk (fun b => B ≤ b ∧ b ≠ w.heap.size) A c 93 xs (w.alloc (.cells #[.int .u32 0, .int .u32 0] 132)) 130 102 w.heap.size 132 #[.int .u32 0, .int .u32 0] [(110, 0), (110, 1)] hl (by decide) hc hm (fun b hb => hb.2) (fun b hb => by simp at hb; omega) hr1 (by decide) (Blk.new _ _ _) (by simp [Laid, letter, widthC]) (fun W => by kernel_rfl) (fun W => by kernel_rfl) (fun W => fields_93 W _))
  obtain ⟨ad, rfl, hado, hcc⟩ := RB.at hr (by simp)
  have hcx : w.cell? ad = some (.int .u8 93) := hcc 0 93 rfl
  have HC := Lib.hid hc
  clear hr hr1 hcc hc
  go_enter Try.func32, Try.ntmps32
  go_wp2_with (go_at_call 35; refine HU.out.mono ?_; intro e w2 hue; rcases dec_of_unm hue rfl ((Below.refl _ w).alloc (Nat.le_refl _) _) with ⟨rfl, hd⟩ | ⟨T, v, rfl, hd⟩)
  all_goals
    go_ret2
    exact hd _
theorem zz_93 (B : Nat) (A : Option Addr) (c : Nat) (xs : List UInt8) (w : World) (hl : xs.length ≤ 1000000) (hc : xs.length + 1 ≤ c) (hm : c ≤ 9223372036854775807) (hB : B ≤ w.heap.size) (hr : RR (lit byteV) (fun b => B ≤ b) w A (93 :: xs)) :
    Calls Try.prog 26 #[.slice A (xs.length + 1) c] w (ZzEnd B w [(110, 0), (110, 1)] xs) :=
  zz_walk B A c xs w 130 102 93 132 [(110, 0), (110, 1)] (decode_93 B A c xs w hl hc hm hB hr) (fun gp W => by kernel_rfl) (fun gp W => by kernel_rfl) (fun gp W => fields_93 W gp)
set_option maxRecDepth 20000 in
set_option maxHeartbeats 1000000 in
theorem decode_96 (B : Nat) (A : Option Addr) (c : Nat) (xs : List UInt8) (w : World) (hl : xs.length ≤ 1000000) (hc : xs.length + 1 ≤ c) (hm : c ≤ 9223372036854775807) (hB : B ≤ w.heap.size) (hr : RR (lit byteV) (fun b => B ≤ b) w A (96 :: xs)) :
    Calls Try.prog 32 #[.slice A (xs.length + 1) c] w (DecEnd B w 136 138 [(110, 0)] xs) := by
  have hr1 : RR (lit byteV) (fun b => B ≤ b ∧ b ≠ w.heap.size) (w.alloc (.cells #[.int .u32 0] 138)) A (96 :: xs) := RR.move hr (lit_steady _) (fun b hb ho => ⟨⟨ho, by omega⟩, Below.heap_alloc _ _ _ hb⟩)
  have HU := Lib.hid (unmarshal_walk (fun b => B ≤ b ∧ b ≠ w.heap.size) A c 96 xs (w.alloc (.cells #[.int .u32 0] 138)) 136 104 w.heap.size 138 #[.int .u32 0] [(110, 0)] hl (by decide) hc hm (fun b hb => hb.2) (fun b hb => by simp at hb; omega) hr1 (by decide) (Blk.new _ _ _) (by simp [Laid, letter, widthC]) (fun W => by kernel_rfl) (fun W => by kernel_rfl) (fun W => fields_96 W _))
  obtain ⟨ad, rfl, hado, hcc⟩ := RB.at hr (by simp)
  have hcx : w.cell? ad = some (.int .u8 96) := hcc 0 96 rfl
  have HC := Lib.hid hc
  clear hr hr1 hcc hc
  go_enter Try.func32, Try.ntmps32
  go_wp2_with (go_at_call 35; refine HU.out.mono ?_; intro e w2 hue; rcases dec_of_unm hue rfl ((Below.refl _ w).alloc (Nat.le_refl _) _) with ⟨rfl, hd⟩ | ⟨T, v, rfl, hd⟩)
  all_goals
    go_ret2
    exact hd _
theorem zz_96 (B : Nat) (A : Option Addr) (c : Nat) (xs : List UInt8) (w : World) (hl : xs.length ≤ 1000000) (hc : xs.length + 1 ≤ c) (hm : c ≤ 9223372036854775807) (hB : B ≤ w.heap.size) (hr : RR (lit byteV) (fun b => B ≤ b) w A (96 :: xs)) :
    Calls Try.prog 26 #[.slice A (xs.length + 1) c] w (ZzEnd B w [(110, 0)] xs) :=
  zz_walk B A c xs w 136 104 96 138 [(110, 0)] (decode_96 B A c xs w hl hc hm hB hr) (fun gp W => by kernel_rfl) (fun gp W => by kernel_rfl) (fun gp W => fields_96 W gp)
set_option maxRecDepth 20000 in
set_option maxHeartbeats 1000000 in
theorem decode_97 (B : Nat) (A : Option Addr) (c : Nat) (xs : List UInt8) (w : World) (hl : xs.length ≤ 1000000) (hc : xs.length + 1 ≤ c) (hm : c ≤ 9223372036854775807) (hB : B ≤ w.heap.size) (hr : RR (lit byteV) (fun b => B ≤ b) w A (97 :: xs)) :
    Calls Try.prog 32 #[.slice A (xs.length + 1) c] w (DecEnd B w 139 141 [(110, 0)] xs) := by
  have hr1 : RR (lit byteV) (fun b => B ≤ b ∧ b ≠ w.heap.size) (w.alloc (.cells #[.int .u32 0] 141)) A (97 :: xs) := RR.move hr (lit_steady _) (fun b hb ho => ⟨⟨ho, by omega⟩, Below.heap_alloc _ _ _ hb⟩)
  have HU := Lib.hid (unmarshal_walk (fun b => B ≤ b ∧ b ≠ w.heap.size) A c 97 xs (w.alloc (.cells #[.int .u32 0] 141)) 139 105 w.heap.size 141 #[.int .u32 0] [(110, 0)] hl (by decide) hc hm (fun b hb => hb.2) (fun b hb => by simp at hb; omega) hr1 (by decide) (Blk.new _ _ _) (by simp [Laid, letter, widthC]) (fun W => by kernel_rfl) (fun W => by kernel_rfl) (fun W => fields_97 W _))
  obtain ⟨ad, rfl, hado, hcc⟩ := RB.at hr (by simp)
  have hcx : w.cell? ad = some (.int .u8 97) := hcc 0 97 rfl
  have HC := Lib.hid hc
  clear hr hr1 hcc hc
  go_enter Try.func32, Try.ntmps32
  go_wp2_with (go_at_call 35; refine HU.out.mono ?_; intro e w2 hue; rcases dec_of_unm hue rfl ((Below.refl _ w).alloc (Nat.le_refl _) _) with ⟨rfl, hd⟩ | ⟨T, v, rfl, hd⟩)
  all_goals
    go_ret2
    exact hd _
theorem zz_97 (B : Nat) (A : Option Addr) (c : Nat) (xs : List UInt8) (w : World) (hl : xs.length ≤ 1000000) (hc : xs.length + 1 ≤ c) (hm : c ≤ 9223372036854775807) (hB : B ≤ w.heap.size) (hr : RR (lit byteV) (fun b => B ≤ b) w A (97 :: xs)) :
    Calls Try.prog 26 #[.slice A (xs.length + 1) c] w (ZzEnd B w [(110, 0)] xs) :=
  zz_walk B A c xs w 139 105 97 141 [(110, 0)] (decode_97 B A c xs w hl hc hm hB hr) (fun gp W => by kernel_rfl) (fun gp W => by kernel_rfl) (fun gp W => fields_97 W gp)
set_option maxRecDepth 20000 in
set_option maxHeartbeats 1000000 in
theorem decode_98 (B : Nat) (A : Option Addr) (c : Nat) (xs : List UInt8) (w : World) (hl : xs.length ≤ 1000000) (hc : xs.length + 1 ≤ c) (hm : c ≤ 9223372036854775807) (hB : B ≤ w.heap.size) (hr : RR (lit byteV) (fun b => B ≤ b) w A (98 :: xs)) :
    Calls Try.prog 32 #[.slice A (xs.length + 1) c] w (DecEnd B w 142 144 [(110, 0), (115, 1), (116, 2), (114, 3)] xs) := by
  have hr1 : RR (lit byteV) (fun b => B ≤ b ∧ b ≠ w.heap.size) (w.alloc (.cells #[.int .u32 0, .string ⟨#[]⟩, .bool false, .slice none 0 0] 144)) A (98 :: xs) := RR.move hr (lit_steady _) (fun b hb ho => ⟨⟨ho, by omega⟩, Below.heap_alloc _ _ _ hb⟩)
  have HU := Lib.hid (unmarshal_walk (fun b => B ≤ b ∧ b ≠ w.heap.size) A c 98 xs (w.alloc (.cells #[.int .u32 0, .string ⟨#[]⟩, .bool false, .slice none 0 0] 144)) 142 106 w.heap.size 144 #[.int .u32 0, .string ⟨#[]⟩, .bool false, .slice none 0 0] [(110, 0), (115, 1), (116, 2), (114, 3)] hl (by decide) hc hm (fun b hb => hb.2) (fun b hb => by simp at hb; omega) hr1 (by decide) (Blk.new _ _ _) (by simp [Laid, letter, widthC]) (fun W => by kernel_rfl) (fun W => by kernel_rfl) (fun W => fields_98 W _))
  obtain ⟨ad, rfl, hado, hcc⟩ := RB.at hr (by simp)
  have hcx : w.cell? ad = some (.int .u8 98) := hcc 0 98 rfl
  have HC := Lib.hid hc
  clear hr hr1 hcc hc
  go_enter Try.func32, Try.ntmps32
  go_wp2_with (go_at_call 35; refine HU.out.mono ?_; intro e w2 hue; rcases dec_of_unm hue rfl ((Below.refl _ w).alloc (Nat.le_refl _) _) with ⟨rfl, hd⟩ | ⟨T, v, rfl, hd⟩)
  all_goals
    go_ret2
    exact hd _
theorem zz_98 (B : Nat) (A : Option Addr) (c : Nat) (xs : List UInt8) (w : World) (hl : xs.length ≤ 1000000) (hc : xs.length + 1 ≤ c) (hm : c ≤ 9223372036854775807) (hB : B ≤ w.heap.size) (hr : RR (lit byteV) (fun b => B ≤ b) w A (98 :: xs)) :
    Calls Try.prog 26 #[.slice A (xs.length + 1) c] w (ZzEnd B w [(110, 0), (115, 1), (116, 2), (114, 3)] xs) :=
  zz_walk B A c xs w 142 106 98 144 [(110, 0), (115, 1), (116, 2), (114, 3)] (decode_98 B A c xs w hl hc hm hB hr) (fun gp W => by kernel_rfl) (fun gp W => by kernel_rfl) (fun gp W => fields_98 W gp)
set_option maxRecDepth 20000 in
set_option maxHeartbeats 1000000 in
theorem decode_99 (B : Nat) (A : Option Addr) (c : Nat) (xs : List UInt8) (w : World) (hl : xs.length ≤ 1000000) (hc : xs.length + 1 ≤ c) (hm : c ≤ 9223372036854775807) (hB : B ≤ w.heap.size) (hr : RR (lit byteV) (fun b => B ≤ b) w A (99 :: xs)) :
    Calls Try.prog 32 #[.slice A (xs.length + 1) c] w (DecEnd B w 145 147 [(110, 0)] xs) := by
  have hr1 : RR (lit byteV) (fun b => B ≤ b ∧ b ≠ w.heap.size) (w.alloc (.cells #[.int .u32 0] 147)) A (99 :: xs) := RR.move hr (lit_steady _) (fun b hb ho => ⟨⟨ho, by omega⟩, Below.heap_alloc _ _ _ hb⟩)
  have HU := Lib.hid (unmarshal_walk (fun b => B ≤ b ∧ b ≠ w.heap.size) A c 99 xs (w.alloc (.cells #[.int .u32 0] 147)) 145 107 w.heap.size 147 #[.int .u32 0] [(110, 0)] hl (by decide) hc hm (fun b hb => hb.2) (fun b hb => by simp at hb; omega) hr1 (by decide) (Blk.new _ _ _) (by simp [Laid, letter, widthC]) (fun W => by kernel_rfl) (fun W => by kernel_rfl) (fun W => fields_99 W _))
  obtain ⟨ad, rfl, hado, hcc⟩ := RB.at hr (by simp)
  have hcx : w.cell? ad = some (.int .u8 99) := hcc 0 99 rfl
  have HC := Lib.hid hc
  clear hr hr1 hcc hc
  go_enter Try.func32, Try.ntmps32
  go_wp2_with (go_at_call 35; refine HU.out.mono ?_; intro e w2 hue; rcases dec_of_unm hue rfl ((Below.refl _ w).alloc (Nat.le_refl _) _) with ⟨rfl, hd⟩ | ⟨T, v, rfl, hd⟩)
  all_goals
    go_ret2
    exact hd _
theorem zz_99 (B : Nat) (A : Option Addr) (c : Nat) (xs : List UInt8) (w : World) (hl : xs.length ≤ 1000000) (hc : xs.length + 1 ≤ c) (hm : c ≤ 9223372036854775807) (hB : B ≤ w.heap.size) (hr : RR (lit byteV) (fun b => B ≤ b) w A (99 :: xs)) :
    Calls Try.prog 26 #[.slice A (xs.length + 1) c] w (ZzEnd B w [(110, 0)] xs) :=
  zz_walk B A c xs w 145 107 99 147 [(110, 0)] (decode_99 B A c xs w hl hc hm hB hr) (fun gp W => by kernel_rfl) (fun gp W => by kernel_rfl) (fun gp W => fields_99 W gp)
set_option maxRecDepth 20000 in
set_option maxHeartbeats 1000000 in
theorem decode_100 (B : Nat) (A : Option Addr) (c : Nat) (xs : List UInt8) (w : World) (hl : xs.length ≤ 1000000) (hc : xs.length + 1 ≤ c) (hm : c ≤ 9223372036854775807) (hB : B ≤ w.heap.size) (hr : RR (lit byteV) (fun b => B ≤ b) w A (100 :: xs)) :
    Calls Try.prog 32 #[.slice A (xs.length + 1) c] w (DecEnd B w 148 150 [(110, 0)] xs) := by
  have hr1 : RR (lit byteV) (fun b => B ≤ b ∧ b ≠ w.heap.size) (w.alloc (.cells #[.int .u32 0] 150)) A (100 :: xs) := RR.move hr (lit_steady _) (fun b hb ho => ⟨⟨ho, by omega⟩, Below.heap_alloc _ _ _ hb⟩)
  have HU := Lib.hid (unmarshal_walk (fun b => B ≤ b ∧ b ≠ w.heap.size) A c 100 xs (w.alloc (.cells #[.int .u32 0] 150)) 148 108 w.heap.size 150 #[.int .u32 0] [(110, 0)] hl (by decide) hc hm (fun b hb => hb.2) (fun b hb => by simp at hb; omega) hr1 (by decide) (Blk.new _ _ _) (by simp [Laid, letter, widthC]) (fun W => by kernel_rfl) (fun W => by kernel_rfl) (fun W => fields_100 W _))
  obtain ⟨ad, rfl, hado, hcc⟩ := RB.at hr (by simp)
  have hcx : w.cell? ad = some (.int .u8 100) := hcc 0 100 rfl
  have HC := Lib.hid hc
  clear hr hr1 hcc hc
  go_enter Try.func32, Try.ntmps32
  go_wp2_with (go_at_call 35; refine HU.out.mono ?_; intro e w2 hue; rcases dec_of_unm hue rfl ((Below.refl _ w).alloc (Nat.le_refl _) _) with ⟨rfl, hd⟩ | ⟨T, v, rfl, hd⟩)
  all_goals
    go_ret2
    exact hd _
theorem zz_100 (B : Nat) (A : Option Addr) (c : Nat) (xs : List UInt8) (w : World) (hl : xs.length ≤ 1000000) (hc : xs.length + 1 ≤ c) (hm : c ≤ 9223372036854775807) (hB : B ≤ w.heap.size) (hr : RR (lit byteV) (fun b => B ≤ b) w A (100 :: xs)) :
    Calls Try.prog 26 #[.slice A (xs.length + 1) c] w (ZzEnd B w [(110, 0)] xs) :=
  zz_walk B A c xs w 148 108 100 150 [(110, 0)] (decode_100 B A c xs w hl hc hm hB hr) (fun gp W => by kernel_rfl) (fun gp W => by kernel_rfl) (fun gp W => fields_100 W gp)

end Go.Proofs.Ytnlkgaobbobakaa
