/- ssh.decode and ssh.ZzDecode for the message of the exchange of keys. Printed by gen_dec.py. -/
import Derived.Test.YtnlkgaobbobakaaDec
import Derived.Test.YtnlkgaobbobakaaFieldsK
set_option linter.unusedVariables false
set_option linter.unusedSimpArgs false
namespace Go.Proofs.Ytnlkgaobbobakaa
open Go.RowKit

set_option maxRecDepth 20000 in
set_option maxHeartbeats 1000000 in
theorem decode_20 (B : Nat) (A : Option Addr) (c : Nat) (xs : List UInt8) (w : World) (hl : xs.length ≤ 1000000) (hc : xs.length + 1 ≤ c) (hm : c ≤ 9223372036854775807) (hB : B ≤ w.heap.size) (hr : RR (lit byteV) (fun b => B ≤ b) w A (20 :: xs)) :
    Calls Try.prog 32 #[.slice A (xs.length + 1) c] w (DecEnd B w 95 98 [(99, 0), (108, 16), (108, 17), (108, 18), (108, 19), (108, 20), (108, 21), (108, 22), (108, 23), (108, 24), (108, 25), (116, 26), (110, 27)] xs) := by
  have hr1 : RR (lit byteV) (fun b => B ≤ b ∧ b ≠ w.heap.size) (w.alloc (.cells #[.int .u8 0, .int .u8 0, .int .u8 0, .int .u8 0, .int .u8 0, .int .u8 0, .int .u8 0, .int .u8 0, .int .u8 0, .int .u8 0, .int .u8 0, .int .u8 0, .int .u8 0, .int .u8 0, .int .u8 0, .int .u8 0, .slice none 0 0, .slice none 0 0, .slice none 0 0, .slice none 0 0, .slice none 0 0, .slice none 0 0, .slice none 0 0, .slice none 0 0, .slice none 0 0, .slice none 0 0, .bool false, .int .u32 0] 98)) A (20 :: xs) := RR.move hr (lit_steady _) (fun b hb ho => ⟨⟨ho, by omega⟩, Below.heap_alloc _ _ _ hb⟩)
  have HU := Lib.hid (unmarshal_walk (fun b => B ≤ b ∧ b ≠ w.heap.size) A c 20 xs (w.alloc (.cells #[.int .u8 0, .int .u8 0, .int .u8 0, .int .u8 0, .int .u8 0, .int .u8 0, .int .u8 0, .int .u8 0, .int .u8 0, .int .u8 0, .int .u8 0, .int .u8 0, .int .u8 0, .int .u8 0, .int .u8 0, .int .u8 0, .slice none 0 0, .slice none 0 0, .slice none 0 0, .slice none 0 0, .slice none 0 0, .slice none 0 0, .slice none 0 0, .slice none 0 0, .slice none 0 0, .slice none 0 0, .bool false, .int .u32 0] 98)) 95 91 w.heap.size 98 #[.int .u8 0, .int .u8 0, .int .u8 0, .int .u8 0, .int .u8 0, .int .u8 0, .int .u8 0, .int .u8 0, .int .u8 0, .int .u8 0, .int .u8 0, .int .u8 0, .int .u8 0, .int .u8 0, .int .u8 0, .int .u8 0, .slice none 0 0, .slice none 0 0, .slice none 0 0, .slice none 0 0, .slice none 0 0, .slice none 0 0, .slice none 0 0, .slice none 0 0, .slice none 0 0, .slice none 0 0, .bool false, .int .u32 0] [(99, 0), (108, 16), (108, 17), (108, 18), (108, 19), (108, 20), (108, 21), (108, 22), (108, 23), (108, 24), (108, 25), (116, 26), (110, 27)] hl (by decide) hc hm (fun b hb => hb.2) (fun b hb => by simp at hb; omega) hr1 (by decide) (Blk.new _ _ _) (by simp [Laid, letter, widthC]) (fun W => by kernel_rfl) (fun W => by kernel_rfl) (fun W => fields_20 W _))
  obtain ⟨ad, rfl, hado, hcc⟩ := RB.at hr (by simp)
  have hcx : w.cell? ad = some (.int .u8 20) := hcc 0 20 rfl
  have HC := Lib.hid hc
  clear hr hr1 hcc hc
  go_enter Try.func32, Try.ntmps32
  go_wp2_with (go_at_call 35; refine HU.out.mono ?_; intro e w2 hue; rcases dec_of_unm hue rfl ((Below.refl _ w).alloc (Nat.le_refl _) _) with ⟨rfl, hd⟩ | ⟨T, v, rfl, hd⟩)
  all_goals
    go_ret2
    exact hd _
theorem zz_20 (B : Nat) (A : Option Addr) (c : Nat) (xs : List UInt8) (w : World) (hl : xs.length ≤ 1000000) (hc : xs.length + 1 ≤ c) (hm : c ≤ 9223372036854775807) (hB : B ≤ w.heap.size) (hr : RR (lit byteV) (fun b => B ≤ b) w A (20 :: xs)) :
    Calls Try.prog 26 #[.slice A (xs.length + 1) c] w (ZzEnd B w [(99, 0), (108, 16), (108, 17), (108, 18), (108, 19), (108, 20), (108, 21), (108, 22), (108, 23), (108, 24), (108, 25), (116, 26), (110, 27)] xs) :=
  zz_walk B A c xs w 95 91 20 98 [(99, 0), (108, 16), (108, 17), (108, 18), (108, 19), (108, 20), (108, 21), (108, 22), (108, 23), (108, 24), (108, 25), (116, 26), (110, 27)] (decode_20 B A c xs w hl hc hm hB hr) (fun gp W => by kernel_rfl) (fun gp W => by kernel_rfl) (fun gp W => fields_20 W gp)

end Go.Proofs.Ytnlkgaobbobakaa
