/- Big numbers as plain data: digits of 32 bits, and bytes. -/
import Derived.Test.YtoeepfmmceilaaaGreatDoorLnMul
import Derived.Test.YtoeepfmmceilaaaGreatDoorLnPAuth
import Derived.Test.YtoeepfmmceilaaaGreatDoorLnUnm
set_option linter.unusedVariables false
set_option linter.unusedSimpArgs false
namespace Go.Proofs.YtoeepfmmceilaaaGreatDoor
open Go.RowKit

/-- Without noughts at the end. -/
def trimD : List Nat → List Nat
  | [] => []
  | d :: r => if trimD r = [] then (if d = 0 then [] else [d]) else d :: trimD r
theorem trimD_zero (l : List Nat) : trimD (l ++ [0]) = trimD l := by
  induction l with
  | nil => rfl
  | cons d r ih =>
    show (if trimD (r ++ [0]) = [] then (if d = 0 then [] else [d]) else d :: trimD (r ++ [0])) = _
    rw [ih]
    rfl
theorem trimD_sign (l : List Nat) (x : Nat) (hx : x ≠ 0) : trimD (l ++ [x]) = l ++ [x] := by
  induction l with
  | nil =>
    show (if trimD ([] : List Nat) = [] then (if x = 0 then [] else [x]) else x :: trimD []) = _
    have h0 : trimD ([] : List Nat) = [] := rfl
    rw [h0]
    simp [hx]
  | cons d r ih =>
    show (if trimD (r ++ [x]) = [] then (if d = 0 then [] else [d]) else d :: trimD (r ++ [x])) = _
    rw [ih, if_neg (by simp)]
    rfl
theorem trimD_len : ∀ l : List Nat, (trimD l).length ≤ l.length
  | [] => Nat.le_refl _
  | d :: r => by
    have := trimD_len r
    unfold trimD
    split
    · split <;> simp
    · simp; omega
theorem trimD_get : ∀ (l : List Nat) (j : Nat), (trimD l).getD j 0 = l.getD j 0
  | [], j => rfl
  | d :: r, j => by
    have ih := fun i => trimD_get r i
    unfold trimD
    split
    · rename_i h
      rw [h] at ih
      cases j with
      | zero =>
        split
        · rename_i h0; simp [h0]
        · simp
      | succ j =>
        have h1 := ih j
        simp at h1
        split
        · simp [← h1]
        · simp [← h1]
    · cases j with
      | zero => simp
      | succ j => simpa using ih j
theorem trimD_last : ∀ (l : List Nat) (d : Nat), (trimD l).getLast? = some d → d ≠ 0
  | [], d, h => by cases h
  | x :: r, d, h => by
    unfold trimD at h
    split at h
    · split at h
      · cases h
      · simp at h; omega
    · rename_i hne
      rw [List.getLast?_cons] at h
      have : (trimD r).getLast? = some d := by
        cases hl : (trimD r).getLast? with
        | none => exact absurd (List.getLast?_eq_none_iff.1 hl) hne
        | some y => rw [hl] at h; simpa using h
      exact trimD_last r d this
theorem trimD_mem {l : List Nat} {P : Nat → Prop} (h : ∀ d ∈ l, P d) : ∀ d ∈ trimD l, P d := by
  induction l with
  | nil => intro d hd; cases hd
  | cons x r ih =>
    intro d hd
    have h1 := ih (fun y hy => h y (List.mem_cons_of_mem _ hy))
    unfold trimD at hd
    split at hd
    · split at hd
      · cases hd
      · rw [List.mem_singleton] at hd; subst hd; exact h _ (List.mem_cons_self ..)
    · rcases List.mem_cons.1 hd with rfl | hd
      · exact h _ (List.mem_cons_self ..)
      · exact h1 d hd

/-- A byte of a number, the least first. -/
def byteAt (ds : List Nat) (k : Nat) : Nat := ds.getD (k / 4) 0 / 256 ^ (k % 4) % 256
/-- The digits of a number whose bytes are le, the least first. -/
structure Digs (ds : List Nat) (le : List UInt8) : Prop where
  lt : ∀ d ∈ ds, d < 4294967296
  bytes : ∀ k, byteAt ds k = (le.getD k 0).toNat
  norm : ∀ d, ds.getLast? = some d → d ≠ 0
def tm (le : List UInt8) (lo k : Nat) : Nat := if lo ≤ k then (le.getD k 0).toNat else 0
def limb (le : List UInt8) (lo j : Nat) : Nat := tm le lo (4 * j) + 256 * tm le lo (4 * j + 1) + 65536 * tm le lo (4 * j + 2) + 16777216 * tm le lo (4 * j + 3)
theorem tm_lt (le : List UInt8) (lo k : Nat) : tm le lo k < 256 := by
  unfold tm
  split
  · exact UInt8.toNat_lt _
  · omega
theorem limb_lt (le : List UInt8) (lo j : Nat) : limb le lo j < 4294967296 := by
  have h0 := tm_lt le lo (4 * j)
  have h1 := tm_lt le lo (4 * j + 1)
  have h2 := tm_lt le lo (4 * j + 2)
  have h3 := tm_lt le lo (4 * j + 3)
  unfold limb
  omega
theorem tm_other (le : List UInt8) (k x : Nat) (h : x ≠ k) : tm le k x = tm le (k + 1) x := by
  unfold tm
  by_cases h1 : k ≤ x
  · rw [if_pos h1, if_pos (by omega)]
  · rw [if_neg h1, if_neg (by omega)]
theorem tm_self (le : List UInt8) (k : Nat) : tm le k k = (le.getD k 0).toNat ∧ ∀ x, x ≤ k → tm le (k + 1) x = 0 := by
  refine ⟨by unfold tm; rw [if_pos (Nat.le_refl _)], fun x hx => by unfold tm; rw [if_neg (by omega)]⟩
theorem limb_other (le : List UInt8) (k j : Nat) (h : k / 4 ≠ j) : limb le k j = limb le (k + 1) j := by
  unfold limb
  rw [tm_other le k (4 * j) (by omega), tm_other le k (4 * j + 1) (by omega), tm_other le k (4 * j + 2) (by omega), tm_other le k (4 * j + 3) (by omega)]
theorem limb_top (le : List UInt8) (lo j : Nat) (h : le.length ≤ lo) : limb le lo j = 0 := by
  have : ∀ k, tm le lo k = 0 := fun k => by
    unfold tm
    split
    · rw [List.getD_eq_getElem?_getD, List.getElem?_eq_none (by omega)]; rfl
    · rfl
  unfold limb
  rw [this, this, this, this]
theorem or_add32 (x y p : Nat) (hx : x * 2 ^ p < 4294967296) (hy : y < 2 ^ p) (h : x * 2 ^ p + y < 4294967296) : bits .or .u32 ((x * 2 ^ p : Nat) : Int) (y : Int) = ((x * 2 ^ p + y : Nat) : Int) := by
  rw [u32_or_nat _ _ hx (by omega), nat_or_add x y p hy]
/-- One more byte. -/
theorem limb0 (le : List UInt8) (j b : Nat) (hb : b = (le.getD (4 * j) 0).toNat) : bits .or .u32 ((limb le (4 * j + 1) j : Nat) : Int) (b : Int) = ((limb le (4 * j) j : Nat) : Int) := by
  have e0 := (tm_self le (4 * j)).1
  have z0 := (tm_self le (4 * j)).2 (4 * j) (by omega)
  have o1 := tm_other le (4 * j) (4 * j + 1) (by omega)
  have o2 := tm_other le (4 * j) (4 * j + 2) (by omega)
  have o3 := tm_other le (4 * j) (4 * j + 3) (by omega)
  have t1 := tm_lt le (4 * j + 1) (4 * j + 1)
  have t2 := tm_lt le (4 * j + 1) (4 * j + 2)
  have t3 := tm_lt le (4 * j + 1) (4 * j + 3)
  have hb2 : b < 256 := by rw [hb]; exact UInt8.toNat_lt _
  have e1 : limb le (4 * j + 1) j = (tm le (4 * j + 1) (4 * j + 1) + 256 * tm le (4 * j + 1) (4 * j + 2) + 65536 * tm le (4 * j + 1) (4 * j + 3)) * 2 ^ 8 := by unfold limb; rw [z0]; omega
  rw [e1, or_add32 _ b 8 (by omega) (by omega) (by omega)]
  congr 1
  unfold limb
  rw [e0, o1, o2, o3, ← hb]
  omega
theorem limb1 (le : List UInt8) (j b : Nat) (hb : b = (le.getD (4 * j + 1) 0).toNat) : bits .or .u32 ((limb le (4 * j + 2) j : Nat) : Int) ((b * 256 : Nat) : Int) = ((limb le (4 * j + 1) j : Nat) : Int) := by
  have e0 := (tm_self le (4 * j + 1)).1
  have z0 : tm le (4 * j + 2) (4 * j) = 0 := (tm_self le (4 * j + 1)).2 (4 * j) (by omega)
  have z1 : tm le (4 * j + 2) (4 * j + 1) = 0 := (tm_self le (4 * j + 1)).2 (4 * j + 1) (by omega)
  have o0 : tm le (4 * j + 1) (4 * j) = tm le (4 * j + 2) (4 * j) := tm_other le (4 * j + 1) (4 * j) (by omega)
  have o2 : tm le (4 * j + 1) (4 * j + 2) = tm le (4 * j + 2) (4 * j + 2) := tm_other le (4 * j + 1) (4 * j + 2) (by omega)
  have o3 : tm le (4 * j + 1) (4 * j + 3) = tm le (4 * j + 2) (4 * j + 3) := tm_other le (4 * j + 1) (4 * j + 3) (by omega)
  have t2 := tm_lt le (4 * j + 2) (4 * j + 2)
  have t3 := tm_lt le (4 * j + 2) (4 * j + 3)
  have hb2 : b < 256 := by rw [hb]; exact UInt8.toNat_lt _
  have e1 : limb le (4 * j + 2) j = (tm le (4 * j + 2) (4 * j + 2) + 256 * tm le (4 * j + 2) (4 * j + 3)) * 2 ^ 16 := by unfold limb; rw [z0, z1]; omega
  rw [e1, or_add32 _ (b * 256) 16 (by omega) (by omega) (by omega)]
  congr 1
  unfold limb
  rw [e0, o0, o2, o3, z0, ← hb]
  omega
theorem limb2 (le : List UInt8) (j b : Nat) (hb : b = (le.getD (4 * j + 2) 0).toNat) : bits .or .u32 ((limb le (4 * j + 3) j : Nat) : Int) ((b * 65536 : Nat) : Int) = ((limb le (4 * j + 2) j : Nat) : Int) := by
  have e0 := (tm_self le (4 * j + 2)).1
  have z0 : tm le (4 * j + 3) (4 * j) = 0 := (tm_self le (4 * j + 2)).2 (4 * j) (by omega)
  have z1 : tm le (4 * j + 3) (4 * j + 1) = 0 := (tm_self le (4 * j + 2)).2 (4 * j + 1) (by omega)
  have z2 : tm le (4 * j + 3) (4 * j + 2) = 0 := (tm_self le (4 * j + 2)).2 (4 * j + 2) (by omega)
  have o0 : tm le (4 * j + 2) (4 * j) = tm le (4 * j + 3) (4 * j) := tm_other le (4 * j + 2) (4 * j) (by omega)
  have o1 : tm le (4 * j + 2) (4 * j + 1) = tm le (4 * j + 3) (4 * j + 1) := tm_other le (4 * j + 2) (4 * j + 1) (by omega)
  have o3 : tm le (4 * j + 2) (4 * j + 3) = tm le (4 * j + 3) (4 * j + 3) := tm_other le (4 * j + 2) (4 * j + 3) (by omega)
  have t3 := tm_lt le (4 * j + 3) (4 * j + 3)
  have hb2 : b < 256 := by rw [hb]; exact UInt8.toNat_lt _
  have e1 : limb le (4 * j + 3) j = (tm le (4 * j + 3) (4 * j + 3)) * 2 ^ 24 := by unfold limb; rw [z0, z1, z2]; omega
  rw [e1, or_add32 _ (b * 65536) 24 (by omega) (by omega) (by omega)]
  congr 1
  unfold limb
  rw [e0, o0, o1, o3, z0, z1, ← hb]
  omega
theorem limb3 (le : List UInt8) (j b : Nat) (hb : b = (le.getD (4 * j + 3) 0).toNat) : bits .or .u32 ((limb le (4 * j + 4) j : Nat) : Int) ((b * 16777216 : Nat) : Int) = ((limb le (4 * j + 3) j : Nat) : Int) := by
  have e0 := (tm_self le (4 * j + 3)).1
  have z0 : tm le (4 * j + 4) (4 * j) = 0 := (tm_self le (4 * j + 3)).2 (4 * j) (by omega)
  have z1 : tm le (4 * j + 4) (4 * j + 1) = 0 := (tm_self le (4 * j + 3)).2 (4 * j + 1) (by omega)
  have z2 : tm le (4 * j + 4) (4 * j + 2) = 0 := (tm_self le (4 * j + 3)).2 (4 * j + 2) (by omega)
  have z3 : tm le (4 * j + 4) (4 * j + 3) = 0 := (tm_self le (4 * j + 3)).2 (4 * j + 3) (by omega)
  have o0 : tm le (4 * j + 3) (4 * j) = tm le (4 * j + 4) (4 * j) := tm_other le (4 * j + 3) (4 * j) (by omega)
  have o1 : tm le (4 * j + 3) (4 * j + 1) = tm le (4 * j + 4) (4 * j + 1) := tm_other le (4 * j + 3) (4 * j + 1) (by omega)
  have o2 : tm le (4 * j + 3) (4 * j + 2) = tm le (4 * j + 4) (4 * j + 2) := tm_other le (4 * j + 3) (4 * j + 2) (by omega)
  have hb2 : b < 256 := by rw [hb]; exact UInt8.toNat_lt _
  have e1 : limb le (4 * j + 4) j = 0 := by unfold limb; rw [z0, z1, z2, z3]
  have e2 : limb le (4 * j + 3) j = b * 16777216 := by unfold limb; rw [e0, o0, o1, o2, z0, z1, z2, ← hb]; omega
  rw [e1, e2, u32_or_nat 0 _ (by omega) (by omega)]
  simp
/-- The digits that SetBytes makes. -/
def digsOf (le : List UInt8) : List Nat := trimD ((List.range ((le.length + 3) / 4)).map (limb le 0))
theorem byte_limb (le : List UInt8) (k : Nat) : limb le 0 (k / 4) / 256 ^ (k % 4) % 256 = (le.getD k 0).toNat := by
  have ht : ∀ x, tm le 0 x = (le.getD x 0).toNat := fun x => by unfold tm; rw [if_pos (Nat.zero_le _)]
  have h0 := tm_lt le 0 (4 * (k / 4))
  have h1 := tm_lt le 0 (4 * (k / 4) + 1)
  have h2 := tm_lt le 0 (4 * (k / 4) + 2)
  have h3 := tm_lt le 0 (4 * (k / 4) + 3)
  rw [← ht k]
  unfold limb
  obtain ⟨j, hj⟩ : ∃ j, j = k / 4 := ⟨_, rfl⟩
  rw [← hj] at h0 h1 h2 h3 ⊢
  rcases (show k % 4 = 0 ∨ k % 4 = 1 ∨ k % 4 = 2 ∨ k % 4 = 3 by omega) with h | h | h | h
  · rw [h, show k = 4 * j by omega]; omega
  · rw [h, show k = 4 * j + 1 by omega]; omega
  · rw [h, show k = 4 * j + 2 by omega]; omega
  · rw [h, show k = 4 * j + 3 by omega]; omega
theorem digs_of (le : List UInt8) : Digs (digsOf le) le := by
  refine ⟨trimD_mem (fun d hd => ?_), fun k => ?_, fun d hd => trimD_last _ d hd⟩
  · obtain ⟨j, _, rfl⟩ := List.mem_map.1 hd
    exact limb_lt _ _ _
  · unfold byteAt digsOf
    rw [trimD_get, List.getD_eq_getElem?_getD, List.getElem?_map]
    by_cases hk : k / 4 < (le.length + 3) / 4
    · rw [List.getElem?_range hk]
      exact byte_limb le k
    · rw [List.getElem?_eq_none (by simp; omega)]
      rw [List.getD_eq_getElem?_getD, List.getElem?_eq_none (by omega)]
      simp

end Go.Proofs.YtoeepfmmceilaaaGreatDoor
/- smallbig: norm, SetBytes. -/
set_option linter.unusedVariables false
set_option linter.unusedSimpArgs false
namespace Go.Proofs.YtoeepfmmceilaaaGreatDoor
open Go.RowKit

def natV (d : Nat) : Value := .int .u32 (d : Int)
theorem info_u32 : (Tryz.prog.info? 111).map (fun i => (i.zero, i.size, i.bytes)) = some (some (.int .u32 0), 1, 4) := by kernel_rfl
theorem RR_at {enc : Nat → Value} {ok : Nat → Prop} {w : World} {A : Option Addr} {ds : List Nat} (h : RR (lit enc) ok w A ds) (hn : 0 < ds.length) :
    ∃ ad, A = some ad ∧ ok ad.block ∧ ∀ i x, ds[i]? = some x → w.cell? (ad.add i) = some (enc x) := by
  obtain ⟨ad, hA, ho, hc⟩ := h.addr hn
  refine ⟨ad, hA, ho, fun i x hx => ?_⟩
  obtain ⟨v, h1, rfl⟩ := hc i x hx
  exact h1

set_option maxHeartbeats 800000 in
theorem norm_walk (ok : Nat → Prop) (A : Option Addr) (c : Nat) (ds : List Nat) (w : World) (hl : ds.length ≤ 100000) (hc : ds.length ≤ c) (hr : RR (lit natV) ok w A ds) :
    Calls Tryz.prog 167 #[.slice A ds.length c] w fun e w' => e = .returned (.slice A (trimD ds).length c) ∧ w' = w ∧ RR (lit natV) ok w A (trimD ds) := by
  have HR := Lib.hid hr
  have hsl : ∀ (n m : Nat) (W : World), m ≤ n → n ≤ c → (Instr.slice 270 (.slice A n c) none (some (.int .i64 (m : Int))) none).run Tryz.prog W = .ok (.slice A m c) W := fun n m W hm hn => by
    obtain ⟨i0, hi0, _, hsz, _⟩ := info_parts info_u32
    exact slice_to (P := Tryz.prog) 270 111 Tryz.underlying270 hi0 hsz A n c m hm hn W
  have HSL := Lib.hid hsl
  clear hr hsl
  go_enter Tryz.func167, Tryz.ntmps167
  go_wp2_with fail
  go_loopg [0] (ds.length + 1) (fun gk v0 wr => ∃ k : Nat, v0 = .slice A k c ∧ k ≤ ds.length ∧ Hid (k + 1 ≤ gk) ∧ Hid (trimD ds = trimD (ds.take k)) ∧ wr = w)
  case atStart => exact ⟨ds.length, rfl, Nat.le_refl _, by simp [Hid], by simp [Hid], rfl⟩
  case round =>
    obtain ⟨k, rfl, hk, hgk, HT, rfl⟩ := hrel
    cases k with
    | zero =>
      have ht := Lib.hid (show trimD ds = [] by rw [HT.out]; rfl)
      go_wp2_with fail
      go_ret
      rw [ht.out]
      exact ⟨rfl, rfl, RR.nil _ _ _ _⟩
    | succ m =>
      obtain ⟨x, hx⟩ : ∃ x, ds[m]? = some x := ⟨_, List.getElem?_eq_getElem (by omega)⟩
      obtain ⟨ad, rfl, _, hcc⟩ := RR_at HR.out (by omega)
      have hcx : wr.cell? (ad.add m) = some (.int .u32 (x : Int)) := hcc m x hx
      have ht1 : ds.take (m + 1) = ds.take m ++ [x] := by rw [List.take_add_one, hx]; rfl
      have hw : wrap64 (m : Int) = (m : Int) := by unfold wrap64; omega
      have hs1 : ((m + 1 : Nat) : Int) - 1 = (m : Int) := by omega
      have hs2 : (m : Int) + 1 - 1 = (m : Int) := by omega
      have r1 : (Instr.slice 270 (.slice (some ad) (m + 1) c) none (some (.int .i64 (m : Int))) none).run Tryz.prog wr = .ok (.slice (some ad) m c) wr := HSL.out (m + 1) m wr (by omega) (by omega)
      clear hx hcc
      by_cases h0 : x = 0
      · subst h0
        have HT2 := Lib.hid (show trimD ds = trimD (ds.take m) by rw [HT.out, ht1, trimD_zero])
        clear ht1
        go_wp2_with fail
        go_roundg (gk - 1)
        case measure => have := hgk.out; omega
        case rel =>
          have hg := hgk.out
          exact ⟨m, rfl, by omega, show _ ≤ _ by omega, HT2.out, rfl⟩
      · have hz : ((x : Int) == 0) = false := by rw [beq_eq_false_iff_ne]; omega
        have HT2 := Lib.hid (show trimD ds = ds.take (m + 1) by rw [HT.out, ht1, trimD_sign _ _ h0])
        have hlen : (ds.take (m + 1)).length = m + 1 := by rw [List.length_take]; omega
        have HLN := Lib.hid hlen
        clear ht1 h0 hlen
        go_wp2_with fail
        go_ret
        rw [HT2.out, HLN.out]
        exact ⟨rfl, rfl, HR.out.take (m + 1)⟩

/-- The digits under way: the bytes from place lo on are in. -/
def limbsC (le : List UInt8) (lo q : Nat) : Array Value := ((List.range q).map fun j => natV (limb le lo j)).toArray
theorem limbsC_at (le : List UInt8) (lo q j : Nat) (hj : j < q) : (limbsC le lo q)[j]? = some (natV (limb le lo j)) := by
  unfold limbsC
  rw [List.getElem?_toArray, List.getElem?_map, List.getElem?_range hj]
  rfl
theorem limbsC_set (le : List UInt8) (k q j : Nat) (hj : k / 4 = j) : (limbsC le (k + 1) q).setIfInBounds j (natV (limb le k j)) = limbsC le k q := by
  apply Array.ext'
  unfold limbsC
  rw [Array.toList_setIfInBounds]
  apply List.ext_getElem?
  intro i
  rw [List.getElem?_set]
  simp only [List.getElem?_map, List.length_map, List.length_range]
  by_cases hi : j = i
  · subst hi
    rw [if_pos rfl]
    by_cases hq : j < q
    · rw [if_pos hq, List.getElem?_range hq]; rfl
    · rw [if_neg hq, List.getElem?_eq_none (by simp; omega)]; rfl
  · rw [if_neg hi]
    by_cases hq : i < q
    · rw [List.getElem?_range hq]
      show some (natV (limb le (k + 1) i)) = some (natV (limb le k i))
      rw [limb_other le k i (by omega)]
    · rw [List.getElem?_eq_none (by simp; omega)]
      rfl
theorem limbsC_top (le : List UInt8) (q : Nat) : limbsC le le.length q = madeCells (Value.int .u32 0).cells q := by
  unfold limbsC madeCells
  apply Array.ext'
  apply List.ext_getElem?
  intro i
  simp only [List.getElem?_map]
  by_cases hq : i < q
  · rw [List.getElem?_range hq]
    show some (natV (limb le le.length i)) = _
    rw [limb_top _ _ _ (Nat.le_refl _)]
    simp [hq, Value.cells, natV, Nat.mod_one]
  · rw [List.getElem?_eq_none (by simp; omega)]
    simp [hq]


end Go.Proofs.YtoeepfmmceilaaaGreatDoor
/- smallbig: SetBytes. -/
set_option linter.unusedVariables false
set_option linter.unusedSimpArgs false
namespace Go.Proofs.YtoeepfmmceilaaaGreatDoor
open Go.RowKit

theorem w64 (n : Nat) (h : n ≤ 1000000) : wrap64 (n : Int) = (n : Int) := by unfold wrap64; omega
theorem w64_3 (n : Nat) (h : n ≤ 1000000) : wrap64 ((n : Int) + 3) = (n : Int) + 3 := by unfold wrap64; omega
theorem i64w (n : Nat) (h : n ≤ 1000000) : IntKind.i64.wrap (n : Int) = (n : Int) := by rw [IntKind.wrap_i64]; omega
theorem u32w (n : Nat) (h : n < 4294967296) : IntKind.u32.wrap (n : Int) = (n : Int) := by rw [IntKind.wrap_u32']; omega
theorem i64l : IntKind.i64.wrap 0 = 0 ∧ IntKind.i64.wrap 8 = 8 ∧ IntKind.i64.wrap 16 = 16 ∧ IntKind.i64.wrap 24 = 24 := by decide
theorem td4 (k j : Nat) (h : j = k / 4) : (k : Int).tdiv 4 = (j : Int) := by rw [Int.tdiv_eq_ediv_of_nonneg (by omega)]; omega
theorem tm4 (k m : Nat) (h : k % 4 = m) : (k : Int).tmod 4 = (m : Int) := by rw [Int.tmod_eq_emod_of_nonneg (by omega)]; omega
/-- How SetBytes ends. -/
def SbEnd (w : World) (gz : Nat) (le : List UInt8) (e : Ending) (w' : World) : Prop :=
  e = .returned (.pointer (some ⟨gz, 0, none⟩)) ∧ Keep (but gz) w w' ∧ ∃ (A : Option Addr) (c : Nat), Blk w' gz 272 #[.bool false, .slice A (digsOf le).length c] ∧ (digsOf le).length ≤ c ∧ RR (lit natV) (fun b => w.heap.size ≤ b) w' A (digsOf le)
set_option maxRecDepth 100000 in
set_option maxHeartbeats 400000 in
theorem setBytes_walk (ok : Nat → Prop) (A : Option Addr) (c : Nat) (bs : List UInt8) (w : World) (gz : Nat) (v0 v1 : Value) (hl : bs.length ≤ 100000) (hr : RR (lit byteV) ok w A bs) (hz : Blk w gz 272 #[v0, v1]) :
    Calls Tryz.prog 163 #[.pointer (some ⟨gz, 0, none⟩), .slice A bs.length c] w (SbEnd w gz bs.reverse) := by
  obtain ⟨n, hn⟩ : ∃ n, n = bs.length := ⟨_, rfl⟩
  obtain ⟨le, hle⟩ : ∃ l, l = bs.reverse := ⟨_, rfl⟩
  have hlen : le.length = n := by rw [hle, List.length_reverse, hn]
  obtain ⟨q, hq⟩ : ∃ q, q = (n + 3) / 4 := ⟨_, rfl⟩
  have HQI := Lib.hid (show ((n : Int) + 3).tdiv 4 = (q : Int) from td4 (n + 3) q hq)
  have HWN := Lib.hid (w64_3 n (by omega))
  have HWQ := Lib.hid (w64 q (by omega))
  have hmk : ∀ W : World, (Instr.makeSlice 270 (.int .i64 (q : Int)) (.int .i64 (q : Int))).run Tryz.prog W = .ok (.slice (some ⟨W.heap.size, 0, none⟩) q q) (W.alloc (.cells (limbsC le n q) 111)) := fun W => by
    obtain ⟨i, hi', hz, hs, hb⟩ := info_parts info_u32
    have h := run_make (P := Tryz.prog) W 270 111 i (.int .u32 0) Tryz.underlying270 hi' hz .i64 .i64 (q : Int) (q : Int) (by omega) (by omega) (by rw [hb]; omega) (by omega)
    simp only [Int.toNat_natCast, hs, Nat.mul_one] at h
    rw [← hlen, limbsC_top]
    exact h
  have HR := Lib.hid hr
  have HZ := Lib.hid hz
  have HQ := Lib.hid hq
  have HLE := Lib.hid hle
  have HN := Lib.hid hn
  have HLN := Lib.hid hlen
  have HL := Lib.hid hl
  rw [← hle, ← hn]
  clear hr hz hq hle hlen hl hn
  have hqi := HQI.out
  have hwn := HWN.out
  have hwq := HWQ.out
  go_enter Tryz.func163, Tryz.ntmps163
  go_wp2_with fail
  go_loopg [16] (n + 1) (fun gk v16 wr => ∃ i : Nat, v16 = .int .i64 (i : Int) ∧ i ≤ n ∧ Hid (i + gk = n + 1) ∧ Hid (Blk wr w.heap.size 111 (limbsC le (n - i) q)) ∧ Hid (Below w.heap.size w wr))
  case atStart => exact ⟨0, rfl, by omega, by simp [Hid], Blk.new _ _ _, (Below.refl _ _).alloc (Nat.le_refl _) _⟩
  case round =>
    obtain ⟨i, rfl, hi, hgk, HB, HBE⟩ := hrel
    by_cases hlt : i < n
    · obtain ⟨x, hx⟩ : ∃ x, bs[i]? = some x := ⟨_, List.getElem?_eq_getElem (by rw [← HN.out]; exact hlt)⟩
      obtain ⟨ad, rfl, _, hcc⟩ := RB.at HR.out (by rw [← HN.out]; omega)
      have hcx : wr.cell? (ad.add i) = some (.int .u8 (x.toNat : Int)) := (HBE.out.cell (blk_lt_of_cell (hcc i x hx))).trans (hcc i x hx)
      clear hqi hwn hwq
      obtain ⟨k, hk⟩ : ∃ k, k = n - 1 - i := ⟨_, rfl⟩
      obtain ⟨n1, hn1⟩ : ∃ n1, n1 = n - 1 := ⟨_, rfl⟩
      obtain ⟨j, hj⟩ : ∃ j, j = k / 4 := ⟨_, rfl⟩
      have hnl : n ≤ 100000 := by have := HL.out; have := HN.out; omega
      have hjq : j < q := by have := HQ.out; omega
      have hgx : x = le.getD k 0 := by
        rw [HLE.out, List.getD_eq_getElem?_getD, List.getElem?_reverse (by have := HN.out; omega), ← HN.out]
        rw [show n - 1 - k = i by omega, hx]
        rfl
      have hlo : n - i = k + 1 := by omega
      have hkl : k ≤ 100000 := by omega
      have hjl : j ≤ 100000 := by omega
      have hn1l : n1 ≤ 100000 := by omega
      have E0 := Lib.hid (show (n : Int) - 1 = (n1 : Int) by omega)
      have E1 := Lib.hid (show (n1 : Int) - (i : Int) = (k : Int) by omega)
      have E2 := Lib.hid (show (j : Int) < (q : Int) by omega)
      rw [hlo] at HB
      have HKK := Lib.hid (And.intro hk hj)
      have HKI := Lib.hid (show n - (i + 1) = k by omega)
      clear hk hn1 hlo
      have W0 := Lib.hid (w64 n1 (by omega))
      have W1 := Lib.hid (w64 k (by omega))
      have WJ := Lib.hid (w64 j (by omega))
      have WI := Lib.hid (show wrap64 ((i : Int) + 1) = ((i + 1 : Nat) : Int) from w64 (i + 1) (by omega))
      have WJ2 := Lib.hid (i64w j (by omega))
      have ED := Lib.hid (td4 k j hj)
      have HJQ := Lib.hid hjq
      clear hj hnl hkl hjl hn1l
      have hcl : wr.cell? ⟨w.heap.size, j, none⟩ = some (.int .u32 ((limb le (k + 1) j : Nat) : Int)) := (HB.out.cell j).trans (limbsC_at le (k + 1) q j hjq)
      have hfr := HB.out.frozen j
      obtain ⟨b, hb⟩ : ∃ b, b = x.toNat := ⟨_, rfl⟩
      have hb2 : b < 256 := by rw [hb]; exact UInt8.toNat_lt _
      have hbl : b = (le.getD k 0).toNat := by rw [hb, hgx]
      rw [← hb] at hcx
      obtain ⟨L, hL⟩ : ∃ L, L = limb le (k + 1) j := ⟨_, rfl⟩
      rw [← hL] at hcl
      have HLB := Lib.hid hbl
      have HLL := Lib.hid hL
      clear hx hcc hb hgx hbl hL
      have e0 := E0.out
      have e1 := E1.out
      have e2 := E2.out
      have w0 := W0.out
      have w1 := W1.out
      have wj := WJ.out
      have ed := ED.out
      have wj2 := WJ2.out
      have wb2 := u32w b (by omega)
      have hjq3 := HJQ.out
      obtain ⟨c0, c8, c16, c24⟩ := i64l
      rcases (show k % 4 = 0 ∨ k % 4 = 1 ∨ k % 4 = 2 ∨ k % 4 = 3 by omega) with h | h | h | h
      · have em : (k : Int).tmod 4 = 0 := tm4 k 0 h
        have hk4 : k = 4 * j := by have := HKK.out.2; omega
        have HV := Lib.hid (show bits .or .u32 (L : Int) (b : Int) = ((limb le k j : Nat) : Int) by
          have h9 := limb0 le j b (by rw [HLB.out, hk4])
          rw [HLL.out]
          subst hk4
          exact h9)
        clear hk4
        go_wp2_with fail
        go_region_law (fail)
        all_goals
          go_wp2_with fail
          go_roundg (gk - 1)
          case measure => have := hgk.out; omega
          case rel =>
            have hg := hgk.out
            refine ⟨i + 1, by rw [WI.out], by omega, show _ = _ by omega, ?_, ?_⟩
            · have h8 := HB.out.set_ j (.int .u32 (bits .or .u32 (L : Int) (b : Int)))
              rw [HV.out] at h8 ⊢
              rw [HKI.out]
              have h7 := limbsC_set le k q j HKK.out.2.symm
              unfold natV at h7
              rw [h7] at h8
              exact h8
            · have h6 := HBE.out.setCell (p := ⟨w.heap.size, j, none⟩) (Nat.le_refl _) (.int .u32 (bits .or .u32 (L : Int) (b : Int)))
              exact ⟨h6.os, h6.tape, h6.output, h6.size, h6.block⟩
      · have em : (k : Int).tmod 4 = 1 := tm4 k 1 h
        have hk4 : k = 4 * j + 1 := by have := HKK.out.2; omega
        have HV := Lib.hid (show bits .or .u32 (L : Int) ((b : Int) * 256) = ((limb le k j : Nat) : Int) by
          have h9 := limb1 le j b (by rw [HLB.out, hk4])
          rw [HLL.out]
          subst hk4
          rw [show (b : Int) * 256 = ((b * 256 : Nat) : Int) by rw [Int.natCast_mul]; rfl]; exact h9)
        clear hk4
        go_wp2_with fail
        go_region_law (fail)
        all_goals
          go_wp2_with fail
          go_roundg (gk - 1)
          case measure => have := hgk.out; omega
          case rel =>
            have hg := hgk.out
            refine ⟨i + 1, by rw [WI.out], by omega, show _ = _ by omega, ?_, ?_⟩
            · have h8 := HB.out.set_ j (.int .u32 (bits .or .u32 (L : Int) ((b : Int) * 256)))
              rw [HV.out] at h8 ⊢
              rw [HKI.out]
              have h7 := limbsC_set le k q j HKK.out.2.symm
              unfold natV at h7
              rw [h7] at h8
              exact h8
            · have h6 := HBE.out.setCell (p := ⟨w.heap.size, j, none⟩) (Nat.le_refl _) (.int .u32 (bits .or .u32 (L : Int) ((b : Int) * 256)))
              exact ⟨h6.os, h6.tape, h6.output, h6.size, h6.block⟩
      · have em : (k : Int).tmod 4 = 2 := tm4 k 2 h
        have hk4 : k = 4 * j + 2 := by have := HKK.out.2; omega
        have HV := Lib.hid (show bits .or .u32 (L : Int) ((b : Int) * 65536) = ((limb le k j : Nat) : Int) by
          have h9 := limb2 le j b (by rw [HLB.out, hk4])
          rw [HLL.out]
          subst hk4
          rw [show (b : Int) * 65536 = ((b * 65536 : Nat) : Int) by rw [Int.natCast_mul]; rfl]; exact h9)
        clear hk4
        go_wp2_with fail
        go_region_law (fail)
        all_goals
          go_wp2_with fail
          go_roundg (gk - 1)
          case measure => have := hgk.out; omega
          case rel =>
            have hg := hgk.out
            refine ⟨i + 1, by rw [WI.out], by omega, show _ = _ by omega, ?_, ?_⟩
            · have h8 := HB.out.set_ j (.int .u32 (bits .or .u32 (L : Int) ((b : Int) * 65536)))
              rw [HV.out] at h8 ⊢
              rw [HKI.out]
              have h7 := limbsC_set le k q j HKK.out.2.symm
              unfold natV at h7
              rw [h7] at h8
              exact h8
            · have h6 := HBE.out.setCell (p := ⟨w.heap.size, j, none⟩) (Nat.le_refl _) (.int .u32 (bits .or .u32 (L : Int) ((b : Int) * 65536)))
              exact ⟨h6.os, h6.tape, h6.output, h6.size, h6.block⟩
      · have em : (k : Int).tmod 4 = 3 := tm4 k 3 h
        have hk4 : k = 4 * j + 3 := by have := HKK.out.2; omega
        have HV := Lib.hid (show bits .or .u32 (L : Int) ((b : Int) * 16777216) = ((limb le k j : Nat) : Int) by
          have h9 := limb3 le j b (by rw [HLB.out, hk4])
          rw [HLL.out]
          subst hk4
          rw [show (b : Int) * 16777216 = ((b * 16777216 : Nat) : Int) by rw [Int.natCast_mul]; rfl]; exact h9)
        clear hk4
        go_wp2_with fail
        go_region_law (fail)
        all_goals
          go_wp2_with fail
          go_roundg (gk - 1)
          case measure => have := hgk.out; omega
          case rel =>
            have hg := hgk.out
            refine ⟨i + 1, by rw [WI.out], by omega, show _ = _ by omega, ?_, ?_⟩
            · have h8 := HB.out.set_ j (.int .u32 (bits .or .u32 (L : Int) ((b : Int) * 16777216)))
              rw [HV.out] at h8 ⊢
              rw [HKI.out]
              have h7 := limbsC_set le k q j HKK.out.2.symm
              unfold natV at h7
              rw [h7] at h8
              exact h8
            · have h6 := HBE.out.setCell (p := ⟨w.heap.size, j, none⟩) (Nat.le_refl _) (.int .u32 (bits .or .u32 (L : Int) ((b : Int) * 16777216)))
              exact ⟨h6.os, h6.tape, h6.output, h6.size, h6.block⟩
    · have hie : i = n := by omega
      subst hie
      rw [Nat.sub_self] at HB
      have hds : limbsC le 0 q = (((List.range q).map (limb le 0)).map natV).toArray := by unfold limbsC; rw [List.map_map]; rfl
      have hRRd : RR (lit natV) (fun b => w.heap.size ≤ b) wr (some ⟨w.heap.size, 0, none⟩) ((List.range q).map (limb le 0)) := by
        intro x y hxy
        refine ⟨_, natV y, rfl, Nat.le_refl _, ?_, rfl⟩
        rw [show (⟨w.heap.size, 0, none⟩ : Addr).add x = ⟨w.heap.size, x, none⟩ by unfold Addr.add; split <;> simp_all, HB.out.cell, hds, List.getElem?_toArray, List.getElem?_map, hxy]
        rfl
      have hlq : ((List.range q).map (limb le 0)).length = q := by simp
      have HNW := Lib.hid (norm_walk (fun b => w.heap.size ≤ b) (some ⟨w.heap.size, 0, none⟩) q ((List.range q).map (limb le 0)) wr (by rw [hlq]; have := HQ.out; have := HL.out; have := HN.out; omega) (by rw [hlq]; exact Nat.le_refl _) hRRd)
      have hdo : trimD ((List.range q).map (limb le 0)) = digsOf le := by unfold digsOf; rw [HLN.out, ← HQ.out]
      have hdl := trimD_len ((List.range q).map (limb le 0))
      rw [hlq] at hdl
      rw [hdo] at HNW hdl
      rw [hlq] at HNW
      have HDL := Lib.hid hdl
      have hz1 : Blk wr gz 272 #[v0, v1] := (HBE.out.block gz HZ.out.lt).trans HZ.out
      have z0 : wr.cell? ⟨gz, 0, none⟩ = some v0 := hz1.cell 0
      have z1 : wr.cell? ⟨gz, 1, none⟩ = some v1 := hz1.cell 1
      have y0 := hz1.frozen 0
      have y1 := hz1.frozen 1
      have HZ1 := Lib.hid hz1
      obtain ⟨dl, hdl2⟩ : ∃ d, d = (digsOf le).length := ⟨_, rfl⟩
      rw [← hdl2] at HNW HDL
      have HDE := Lib.hid hdl2
      clear hds hRRd hlq hdo hdl hz1 hqi hwn hwq hdl2
      go_wp2_with (go_at_call 167; refine HNW.out.mono ?_; rintro e w9 ⟨rfl, hw9, hr9⟩; (have hw9 := hw9.symm); subst hw9; have HR9 := Lib.hid hr9; clear hr9)
      go_ret
      have hgl := HZ.out.lt
      have hb9 := (HZ1.out.set_ 1 (.slice (some ⟨w.heap.size, 0, none⟩) dl q)).set_ 0 (.bool false)
      have hk9 : Keep (fun b => w.heap.size ≤ b) wr ((wr.setCell ⟨gz, 1, none⟩ (.slice (some ⟨w.heap.size, 0, none⟩) dl q)).setCell ⟨gz, 0, none⟩ (.bool false)) := ((Keep.refl _ _).setCell (fun _ ho => by show False; simp at ho; omega) _).setCell (fun _ ho => by show False; simp at ho; omega) _
      refine ⟨rfl, ((Keep.of_below HBE.out).setCell (fun _ hn => hn rfl) _).setCell (fun _ hn => hn rfl) _, some ⟨w.heap.size, 0, none⟩, q, ?_, ?_, HR9.out.keep (lit_steady _) hk9⟩
      · rw [← HDE.out]; exact hb9
      · rw [← HDE.out]; exact HDL.out

end Go.Proofs.YtoeepfmmceilaaaGreatDoor
/- smallbig: bitLen, BitLen; a big number in memory. -/
set_option linter.unusedVariables false
set_option linter.unusedSimpArgs false
namespace Go.Proofs.YtoeepfmmceilaaaGreatDoor
open Go.RowKit

/-- A big number: its block, its digits; its bytes are le, the least first. -/
def BigAt (ok : Nat → Prop) (w : World) (v : Value) (le : List UInt8) : Prop :=
  ∃ (g : Nat) (A : Option Addr) (ds : List Nat) (c : Nat), v = .pointer (some ⟨g, 0, none⟩) ∧ ok g ∧ Blk w g 272 #[.bool false, .slice A ds.length c] ∧ Hid (ds.length ≤ c) ∧ Hid (RR (lit natV) ok w A ds) ∧ Hid (Digs ds le)
theorem BigAt.keep {ok : Nat → Prop} {w w' : World} {v : Value} {le : List UInt8} (h : BigAt ok w v le) (hk : Keep ok w w') : BigAt ok w' v le := by
  obtain ⟨g, A, ds, c, h1, h2, h3, h4, h5, h6⟩ := h
  exact ⟨g, A, ds, c, h1, h2, h3.keep hk h2, h4, h5.out.keep (lit_steady _) hk, h6⟩
theorem BigAt.mono {ok ok' : Nat → Prop} {w : World} {v : Value} {le : List UInt8} (h : BigAt ok w v le) (hi : ∀ b, b < w.heap.size → ok b → ok' b) : BigAt ok' w v le := by
  obtain ⟨g, A, ds, c, h1, h2, h3, h4, h5, h6⟩ := h
  exact ⟨g, A, ds, c, h1, hi g h3.lt h2, h3, h4, h5.out.mono (lit_steady _) hi, h6⟩
/-- How many bits: b in the highest digit. -/
structure Bits (top b : Nat) : Prop where
  lo : 1 ≤ b
  hi : b ≤ 32
  ge : 2 ^ (b - 1) ≤ top
  lt : top < 2 ^ b
theorem digs_top {ds : List Nat} {le : List UInt8} {top b : Nat} (h : Digs ds le) (hne : 0 < ds.length) (ht : ds[ds.length - 1]? = some top) (hb : Bits top b) (hL : 0 < le.length) (hl : ∀ x, le[le.length - 1]? = some x → x ≠ 0) :
    (32 * (ds.length - 1) + b + 7) / 8 = le.length ∧ ∀ x, le[le.length - 1]? = some x → ((32 * (ds.length - 1) + b) % 8 = 0 ↔ 128 ≤ x.toNat) := by
  obtain ⟨n, hn⟩ : ∃ n, ds.length = n + 1 := ⟨ds.length - 1, by omega⟩
  rw [hn] at ht ⊢
  have hgt : ds.getD n 0 = top := by rw [List.getD_eq_getElem?_getD, show n = n + 1 - 1 by omega, ht]; rfl
  obtain ⟨x, hx⟩ : ∃ x, le[le.length - 1]? = some x := ⟨_, List.getElem?_eq_getElem (by omega)⟩
  have hx0 : x.toNat ≠ 0 := fun e => hl x hx (UInt8.toNat_inj.1 e)
  have hby := h.bytes
  have hlast : byteAt ds (le.length - 1) = x.toNat := by rw [hby, List.getD_eq_getElem?_getD, hx]; rfl
  have hbey : ∀ k, le.length ≤ k → byteAt ds k = 0 := fun k hk => by rw [hby, List.getD_eq_getElem?_getD, List.getElem?_eq_none hk]; rfl
  have hout : ∀ k, n < k / 4 → byteAt ds k = 0 := fun k hk => by unfold byteAt; rw [List.getD_eq_getElem?_getD, List.getElem?_eq_none (by omega)]; simp
  have hin : ∀ m, m < 4 → byteAt ds (4 * n + m) = top / 256 ^ m % 256 := fun m hm => by
    unfold byteAt
    rw [show (4 * n + m) / 4 = n by omega, show (4 * n + m) % 4 = m by omega, hgt]
  have b1 := hb.lo
  have b2 := hb.hi
  have g1 := hb.ge
  have g2 := hb.lt
  have hkn : (le.length - 1) / 4 ≤ n := by
    by_cases hq : (le.length - 1) / 4 ≤ n
    · exact hq
    · exact absurd ((hout _ (by omega)).symm.trans hlast).symm hx0
  have i0 := hin 0 (by omega)
  have i1 := hin 1 (by omega)
  have i2 := hin 2 (by omega)
  have i3 := hin 3 (by omega)
  have p24 : (256 : Nat) ^ 3 = 16777216 := rfl
  have p16 : (256 : Nat) ^ 2 = 65536 := rfl
  have p8 : (256 : Nat) ^ 1 = 256 := rfl
  have p0 : (256 : Nat) ^ 0 = 1 := rfl
  rw [p0] at i0
  rw [p8] at i1
  rw [p16] at i2
  rw [p24] at i3
  have key : ∀ t, t < 4 → byteAt ds (4 * n + t) ≠ 0 → (∀ m, m < 4 → t < m → byteAt ds (4 * n + m) = 0) → le.length = 4 * n + t + 1 := by
    intro t ht hnz hz
    have h1 : ¬ le.length ≤ 4 * n + t := fun hle => hnz (hbey _ hle)
    by_cases h2 : le.length = 4 * n + t + 1
    · exact h2
    · exfalso
      have h3 : (le.length - 1) / 4 = n := by omega
      have h4 : byteAt ds (4 * n + (le.length - 1 - 4 * n)) = 0 := hz _ (by omega) (by omega)
      rw [show 4 * n + (le.length - 1 - 4 * n) = le.length - 1 by omega, hlast] at h4
      exact hx0 h4
  have fin : ∀ t, t < 4 → le.length = 4 * n + t + 1 → 8 * t < b → b ≤ 8 * t + 8 → (b = 8 * t + 8 ↔ 128 ≤ byteAt ds (4 * n + t)) → (32 * (n + 1 - 1) + b + 7) / 8 = le.length ∧ ∀ y, le[le.length - 1]? = some y → ((32 * (n + 1 - 1) + b) % 8 = 0 ↔ 128 ≤ y.toNat) := by
    intro t ht hLt hb1 hb2 hiff
    refine ⟨by omega, fun y hy => ?_⟩
    obtain rfl : x = y := Option.some.inj (hx.symm.trans hy)
    rw [← hlast, show le.length - 1 = 4 * n + t by omega, ← hiff]
    omega
  rcases (show b ≤ 8 ∨ (8 < b ∧ b ≤ 16) ∨ (16 < b ∧ b ≤ 24) ∨ 24 < b by omega) with hbb | ⟨hb1, hbb⟩ | ⟨hb1, hbb⟩ | hb1
  · have u1 : 2 ^ b ≤ 2 ^ 8 := Nat.pow_le_pow_right (by omega) hbb
    have u2 : 1 ≤ top := Nat.le_trans (Nat.one_le_two_pow) g1
    have u3 : b = 8 → 2 ^ 7 ≤ top := fun e => by rw [e] at g1; exact g1
    have u4 : b ≠ 8 → top < 2 ^ 7 := fun e => Nat.lt_of_lt_of_le g2 (Nat.pow_le_pow_right (by omega) (by omega))
    clear g1 hb
    refine fin 0 (by omega) (key 0 (by omega) (by rw [i0]; omega) (fun m hm h0 => ?_)) (by omega) (by omega) ?_
    · rcases (show m = 1 ∨ m = 2 ∨ m = 3 by omega) with rfl | rfl | rfl <;> omega
    · rw [i0]
      by_cases e : b = 8
      · have := u3 e; omega
      · have := u4 e; omega
  · have u1 : 2 ^ b ≤ 2 ^ 16 := Nat.pow_le_pow_right (by omega) hbb
    have u2 : 2 ^ 8 ≤ top := Nat.le_trans (Nat.pow_le_pow_right (by omega) (by omega)) g1
    have u3 : b = 16 → 2 ^ 15 ≤ top := fun e => by rw [e] at g1; exact g1
    have u4 : b ≠ 16 → top < 2 ^ 15 := fun e => Nat.lt_of_lt_of_le g2 (Nat.pow_le_pow_right (by omega) (by omega))
    clear g1 hb
    refine fin 1 (by omega) (key 1 (by omega) (by rw [i1]; omega) (fun m hm h0 => ?_)) (by omega) (by omega) ?_
    · rcases (show m = 2 ∨ m = 3 by omega) with rfl | rfl <;> omega
    · rw [i1]
      by_cases e : b = 16
      · have := u3 e; omega
      · have := u4 e; omega
  · have u1 : 2 ^ b ≤ 2 ^ 24 := Nat.pow_le_pow_right (by omega) hbb
    have u2 : 2 ^ 16 ≤ top := Nat.le_trans (Nat.pow_le_pow_right (by omega) (by omega)) g1
    have u3 : b = 24 → 2 ^ 23 ≤ top := fun e => by rw [e] at g1; exact g1
    have u4 : b ≠ 24 → top < 2 ^ 23 := fun e => Nat.lt_of_lt_of_le g2 (Nat.pow_le_pow_right (by omega) (by omega))
    clear g1 hb
    refine fin 2 (by omega) (key 2 (by omega) (by rw [i2]; omega) (fun m hm h0 => ?_)) (by omega) (by omega) ?_
    · obtain rfl : m = 3 := by omega
      omega
    · rw [i2]
      by_cases e : b = 24
      · have := u3 e; omega
      · have := u4 e; omega
  · have u1 : 2 ^ b ≤ 2 ^ 32 := Nat.pow_le_pow_right (by omega) b2
    have u2 : 2 ^ 24 ≤ top := Nat.le_trans (Nat.pow_le_pow_right (by omega) (by omega)) g1
    have u3 : b = 32 → 2 ^ 31 ≤ top := fun e => by rw [e] at g1; exact g1
    have u4 : b ≠ 32 → top < 2 ^ 31 := fun e => Nat.lt_of_lt_of_le g2 (Nat.pow_le_pow_right (by omega) (by omega))
    clear g1 hb
    refine fin 3 (by omega) (key 3 (by omega) (by rw [i3]; omega) (fun m hm h0 => by omega)) (by omega) (by omega) ?_
    rw [i3]
    by_cases e : b = 32
    · have := u3 e; omega
    · have := u4 e; omega

set_option maxHeartbeats 400000 in
theorem bitLen_walk (ok : Nat → Prop) (A : Option Addr) (c : Nat) (ds : List Nat) (top : Nat) (w : World) (hl : ds.length ≤ 10000) (h0 : 0 < ds.length) (ht : ds[ds.length - 1]? = some top) (htl : top < 4294967296) (hr : RR (lit natV) ok w A ds) :
    Calls Tryz.prog 158 #[.slice A ds.length c] w fun e w' => w' = w ∧ ∃ b : Nat, e = .returned (.int .i64 ((32 * (ds.length - 1) + b : Nat) : Int)) ∧ b ≤ 32 ∧ top < 2 ^ b ∧ (b = 0 ∨ 2 ^ (b - 1) ≤ top) := by
  obtain ⟨ad, rfl, _, hcc⟩ := RR_at hr h0
  have hcx := hcc _ top ht
  obtain ⟨m, hm⟩ : ∃ m, m = ds.length - 1 := ⟨_, rfl⟩
  rw [← hm] at hcx ⊢
  have HM := Lib.hid (show ((ds.length : Int) - 1) = (m : Int) by omega)
  have hml : m < ds.length := by omega
  have HW := Lib.hid (w64 m (by omega))
  have HL0 := Lib.hid (show ((ds.length : Int) == 0) = false by rw [beq_eq_false_iff_ne]; omega)
  have HW2 := Lib.hid (show wrap64 (32 * (m : Int)) = ((32 * m : Nat) : Int) by rw [show (32 * (m : Int)) = ((32 * m : Nat) : Int) by omega]; exact w64 _ (by omega))
  have HM10 := Lib.hid (show m ≤ 10000 by omega)
  have HT := Lib.hid htl
  obtain ⟨n, hn⟩ : ∃ n, n = ds.length := ⟨_, rfl⟩
  rw [← hn] at HM hml HL0 ⊢
  clear hcc hr ht hl h0 hm htl hn
  have e1 := HM.out
  have e2 := HW.out
  have e3 := HL0.out
  have e4 := HW2.out
  have hcx' : w.cell? (ad.add m) = some (.int .u32 (top : Int)) := hcx
  clear hcx
  go_enter Tryz.func158, Tryz.ntmps158
  go_wp2_with fail
  go_loopg [3, 4] 34 (fun gk v3 v4 wr => ∃ (i d : Nat), v3 = .int .i64 ((32 * m + i : Nat) : Int) ∧ v4 = .int .u32 (d : Int) ∧ Hid (d = top / 2 ^ i) ∧ Hid (i + gk = 34) ∧ Hid (i ≤ 32) ∧ Hid (i = 0 ∨ 2 ^ (i - 1) ≤ top) ∧ wr = w)
  case atStart => exact ⟨0, top, by rw [HW2.out]; rfl, rfl, by simp [Hid], rfl, Nat.zero_le _, Or.inl rfl, rfl⟩
  case round =>
    obtain ⟨i, d, rfl, rfl, HD, hgk, HI, HG, rfl⟩ := hrel
    by_cases hd : d = 0
    · subst hd
      have htp : top < 2 ^ i := by
        have h1 := HD.out
        have h2 : 0 < 2 ^ i := Nat.two_pow_pos i
        rcases Nat.lt_or_ge top (2 ^ i) with h | h
        · exact h
        · have := Nat.div_pos h h2
          omega
      have HTP := Lib.hid htp
      clear htp e1 e2 e3 e4
      go_wp2_with fail
      go_ret
      exact ⟨rfl, i, rfl, HI.out, HTP.out, HG.out⟩
    · have hdz : ((d : Int) != 0) = true := by rw [bne_iff_ne]; omega
      have hi32 : i < 32 := by
        rcases Nat.lt_or_ge i 32 with h | h
        · exact h
        · exfalso
          have h1 : i = 32 := by have := HI.out; omega
          have h2 := HD.out
          rw [h1] at h2
          have := HT.out
          omega
      have HH := Lib.hid (show top / 2 ^ (i + 1) = d / 2 by rw [HD.out, Nat.pow_succ, Nat.div_div_eq_div_mul])
      have HG2 := Lib.hid (show 2 ^ i ≤ top by
        rcases Nat.lt_or_ge top (2 ^ i) with h | h
        · exfalso
          have h2 := HD.out
          rw [Nat.div_eq_of_lt h] at h2
          exact hd h2
        · exact h)
      have HWI := Lib.hid (show wrap64 (32 * (m : Int) + (i : Int) + 1) = ((32 * m + (i + 1) : Nat) : Int) by rw [show 32 * (m : Int) + (i : Int) + 1 = ((32 * m + (i + 1) : Nat) : Int) by omega]; exact w64 _ (by have := HM10.out; omega))
      clear e1 e2 e3 e4
      go_wp2_with fail
      go_roundg (gk - 1)
      case measure => have := hgk.out; omega
      case rel =>
        have hg := hgk.out
        exact ⟨i + 1, d / 2, by rw [HWI.out], rfl, HH.out.symm, show _ = _ by omega, show _ ≤ _ by omega, Or.inr HG2.out, rfl⟩

set_option maxHeartbeats 400000 in
theorem BitLen_walk (g : Nat) (ok : Nat → Prop) (A : Option Addr) (c : Nat) (ds : List Nat) (top : Nat) (w : World) (v0 : Value) (hb : Blk w g 272 #[v0, .slice A ds.length c]) (hl : ds.length ≤ 10000) (h0 : 0 < ds.length) (ht : ds[ds.length - 1]? = some top) (htl : top < 4294967296) (hr : RR (lit natV) ok w A ds) :
    Calls Tryz.prog 146 #[.pointer (some ⟨g, 0, none⟩)] w fun e w' => w' = w ∧ ∃ b : Nat, e = .returned (.int .i64 ((32 * (ds.length - 1) + b : Nat) : Int)) ∧ b ≤ 32 ∧ top < 2 ^ b ∧ (b = 0 ∨ 2 ^ (b - 1) ≤ top) := by
  have HB := Lib.hid (bitLen_walk ok A c ds top w hl h0 ht htl hr)
  have k1 : w.cell? ⟨g, 1, none⟩ = some (.slice A ds.length c) := hb.cell 1
  clear hb hr ht htl hl h0
  go_enter Tryz.func146, Tryz.ntmps146
  go_wp2_with fail
  refine HB.out.mono ?_
  rintro e w1 ⟨hw, b, rfl, h1⟩
  have hw := hw.symm
  subst hw
  go_wp2_with fail
  go_ret
  exact ⟨rfl, b, rfl, h1⟩

end Go.Proofs.YtoeepfmmceilaaaGreatDoor
/- smallbig: FillBytes, Bytes, Sign. -/
set_option linter.unusedVariables false
set_option linter.unusedSimpArgs false
namespace Go.Proofs.YtoeepfmmceilaaaGreatDoor
open Go.RowKit

theorem td8 (k j : Nat) (h : j = k / 8) : (k : Int).tdiv 8 = (j : Int) := by rw [Int.tdiv_eq_ediv_of_nonneg (by omega)]; omega
theorem byte_m (d m : Nat) (y : UInt8) (h : d / 256 ^ m % 256 = y.toNat) : ((d : Int) / ((256 ^ m : Nat) : Int)) % 256 = (y.toNat : Int) := by
  rw [← h]
  rw [← Int.natCast_ediv]
  rfl
/-- A number's bytes, the highest first, have a highest byte. -/
def TopB (le : List UInt8) : Prop := 0 < le.length ∧ ∀ x, le[le.length - 1]? = some x → x ≠ 0
theorem digs_len {ds : List Nat} {le : List UInt8} (h : Digs ds le) (ht : TopB le) : 0 < ds.length ∧ (le.length - 1) / 4 < ds.length := by
  obtain ⟨x, hx⟩ : ∃ x, le[le.length - 1]? = some x := ⟨_, List.getElem?_eq_getElem (by have := ht.1; omega)⟩
  have hb := h.bytes (le.length - 1)
  have hx0 : x.toNat ≠ 0 := fun e => ht.2 x hx (UInt8.toNat_inj.1 e)
  rw [List.getD_eq_getElem?_getD, hx] at hb
  have hlt : (le.length - 1) / 4 < ds.length := by
    rcases Nat.lt_or_ge ((le.length - 1) / 4) ds.length with h1 | h1
    · exact h1
    · exfalso
      unfold byteAt at hb
      rw [List.getD_eq_getElem?_getD, List.getElem?_eq_none h1] at hb
      simp at hb
      exact hx0 hb.symm
  exact ⟨by omega, hlt⟩
/-- What bitLen answers, of a number with a highest byte. -/
theorem digs_bits {ds : List Nat} {le : List UInt8} (h : Digs ds le) (ht : TopB le) : ∃ top, ds[ds.length - 1]? = some top ∧ top < 4294967296 ∧ top ≠ 0 ∧ ∀ b : Nat, b ≤ 32 → top < 2 ^ b → (b = 0 ∨ 2 ^ (b - 1) ≤ top) → (32 * (ds.length - 1) + b + 7) / 8 = le.length ∧ ∀ x, le[le.length - 1]? = some x → ((32 * (ds.length - 1) + b) % 8 = 0 ↔ 128 ≤ x.toNat) := by
  have hne := (digs_len h ht).1
  obtain ⟨top, htop⟩ : ∃ t, ds[ds.length - 1]? = some t := ⟨_, List.getElem?_eq_getElem (by omega)⟩
  have hmem : top ∈ ds := List.mem_of_getElem? htop
  have h0 : top ≠ 0 := h.norm top (by rw [List.getLast?_eq_getElem?]; exact htop)
  refine ⟨top, htop, h.lt top hmem, h0, fun b b1 b2 b3 => ?_⟩
  have hb1 : 1 ≤ b := by
    rcases Nat.eq_zero_or_pos b with e | e
    · rw [e] at b2; simp at b2; omega
    · exact e
  refine digs_top h hne htop ⟨hb1, b1, ?_, b2⟩ ht.1 ht.2
  rcases b3 with e | e
  · omega
  · exact e

set_option maxRecDepth 100000 in
set_option maxHeartbeats 1600000 in
theorem fillBytes_walk (g : Nat) (ok : Nat → Prop) (A : Option Addr) (c : Nat) (ds : List Nat) (le : List UInt8) (gb : Nat) (cs0 : Array Value) (w : World) (v0 : Value) (hb : Blk w g 272 #[v0, .slice A ds.length c]) (hl : ds.length ≤ 10000) (hll : le.length ≤ 10000) (hd : Digs ds le) (ht : TopB le) (hr : RR (lit natV) ok w A ds)
    (hok : ∀ b, ok b → b ≠ gb) (hg : g ≠ gb) (hgb : Blk w gb 5 cs0) (hcs : cs0.size = le.length) :
    Calls Tryz.prog 232 #[.pointer (some ⟨g, 0, none⟩), .slice (some ⟨gb, 0, none⟩) le.length le.length] w fun e w' => e = .returned (.slice (some ⟨gb, 0, none⟩) le.length le.length) ∧ Keep (but gb) w w' ∧ Blk w' gb 5 (le.reverse.map byteV).toArray := by
  obtain ⟨hn0, hkn⟩ := digs_len hd ht
  obtain ⟨top, htop, htl, _, hbits⟩ := digs_bits hd ht
  have HBL := Lib.hid (bitLen_walk ok A c ds top w hl hn0 htop htl hr)
  have HBT := Lib.hid hbits
  have HD := Lib.hid hd
  have HR := Lib.hid hr
  have HB := Lib.hid hb
  have HGB := Lib.hid (And.intro hgb hcs)
  have HOK := Lib.hid hok
  obtain ⟨L, hL⟩ : ∃ L, L = le.length := ⟨_, rfl⟩
  rw [← hL] at HBT hkn hll ⊢
  have HLE := Lib.hid hL
  have k1 : w.cell? ⟨g, 1, none⟩ = some (.slice A ds.length c) := hb.cell 1
  have HKN := Lib.hid hkn
  have HLL := Lib.hid hll
  have HDL := Lib.hid hl
  obtain ⟨nd, hnd⟩ : ∃ nd, nd = ds.length := ⟨_, rfl⟩
  rw [← hnd] at HBL HBT HB k1 HKN HDL
  have HND := Lib.hid hnd
  clear hb hl hll hd ht hr hok hgb hcs hn0 htop hbits hL htl hkn hnd
  go_enter Tryz.func232, Tryz.ntmps232
  go_upto_region 1 with fail
  go_wp2_with fail
  refine HBL.out.mono ?_
  rintro e w1 ⟨hw, b, rfl, b1, b2, b3⟩
  have hw := hw.symm
  subst hw
  obtain ⟨hq, _⟩ := HBT.out b b1 b2 b3
  obtain ⟨bl, hbl⟩ : ∃ x, x = 32 * (nd - 1) + b := ⟨_, rfl⟩
  rw [← hbl] at hq ⊢
  have hbl2 : bl ≤ 400000 := by have := HDL.out; omega
  have E1 := Lib.hid (show wrap64 ((bl : Int) + 7) = (bl : Int) + 7 from w64 (bl + 7) (by omega))
  have E2 := Lib.hid (show ((bl : Int) + 7).tdiv 8 = (L : Int) from td8 (bl + 7) L hq.symm)
  have E3 := Lib.hid (w64 L (by have := HLL.out; omega))
  clear hbl hq b1 b2 b3 hbl2
  have e1 := E1.out
  have e2 := E2.out
  have e3 := E3.out
  go_wp2_with fail
  clear e1 e2 e3
  go_loopg [20] (L + 1) (fun gk v20 wr => ∃ (i : Nat) (cs : Array Value), v20 = .int .i64 (i : Int) ∧ i ≤ L ∧ Hid (i + gk = L + 1) ∧ Hid (Blk wr gb 5 cs) ∧ Hid (cs.size = L) ∧ Hid (∀ x y, x < i → le.reverse[x]? = some y → cs[x]? = some (byteV y)) ∧ Hid (Keep (but gb) w wr))
  case atStart => exact ⟨0, cs0, rfl, by omega, by simp [Hid], HGB.out.1, show _ = _ by rw [HGB.out.2, HLE.out], fun x y hx => by omega, Keep.refl _ _⟩
  case round =>
    obtain ⟨i, cs, rfl, hi, hgk, HC, HS, HV, HKP⟩ := hrel
    by_cases hlt : i < L
    · obtain ⟨k, hk⟩ : ∃ k, k = L - 1 - i := ⟨_, rfl⟩
      obtain ⟨n1, hn1⟩ : ∃ n1, n1 = L - 1 := ⟨_, rfl⟩
      obtain ⟨j, hj⟩ : ∃ j, j = k / 4 := ⟨_, rfl⟩
      have hll := HLL.out
      obtain ⟨y, hy⟩ : ∃ y, le.reverse[i]? = some y := ⟨_, List.getElem?_eq_getElem (by rw [List.length_reverse, ← HLE.out]; exact hlt)⟩
      have hyk : y = le.getD k 0 := by
        rw [List.getElem?_reverse (by have := HLE.out; omega), ← HLE.out] at hy
        rw [List.getD_eq_getElem?_getD, show k = L - 1 - i from hk, hy]
        rfl
      have hjn : j < nd := by have := HKN.out; omega
      obtain ⟨d, hdj⟩ : ∃ d, ds[j]? = some d := ⟨_, List.getElem?_eq_getElem (by rw [← HND.out]; exact hjn)⟩
      have hby : d / 256 ^ (k % 4) % 256 = y.toNat := by
        have h1 := HD.out.bytes k
        unfold byteAt at h1
        rw [← hj, List.getD_eq_getElem?_getD, hdj, ← hyk] at h1
        exact h1
      have E0 := Lib.hid (show (L : Int) - 1 = (n1 : Int) by omega)
      have E1' := Lib.hid (show (n1 : Int) - (i : Int) = (k : Int) by omega)
      have W0 := Lib.hid (w64 n1 (by omega))
      have W1 := Lib.hid (w64 k (by omega))
      have WJ := Lib.hid (w64 j (by omega))
      have WJ2 := Lib.hid (i64w j (by omega))
      have WI := Lib.hid (show wrap64 ((i : Int) + 1) = ((i + 1 : Nat) : Int) from w64 (i + 1) (by omega))
      have ED := Lib.hid (td4 k j hj)
      have HBY := Lib.hid hby
      have HY := Lib.hid hy
      have HK := Lib.hid (And.intro hk hj)
      have HHK : ∀ (W : World), Keep (but gb) wr W → W.cell? ⟨g, 1, none⟩ = some (.slice A nd c) ∧ ∃ ad, A = some ad ∧ W.cell? (ad.add j) = some (.int .u32 (d : Int)) := by
        intro W hkw
        have hk2 := HKP.out.trans hkw
        obtain ⟨ad, v, h1, _, h3, rfl⟩ := HR.out.keep (lit_steady _) (hk2.mono (fun b _ hb => HOK.out b hb)) j d hdj
        exact ⟨(HB.out.keep hk2 hg).cell 1, ad, h1, h3⟩
      obtain ⟨_, ad, rfl, _⟩ := HHK wr (Keep.refl _ _)
      have H0 := HHK (wr.setCell ⟨gb, i, none⟩ (.int .u8 0)) ((Keep.refl _ _).setCell (fun _ hn => hn rfl) _)
      have H0d := HHK (wr.setCell ⟨gb, i, none⟩ (.int .u8 0)).drew (((Keep.refl _ _).setCell (fun _ hn => hn rfl) _).drew)
      obtain ⟨q1, ad1, ha1, q2⟩ := H0
      obtain rfl : ad = ad1 := by injection ha1
      obtain ⟨old, hold⟩ : ∃ old, wr.cell? ⟨gb, i, none⟩ = some old := by
        rw [HC.out.cell i]
        exact ⟨_, Array.getElem?_eq_getElem (by rw [HS.out]; exact hlt)⟩
      have hfr := HC.out.frozen i
      have HC1 := HC.out.set_ i (.int .u8 0)
      have hold1 : (wr.setCell ⟨gb, i, none⟩ (.int .u8 0)).cell? ⟨gb, i, none⟩ = some (.int .u8 0) := (HC1.cell i).trans (Array.getElem?_setIfInBounds_self_of_lt (by rw [HS.out]; exact hlt))
      have hfr1 := HC1.frozen i
      have hjn2 : (j : Int) < (nd : Int) := by omega
      clear hy hyk hdj hby hk hn1 hj ha1 HHK HC1 H0d hll
      have e0 := E0.out
      have e1 := E1'.out
      have w0 := W0.out
      have w1 := W1.out
      have wj := WJ.out
      have wj2 := WJ2.out
      have ed := ED.out
      obtain ⟨c0, c8, c16, c24⟩ := i64l
      rcases (show k % 4 = 0 ∨ k % 4 = 1 ∨ k % 4 = 2 ∨ k % 4 = 3 by omega) with h | h | h | h
      · have em : (k : Int).tmod 4 = 0 := tm4 k 0 h
        have HVV := Lib.hid (show (d : Int) % 256 = (y.toNat : Int) by
          have h2 := HBY.out
          rw [h] at h2
          have h3 : d % 256 = y.toNat := by simpa using h2
          omega)
        go_wp2_with fail
        go_roundg (gk - 1)
        case measure => have := hgk.out; omega
        case rel =>
          have hg := hgk.out
          have hb9 := (HC.out.set_ i (.int .u8 0)).set_ i (.int .u8 ((d : Int) % 256))
          rw [HVV.out] at hb9 ⊢
          refine ⟨i + 1, _, by rw [WI.out], by omega, show _ = _ by omega, hb9, ?_, ?_, (HKP.out.setCell (fun _ hn => hn rfl) _).setCell (fun _ hn => hn rfl) _⟩
          · show _ = _
            rw [Array.size_setIfInBounds, Array.size_setIfInBounds]
            exact HS.out
          · intro x z hx hz
            by_cases hxi : x = i
            · subst hxi
              obtain rfl : y = z := Option.some.inj (HY.out.symm.trans hz)
              exact Array.getElem?_setIfInBounds_self_of_lt (by rw [Array.size_setIfInBounds, HS.out]; exact hlt)
            · rw [Array.getElem?_setIfInBounds_ne (by omega), Array.getElem?_setIfInBounds_ne (by omega)]
              exact HV.out x z (by omega) hz
      · have em : (k : Int).tmod 4 = 1 := tm4 k 1 h
        have HVV := Lib.hid (show (d : Int) / 256 % 256 = (y.toNat : Int) by
          have h2 := HBY.out
          rw [h] at h2
          have h3 : d / 256 % 256 = y.toNat := h2
          omega)
        go_wp2_with fail
        go_roundg (gk - 1)
        case measure => have := hgk.out; omega
        case rel =>
          have hg := hgk.out
          have hb9 := (HC.out.set_ i (.int .u8 0)).set_ i (.int .u8 ((d : Int) / 256 % 256))
          rw [HVV.out] at hb9 ⊢
          refine ⟨i + 1, _, by rw [WI.out], by omega, show _ = _ by omega, hb9, ?_, ?_, (HKP.out.setCell (fun _ hn => hn rfl) _).setCell (fun _ hn => hn rfl) _⟩
          · show _ = _
            rw [Array.size_setIfInBounds, Array.size_setIfInBounds]
            exact HS.out
          · intro x z hx hz
            by_cases hxi : x = i
            · subst hxi
              obtain rfl : y = z := Option.some.inj (HY.out.symm.trans hz)
              exact Array.getElem?_setIfInBounds_self_of_lt (by rw [Array.size_setIfInBounds, HS.out]; exact hlt)
            · rw [Array.getElem?_setIfInBounds_ne (by omega), Array.getElem?_setIfInBounds_ne (by omega)]
              exact HV.out x z (by omega) hz
      · have em : (k : Int).tmod 4 = 2 := tm4 k 2 h
        have HVV := Lib.hid (show (d : Int) / 65536 % 256 = (y.toNat : Int) by
          have h2 := HBY.out
          rw [h] at h2
          have h3 : d / 65536 % 256 = y.toNat := h2
          omega)
        go_wp2_with fail
        go_roundg (gk - 1)
        case measure => have := hgk.out; omega
        case rel =>
          have hg := hgk.out
          have hb9 := (HC.out.set_ i (.int .u8 0)).set_ i (.int .u8 ((d : Int) / 65536 % 256))
          rw [HVV.out] at hb9 ⊢
          refine ⟨i + 1, _, by rw [WI.out], by omega, show _ = _ by omega, hb9, ?_, ?_, (HKP.out.setCell (fun _ hn => hn rfl) _).setCell (fun _ hn => hn rfl) _⟩
          · show _ = _
            rw [Array.size_setIfInBounds, Array.size_setIfInBounds]
            exact HS.out
          · intro x z hx hz
            by_cases hxi : x = i
            · subst hxi
              obtain rfl : y = z := Option.some.inj (HY.out.symm.trans hz)
              exact Array.getElem?_setIfInBounds_self_of_lt (by rw [Array.size_setIfInBounds, HS.out]; exact hlt)
            · rw [Array.getElem?_setIfInBounds_ne (by omega), Array.getElem?_setIfInBounds_ne (by omega)]
              exact HV.out x z (by omega) hz
      · have em : (k : Int).tmod 4 = 3 := tm4 k 3 h
        have HVV := Lib.hid (show (d : Int) / 16777216 % 256 = (y.toNat : Int) by
          have h2 := HBY.out
          rw [h] at h2
          have h3 : d / 16777216 % 256 = y.toNat := h2
          omega)
        go_wp2_with fail
        go_roundg (gk - 1)
        case measure => have := hgk.out; omega
        case rel =>
          have hg := hgk.out
          have hb9 := (HC.out.set_ i (.int .u8 0)).set_ i (.int .u8 ((d : Int) / 16777216 % 256))
          rw [HVV.out] at hb9 ⊢
          refine ⟨i + 1, _, by rw [WI.out], by omega, show _ = _ by omega, hb9, ?_, ?_, (HKP.out.setCell (fun _ hn => hn rfl) _).setCell (fun _ hn => hn rfl) _⟩
          · show _ = _
            rw [Array.size_setIfInBounds, Array.size_setIfInBounds]
            exact HS.out
          · intro x z hx hz
            by_cases hxi : x = i
            · subst hxi
              obtain rfl : y = z := Option.some.inj (HY.out.symm.trans hz)
              exact Array.getElem?_setIfInBounds_self_of_lt (by rw [Array.size_setIfInBounds, HS.out]; exact hlt)
            · rw [Array.getElem?_setIfInBounds_ne (by omega), Array.getElem?_setIfInBounds_ne (by omega)]
              exact HV.out x z (by omega) hz
    · have hie : i = L := by omega
      subst hie
      have hrl : le.reverse.length = i := by rw [List.length_reverse, ← HLE.out]
      have HF := Lib.hid (show cs = (le.reverse.map byteV).toArray by
        have hx9 : ∀ x : Nat, cs[x]? = (le.reverse.map byteV)[x]? := by
          intro x
          rw [List.getElem?_map]
          by_cases hx : x < i
          · obtain ⟨z, hz⟩ : ∃ z, le.reverse[x]? = some z := ⟨_, List.getElem?_eq_getElem (by rw [hrl]; exact hx)⟩
            rw [hz]
            exact HV.out x z hx hz
          · rw [Array.getElem?_eq_none (by rw [HS.out]; omega), List.getElem?_eq_none (by rw [hrl]; omega)]
            rfl
        exact Array.ext' (List.ext_getElem? (fun x => by rw [Array.getElem?_toList]; exact hx9 x)))
      clear hrl
      go_wp2_with fail
      go_ret
      have h9 := HC.out
      rw [HF.out] at h9
      exact ⟨rfl, HKP.out, h9⟩

/-- Bytes: the highest first. -/
def MadeB (w : World) (l : List UInt8) (e : Ending) (w' : World) : Prop := ∃ gb : Nat, e = .returned (.slice (some ⟨gb, 0, none⟩) l.length l.length) ∧ w.heap.size ≤ gb ∧ Blk w' gb 5 (l.map byteV).toArray ∧ Below w.heap.size w w'
set_option maxRecDepth 100000 in
set_option maxHeartbeats 800000 in
theorem Bytes_walk (w : World) (v : Value) (le : List UInt8) (hv : BigAt (fun b => b < w.heap.size) w v le) (ht : TopB le) (hll : le.length ≤ 10000) : Calls Tryz.prog 220 #[v] w (MadeB w le.reverse) := by
  obtain ⟨g, A, ds, c, rfl, hg, hb, hc, hr, hd⟩ := hv
  have hdl : ds.length ≤ 10000 := by
    rcases Nat.lt_or_ge 10000 ds.length with h | h
    · exfalso
      obtain ⟨top, h1, h2, h3, _⟩ := digs_bits hd.out ht
      have h4 := hd.out.bytes (4 * (ds.length - 1))
      have h5 := hd.out.bytes (4 * (ds.length - 1) + 1)
      have h6 := hd.out.bytes (4 * (ds.length - 1) + 2)
      have h7 := hd.out.bytes (4 * (ds.length - 1) + 3)
      have z : ∀ k, 10000 ≤ k → (le.getD k 0).toNat = 0 := fun k hk => by rw [List.getD_eq_getElem?_getD, List.getElem?_eq_none (by omega)]; rfl
      have hgt : ds.getD (ds.length - 1) 0 = top := by rw [List.getD_eq_getElem?_getD, h1]; rfl
      rw [z _ (by omega)] at h4 h5 h6 h7
      unfold byteAt at h4 h5 h6 h7
      rw [show 4 * (ds.length - 1) / 4 = ds.length - 1 by omega, show 4 * (ds.length - 1) % 4 = 0 by omega, hgt] at h4
      rw [show (4 * (ds.length - 1) + 1) / 4 = ds.length - 1 by omega, show (4 * (ds.length - 1) + 1) % 4 = 1 by omega, hgt] at h5
      rw [show (4 * (ds.length - 1) + 2) / 4 = ds.length - 1 by omega, show (4 * (ds.length - 1) + 2) % 4 = 2 by omega, hgt] at h6
      rw [show (4 * (ds.length - 1) + 3) / 4 = ds.length - 1 by omega, show (4 * (ds.length - 1) + 3) % 4 = 3 by omega, hgt] at h7
      have p1 : (256 : Nat) ^ 0 = 1 := rfl
      have p2 : (256 : Nat) ^ 1 = 256 := rfl
      have p3 : (256 : Nat) ^ 2 = 65536 := rfl
      have p4 : (256 : Nat) ^ 3 = 16777216 := rfl
      rw [p1] at h4
      rw [p2] at h5
      rw [p3] at h6
      rw [p4] at h7
      omega
    · exact h
  obtain ⟨hn0, hkn⟩ := digs_len hd.out ht
  obtain ⟨top, htop, htl, _, hbits⟩ := digs_bits hd.out ht
  have HBL := Lib.hid (bitLen_walk (fun b => b < w.heap.size) A c ds top w hdl hn0 htop htl hr.out)
  have HBT := Lib.hid hbits
  have k1 : w.cell? ⟨g, 1, none⟩ = some (.slice A ds.length c) := hb.cell 1
  obtain ⟨L, hL⟩ : ∃ L, L = le.length := ⟨_, rfl⟩
  have hbm : Below w.heap.size w (w.alloc (.cells (zeros L) 5)) := (Below.refl _ _).alloc (Nat.le_refl _) _
  have hzs : (zeros L).size = L := by unfold zeros; exact size_madeCells _ _
  have HFB := Lib.hid (fillBytes_walk g (fun b => b < w.heap.size) A c ds le w.heap.size (zeros L) (w.alloc (.cells (zeros L) 5)) (.bool false) ((hbm.block g hb.lt).trans hb) hdl hll hd.out ht (hr.out.keep (lit_steady _) (Keep.of_below hbm)) (fun b hb => Nat.ne_of_lt hb) (Nat.ne_of_lt hb.lt) (Blk.new _ _ _) (by rw [hzs, hL]))
  rw [← hL] at HBT hll HFB
  have hmk : ∀ W : World, (Instr.makeSlice 28 (.int .i64 (L : Int)) (.int .i64 (L : Int))).run Tryz.prog W = .ok (.slice (some ⟨W.heap.size, 0, none⟩) L L) (W.alloc (.cells (zeros L) 5)) := fun W => run_make_bytes (P := Tryz.prog) Tryz.underlying28 info_u8 L (by omega) W
  have HLL := Lib.hid (And.intro hll hL)
  have HBM := Lib.hid hbm
  have HDL := Lib.hid hdl
  obtain ⟨nd, hnd⟩ : ∃ nd, nd = ds.length := ⟨_, rfl⟩
  rw [← hnd] at HBL HBT k1 HDL
  clear hb hc hr hd hdl hn0 hkn htop htl hbits hbm hzs hll hL hnd ht
  go_enter Tryz.func220, Tryz.ntmps220
  go_wp2_with fail
  refine HBL.out.mono ?_
  rintro e w1 ⟨hw, b, rfl, b1, b2, b3⟩
  have hw := hw.symm
  subst hw
  obtain ⟨hq, _⟩ := HBT.out b b1 b2 b3
  obtain ⟨bl, hbl⟩ : ∃ x, x = 32 * (nd - 1) + b := ⟨_, rfl⟩
  rw [← hbl] at hq ⊢
  have hbl2 : bl ≤ 400000 := by have := HDL.out; omega
  have E1 := Lib.hid (show wrap64 ((bl : Int) + 7) = (bl : Int) + 7 from w64 (bl + 7) (by omega))
  have E2 := Lib.hid (show ((bl : Int) + 7).tdiv 8 = (L : Int) from td8 (bl + 7) L hq.symm)
  have E3 := Lib.hid (w64 L (by have := HLL.out.1; omega))
  clear hbl hq b1 b2 b3 hbl2
  have e1 := E1.out
  have e2 := E2.out
  have e3 := E3.out
  go_wp2_with (go_at_call 232; refine HFB.out.mono ?_; rintro e w2 ⟨rfl, h1, h2⟩; have H1 := Lib.hid h1; have H2 := Lib.hid h2; clear h1 h2)
  go_ret
  have hrl : le.reverse.length = L := by rw [List.length_reverse, ← HLL.out.2]
  refine ⟨w.heap.size, by rw [hrl]; rfl, Nat.le_refl _, H2.out, ?_⟩
  have h1 := H1.out
  have h2 := HBM.out
  exact ⟨h1.os.trans h2.os, h1.tape.trans h2.tape, h1.output.trans h2.output, Nat.le_trans h2.size h1.size, fun k hk => (h1.block k (Nat.lt_of_lt_of_le hk h2.size) (Nat.ne_of_lt hk)).trans (h2.block k hk)⟩

set_option maxHeartbeats 400000 in
theorem Sign_walk (ok : Nat → Prop) (w : World) (v : Value) (le : List UInt8) (hv : BigAt ok w v le) (ht : TopB le) : Calls Tryz.prog 218 #[v] w fun e w' => e = .returned (.int .i64 1) ∧ w' = w := by
  obtain ⟨g, A, ds, c, rfl, hg, hb, hc, hr, hd⟩ := hv
  have hn0 := (digs_len hd.out ht).1
  have k0 : w.cell? ⟨g, 0, none⟩ = some (.bool false) := hb.cell 0
  have k1 : w.cell? ⟨g, 1, none⟩ = some (.slice A ds.length c) := hb.cell 1
  have hz : ((ds.length : Int) == 0) = false := by rw [beq_eq_false_iff_ne]; omega
  clear hb hc hr hd ht hn0
  go_enter Tryz.func218, Tryz.ntmps218
  go_wp2_with fail
  go_ret
  exact ⟨rfl, rfl⟩

end Go.Proofs.YtoeepfmmceilaaaGreatDoor
/- ssh.parseInt of a number that is not negative; ZzFields of RSA's structures; Unmarshal into zzRSAWire. -/
set_option linter.unusedVariables false
set_option linter.unusedSimpArgs false
namespace Go.Proofs.YtoeepfmmceilaaaGreatDoor
open Go.RowKit

theorem and_128 : ∀ d : Fin 256, bits .and .u8 (d.val : Int) 128 = if d.val < 128 then 0 else 128 := by decide +kernel
theorem and_128_of (x : Nat) (h : x < 128) : bits .and .u8 (x : Int) 128 = 0 := by
  have := and_128 ⟨x, by omega⟩
  rw [this, if_pos h]
theorem digs_pad {ds : List Nat} {le : List UInt8} (h : Digs ds (le ++ [0])) : Digs ds le := by
  refine ⟨h.lt, fun k => ?_, h.norm⟩
  rw [h.bytes k]
  congr 1
  rw [List.getD_eq_getElem?_getD, List.getD_eq_getElem?_getD]
  rcases Nat.lt_trichotomy k le.length with hk | hk | hk
  · rw [List.getElem?_append_left hk]
  · subst hk; simp
  · rw [List.getElem?_eq_none (by simp; omega), List.getElem?_eq_none (by omega)]
theorem digs_of_pad (bs : List UInt8) : Digs (digsOf (padP bs).reverse) bs.reverse := by
  match bs with
  | [] => exact digs_of _
  | x :: r =>
    by_cases h : 127 < x.toNat
    · have e : (padP (x :: r)).reverse = (x :: r).reverse ++ [0] := by simp [padP, h]
      rw [e]
      exact digs_pad (digs_of _)
    · have e : padP (x :: r) = x :: r := by simp [padP, h]
      rw [e]
      exact digs_of _
set_option maxRecDepth 100000 in
set_option maxHeartbeats 800000 in
theorem parseInt_pos (ok : Nat → Prop) (A : Option Addr) (c : Nat) (xs bs rest : List UInt8) (w : World) (hl : xs.length ≤ 100000) (hc : xs.length ≤ c) (hm : c ≤ 9223372036854775807) (hr : RR (lit byteV) ok w A xs) (h : psP xs = some (padP bs, rest)) :
    Calls Tryz.prog 157 #[.slice A xs.length c] w fun e w' => ∃ v A2 c2, e = .returned (.tuple #[v, .slice A2 rest.length c2, .bool true]) ∧ BigAt (fun b => w.heap.size ≤ b) w' v bs.reverse ∧ Byts ok w' (.slice A2 rest.length c2) rest ∧ Below w.heap.size w w' := by
  have HP := Lib.hid (parseStr_some ok A c xs (padP bs) rest w (by omega) hc hm hr h)
  have hpl := psP_le h
  obtain ⟨ps, hps⟩ : ∃ p, p = padP bs := ⟨_, rfl⟩
  have hpos : ∀ x r, ps = x :: r → x.toNat < 128 := by
    intro x r e
    rw [hps] at e
    match bs, e with
    | [], e => cases e
    | y :: t, e =>
      by_cases h9 : 127 < y.toNat
      · simp [padP, h9] at e
        rw [← e.1]; decide
      · simp [padP, h9] at e
        rw [← e.1]; omega
  have HDG := Lib.hid (show Digs (digsOf ps.reverse) bs.reverse by rw [hps]; exact digs_of_pad bs)
  rw [← hps] at HP hpl
  have HPL := Lib.hid hpl
  have HL := Lib.hid hl
  have HPOS := Lib.hid hpos
  clear hr h hc hm hl hps hpos hpl
  go_enter Tryz.func157, Tryz.ntmps157
  go_upto_region 4 with (go_at_call 101; refine HP.out.mono ?_; rintro e w2 ⟨A1, c1, A2, c2, rfl, h1, h2, h3⟩; have H1 := Lib.hid h1; have H2 := Lib.hid h2; have H3 := Lib.hid h3; clear h1 h2 h3)
  obtain ⟨W3, hW3⟩ : ∃ W, W = w2.alloc (.cells #[.bool false, .slice none 0 0] 272) := ⟨_, rfl⟩
  rw [← hW3]
  have hb3 : Below w2.heap.size w2 W3 := by rw [hW3]; exact (Below.refl _ _).alloc (Nat.le_refl _) _
  have hk3 : Blk W3 w2.heap.size 272 #[.bool false, .slice none 0 0] := by rw [hW3]; exact Blk.new _ _ _
  have hr3 : RR (lit byteV) ok W3 A1 ps := (byts_parts H1.out).2.2.keep (lit_steady _) (Keep.of_below hb3)
  have hpl2 : ps.length ≤ 100000 := by have := HPL.out; have := HL.out; omega
  have HSB := Lib.hid (setBytes_walk ok A1 c1 ps W3 w2.heap.size (.bool false) (.slice none 0 0) hpl2 hr3 hk3)
  have HB3 := Lib.hid hb3
  have HR3 := Lib.hid hr3
  have hz3 := Lib.hid (show w2.heap.size ≤ W3.heap.size from hb3.size)
  have HFIN : ∀ (w9 : World), SbEnd W3 w2.heap.size ps.reverse (.returned (.pointer (some ⟨w2.heap.size, 0, none⟩))) w9 → BigAt (fun b => w.heap.size ≤ b) w9 (.pointer (some ⟨w2.heap.size, 0, none⟩)) bs.reverse ∧ Byts ok w9 (.slice A2 rest.length c2) rest ∧ Below w.heap.size w w9 := by
    intro w9 hsb
    obtain ⟨_, hk9, A9, c9, hb9, hc9, hr9⟩ := hsb
    have hk39 : Below w2.heap.size w2 w9 := by
      refine ⟨hk9.os.trans hb3.os, hk9.tape.trans hb3.tape, hk9.output.trans hb3.output, Nat.le_trans hb3.size hk9.size, fun k hk => (hk9.block k (Nat.lt_of_lt_of_le hk hb3.size) (Nat.ne_of_lt hk)).trans (hb3.block k hk)⟩
    refine ⟨⟨w2.heap.size, A9, _, c9, rfl, H3.out.size, hb9, hc9, hr9.mono (lit_steady _) (fun b _ hb => Nat.le_trans (Nat.le_trans H3.out.size hb3.size) hb), HDG.out⟩, ?_, H3.out.trans (hk39.mono H3.out.size)⟩
    exact bytes_steady.keep H2.out (Keep.of_below hk39)
  have HFIN := Lib.hid HFIN
  clear hW3 hb3 hk3 hr3 hpl2
  cases ps with
  | nil =>
    go_wp2_with (go_at_call 163; refine HSB.out.mono ?_; intro e w9 hsb; obtain ⟨rfl, hsb2⟩ := hsb; have HS9 := Lib.hid (HFIN.out w9 ⟨rfl, hsb2⟩); clear hsb2)
    go_ret3
    exact ⟨_, A2, c2, rfl, HS9.out⟩
  | cons x r =>
    have hx := HPOS.out x r rfl
    have ea := and_128_of x.toNat hx
    obtain ⟨ad, rfl, _, hcc⟩ := RB.at HR3.out (by simp)
    have hcx : W3.cell? ad = some (.int .u8 (x.toNat : Int)) := hcc 0 x rfl
    clear hcc hx
    obtain ⟨ys, hys⟩ : ∃ ys, ys = x :: r := ⟨_, rfl⟩
    have hy0 : (0 < ys.length) = True := eq_true (by rw [hys]; simp)
    rw [← hys] at HSB HFIN ⊢
    clear hys
    go_wp2_with (go_at_call 163; refine HSB.out.mono ?_; intro e w9 hsb; obtain ⟨rfl, hsb2⟩ := hsb; have HS9 := Lib.hid (HFIN.out w9 ⟨rfl, hsb2⟩); clear hsb2)
    go_ret3
    exact ⟨_, A2, c2, rfl, HS9.out⟩

end Go.Proofs.YtoeepfmmceilaaaGreatDoor
