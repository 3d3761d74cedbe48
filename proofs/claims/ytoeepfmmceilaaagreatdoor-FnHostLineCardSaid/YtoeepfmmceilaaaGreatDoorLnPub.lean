/- ssh.parsePubKey, ssh.ParsePublicKey of any key that is asked. -/
import Derived.Test.YtoeepfmmceilaaaGreatDoorLnRsaS
import Derived.Test.YtoeepfmmceilaaaGreatDoorLnKeyG
set_option linter.unusedVariables false
set_option linter.unusedSimpArgs false
namespace Go.Proofs.YtoeepfmmceilaaaGreatDoor
open Go.RowKit

/-- A key as the parser hands it out. -/
def PubAt (ok : Nat → Prop) (w : World) (v : Value) (K : KeyP) : Prop :=
  (K.kind = 0 ∧ K.pt.length = 32 ∧ EdPub ok w v K.pt) ∨ (K.kind = 1 ∧ FitEN K.e K.n ∧ RsaPub ok w v K.e K.n) ∨ (K.kind = 2 ∧ K.pt.length = 32 ∧ K.app.length ≤ 50 ∧ SkPub ok w v K.pt K.app)
/-- How parsePubKey ends. -/
def PubEnd (ok : Nat → Prop) (K : KeyP) (w : World) (e : Ending) (w' : World) : Prop := ∃ T u A2 c2, e = .returned (.tuple #[.iface T u, .slice A2 0 c2, .nilIface]) ∧ PubAt ok w' (.iface T u) K ∧ Below w.heap.size w w'
theorem dropZ_ne {x : UInt8} {r : List UInt8} (h : x ≠ 0) : dropZ (x :: r) = x :: r := by
  unfold dropZ
  rw [if_neg h]
theorem dropZ_first {l : List UInt8} {x : UInt8} (h : l[0]? = some x) (hx : x ≠ 0) : dropZ l = l := by
  match l, h with
  | y :: r, h => injection h with h; subst h; exact dropZ_ne hx
theorem topB_first {l : List UInt8} {x : UInt8} (h : l[0]? = some x) (hx : x ≠ 0) : TopB l.reverse := by
  match l, h with
  | y :: r, h =>
    injection h with h
    subst h
    refine ⟨by simp, fun z hz => ?_⟩
    rw [List.getElem?_reverse (by simp)] at hz
    simp at hz
    subst hz
    exact hx
theorem fitEN_of {K : KeyP} (h : FitK K) (hk : K.kind = 1) : FitEN K.e K.n ∧ dropZ K.e = K.e ∧ dropZ K.n = K.n := by
  rcases h with h | h | h
  · exact absurd (hk.symm.trans h.1) (by decide)
  · obtain ⟨_, _, _, ⟨x, l, hx, hl, hx0, hl1, hb⟩, he3, hn1, hn2, y, hy, hy1⟩ := h
    have hy0 : y ≠ 0 := fun e => by subst e; exact absurd hy1 (by decide)
    refine ⟨⟨he3, hn2, topB_first hx hx0, topB_first hy hy0, ?_, ?_⟩, dropZ_first hx hx0, dropZ_first hy hy0⟩
    · have hxz : x.toNat ≠ 0 := fun e => hx0 (UInt8.toNat_inj.1 e)
      revert hx hl hb he3
      generalize K.e = E
      intro hx hl hb he3
      match E, hx, hl, hb, he3 with
      | [a], hx, hl, hb, he3 =>
        injection hx with hx
        subst hx
        simp at hb
        simp [eV]
        omega
      | [a, b], hx, hl, hb, he3 =>
        injection hx with hx
        subst hx
        simp [eV]
        omega
      | [a, b, c], hx, hl, hb, he3 =>
        injection hx with hx
        subst hx
        simp [eV]
        omega
    · revert hl he3 hx
      generalize K.e = E
      intro hx hl he3
      match E, hl, he3, hx with
      | [a], hl, he3, hx =>
        injection hl with hl
        subst hl
        simp [eV]
        omega
      | [a, b], hl, he3, hx =>
        injection hl with hl
        subst hl
        simp [eV]
        omega
      | [a, b, c], hl, he3, hx =>
        injection hl with hl
        subst hl
        simp [eV]
        omega
  · exact absurd (hk.symm.trans h.1) (by decide)

theorem keyBytesP_len {K : KeyP} (h : FitK K) : (keyBytesP K).length ≤ 10000 := by
  have hn := nameK_len K.kind
  have l5 := mulP_len K.e
  have l6 := mulP_len K.n
  unfold keyBytesP keyBodyP
  rw [List.length_append, strP_len_]
  rcases h with h | h | h
  · obtain ⟨h0, h1, h2, h3, h4⟩ := h
    rw [if_neg (by omega), if_neg (by omega), strP_len_]
    omega
  · obtain ⟨h0, h1, h2, _, h3, _, h4, _⟩ := h
    rw [if_pos h0, List.length_append]
    omega
  · obtain ⟨h0, h1, h2, _⟩ := h
    rw [if_neg (by omega), if_pos h0, List.length_append, strP_len_, strP_len_]
    omega
set_option maxRecDepth 100000 in
set_option maxHeartbeats 1000000 in
theorem pubKey_rsa (A : Option Addr) (c : Nat) (xs ys E N : List UInt8) (w : World) (hf : FitEN E N) (hl : xs.length ≤ 10000) (hc : xs.length ≤ c) (hm : c ≤ 9223372036854775807) (hx : psP xs = some (padP E, ys)) (hy : psP ys = some (padP N, [])) (hr : RR (lit byteV) (fun b => b < w.heap.size) w A xs) :
    Calls Tryz.prog 102 #[.slice A xs.length c, .string ⟨nameRsa.toArray⟩] w fun e w' => ∃ v A2 c2, e = .returned (.tuple #[v, .slice A2 0 c2, .nilIface]) ∧ RsaPub (fun b => w.heap.size ≤ b) w' v E N ∧ Below w.heap.size w w' := by
  have HP := Lib.hid (parseRsa_walk A c xs ys E N w hf hl hc hm hx hy hr)
  clear hr hc hl hx hy hf
  unfold nameRsa
  go_enter Tryz.func102, Tryz.ntmps102
  go_wp2_with (go_at_call 129; refine HP.out.mono ?_; rintro e w2 ⟨v, A2, c2, rfl, h1, h2⟩)
  go_ret3
  exact ⟨v, A2, c2, rfl, h1, h2⟩
set_option maxRecDepth 100000 in
set_option maxHeartbeats 1000000 in
theorem pubKey_sk (ok : Nat → Prop) (A : Option Addr) (c : Nat) (pt ap : List UInt8) (w : World) (hl : pt.length = 32) (ha : ap.length ≤ 1000) (hc : (strP pt ++ strP ap).length ≤ c) (hm : c ≤ 9223372036854775807) (hok : ∀ b, ok b → b < w.heap.size) (hr : RR (lit byteV) ok w A (strP pt ++ strP ap)) :
    Calls Tryz.prog 102 #[.slice A (strP pt ++ strP ap).length c, .string ⟨nameSk.toArray⟩] w fun e w' => ∃ v A2 c2, e = .returned (.tuple #[v, .slice A2 0 c2, .nilIface]) ∧ SkPub (fun b => ok b ∨ w.heap.size ≤ b) w' v pt ap ∧ Below w.heap.size w w' := by
  have HP := Lib.hid (parseSk_walk ok A c pt ap w hl ha hc hm hok hr)
  clear hr hc hl hok ha
  obtain ⟨xs, hxs⟩ : ∃ xs, xs = strP pt ++ strP ap := ⟨_, rfl⟩
  rw [← hxs] at HP ⊢
  clear hxs
  unfold nameSk
  go_enter Tryz.func102, Tryz.ntmps102
  go_wp2_with (go_at_call 131; refine HP.out.mono ?_; rintro e w2 ⟨v, A2, c2, rfl, h1, h2⟩)
  go_ret3
  exact ⟨v, A2, c2, rfl, h1, h2⟩
set_option maxRecDepth 100000 in
set_option maxHeartbeats 1000000 in
theorem pubKey_k (A : Option Addr) (c : Nat) (K : KeyP) (w : World) (n0 : Nat) (hn0 : n0 ≤ w.heap.size) (hf : FitK K) (hc : (keyBodyP K).length ≤ c) (hm : c ≤ 9223372036854775807) (hr : RR (lit byteV) (fun b => n0 ≤ b ∧ b < w.heap.size) w A (keyBodyP K)) :
    Calls Tryz.prog 102 #[.slice A (keyBodyP K).length c, .string ⟨(nameK K.kind).toArray⟩] w (PubEnd (fun b => n0 ≤ b) K w) := by
  have h3 : K.kind = 0 ∨ K.kind = 1 ∨ K.kind = 2 := by
    rcases hf with h | h | h
    · exact Or.inl h.1
    · exact Or.inr (Or.inl h.1)
    · exact Or.inr (Or.inr h.1)
  rcases h3 with h | h | h
  · have hl : K.pt.length = 32 := by
      rcases hf with hf | hf | hf
      · exact hf.2.1
      · exact absurd (h.symm.trans hf.1) (by decide)
      · exact absurd (h.symm.trans hf.1) (by decide)
    have hb : keyBodyP K = strP K.pt := by unfold keyBodyP; rw [h]; rfl
    have hn : nameK K.kind = nameEd := by rw [h]; rfl
    rw [hb] at hc hr ⊢
    rw [hn]
    refine (pubKey_ed (fun b => n0 ≤ b ∧ b < w.heap.size) A c K.pt w hl hc hm (fun b hb => hb.2) hr).mono ?_
    rintro e w' ⟨v, A2, c2, rfl, ⟨A3, c3, rfl, h1, h2, h3⟩, h4⟩
    exact ⟨_, _, A2, c2, rfl, Or.inl ⟨h, hl, A3, c3, rfl, h1, h2, h3.mono (lit_steady _) (fun b _ hb => hb.1)⟩, h4⟩
  · obtain ⟨hfe, he, hn⟩ := fitEN_of hf h
    have hb : keyBodyP K = mulP K.e ++ mulP K.n := by unfold keyBodyP; rw [h]; rfl
    have hnm : nameK K.kind = nameRsa := by rw [h]; rfl
    rw [hb] at hc hr ⊢
    rw [hnm]
    have l1 := padP_len K.e
    have l2 := padP_len K.n
    have l3 := hfe.el
    have l4 := hfe.nl
    have l5 := mulP_len K.e
    have l6 := mulP_len K.n
    have q1 : psP (mulP K.e ++ mulP K.n) = some (padP K.e, mulP K.n) := by
      have := psP_str (padP K.e) (mulP K.n) (by omega)
      unfold mulP at this ⊢
      rw [he]
      exact this
    have q2 : psP (mulP K.n) = some (padP K.n, []) := by
      have := psP_str (padP K.n) [] (by omega)
      rw [List.append_nil] at this
      unfold mulP
      rw [hn]
      exact this
    refine (pubKey_rsa A c _ _ K.e K.n w hfe (by rw [List.length_append]; omega) hc hm q1 q2 (hr.mono (lit_steady _) (fun b _ hb => hb.2))).mono ?_
    rintro e w2 ⟨v, A2, c2, rfl, ⟨g, gn, rfl, h3, h4, h5⟩, h2⟩
    exact ⟨_, _, A2, c2, rfl, Or.inr (Or.inl ⟨h, hfe, g, gn, rfl, Nat.le_trans hn0 h3, h4, h5.mono (fun b _ hb => Nat.le_trans hn0 hb)⟩), h2⟩
  · obtain ⟨hl, ha⟩ : K.pt.length = 32 ∧ K.app.length ≤ 50 := by
      rcases hf with hf | hf | hf
      · exact absurd (h.symm.trans hf.1) (by decide)
      · exact absurd (h.symm.trans hf.1) (by decide)
      · exact ⟨hf.2.1, hf.2.2.1⟩
    have hb : keyBodyP K = strP K.pt ++ strP K.app := by unfold keyBodyP; rw [h]; rfl
    have hnm : nameK K.kind = nameSk := by rw [h]; rfl
    rw [hb] at hc hr ⊢
    rw [hnm]
    refine (pubKey_sk (fun b => n0 ≤ b ∧ b < w.heap.size) A c K.pt K.app w hl (by omega) hc hm (fun b hb => hb.2) hr).mono ?_
    rintro e w2 ⟨v, A2, c2, rfl, ⟨g, A3, c3, rfl, h3, h4, h5, h6, h7⟩, h2⟩
    exact ⟨_, _, A2, c2, rfl, Or.inr (Or.inr ⟨h, hl, ha, g, A3, c3, rfl, h3.elim (fun h => h.1) (fun h => Nat.le_trans hn0 h), h4, h5, h6, h7.mono (lit_steady _) (fun b _ hb => hb.elim (fun h => h.1) (fun h => Nat.le_trans hn0 h))⟩), h2⟩

set_option maxRecDepth 100000 in
set_option maxHeartbeats 1000000 in
theorem parsePub_k (A : Option Addr) (c : Nat) (K : KeyP) (w : World) (n0 : Nat) (hn0 : n0 ≤ w.heap.size) (hf : FitK K) (hc : (keyBytesP K).length ≤ c) (hm : c ≤ 9223372036854775807) (hr : RR (lit byteV) (fun b => n0 ≤ b ∧ b < w.heap.size) w A (keyBytesP K)) :
    Calls Tryz.prog 71 #[.slice A (keyBytesP K).length c] w fun e w' => ∃ T u, e = .returned (.tuple #[.iface T u, .nilIface]) ∧ PubAt (fun b => n0 ≤ b) w' (.iface T u) K ∧ Below w.heap.size w w' := by
  have hkl : (keyBytesP K).length ≤ 10000 := keyBytesP_len hf
  have HS := Lib.hid (parseStr_some (fun b => n0 ≤ b ∧ b < w.heap.size) A c (keyBytesP K) (nameK K.kind) (keyBodyP K) w (by omega) hc hm hr (psP_str (nameK K.kind) (keyBodyP K) (by have := nameK_len K.kind; omega)))
  have HP := Lib.hid (fun (W : World) (A : Option Addr) (c : Nat) (hz : w.heap.size ≤ W.heap.size) (hb : Byts (fun b => n0 ≤ b ∧ b < w.heap.size) W (.slice A (keyBodyP K).length c) (keyBodyP K)) => pubKey_k A c K W n0 (Nat.le_trans hn0 hz) hf (byts_parts hb).1 (byts_parts hb).2.1 ((byts_parts hb).2.2.mono (lit_steady _) (fun b _ hb => ⟨hb.1, Nat.lt_of_lt_of_le hb.2 hz⟩)))
  clear hr hc hkl hf hn0
  go_enter Tryz.func71, Tryz.ntmps71
  go_wp2_with (first
    | (go_at_call 101; refine HS.out.mono ?_; rintro e w2 ⟨A1, c1, A2, c2, rfl, h1, h2, h3⟩; have hcv := run_to_string (P := Tryz.prog) Tryz.underlying28 Tryz.underlying5 Tryz.underlying9 c1 (byts_parts h1).2.2; have H2 := Lib.hid h2; have H3 := Lib.hid h3; clear h1 h2 h3)
    | (go_at_call 102; refine (HP.out w2 A2 c2 H3.out.size H2.out).mono ?_; rintro e w3 ⟨T, u, A3, c3, rfl, h4, h5⟩; have H4 := Lib.hid h4; have H5 := Lib.hid h5; clear h4 h5))
  go_ret2
  exact ⟨T, u, rfl, H4.out, H3.out.trans (H5.out.mono H3.out.size)⟩

end Go.Proofs.YtoeepfmmceilaaaGreatDoor
