/- laws.FnAgreedOn: the walk. -/
import Derived.Test.YtmblpmmnglmjfaaGreatDoorAgOn
import Derived.Test.YtmblpmmnglmjfaaGreatDoorAgAns
import Derived.Test.YtmblpmmnglmjfaaGreatDoorAgFits
set_option linter.unusedVariables false
set_option linter.unusedSimpArgs false
namespace Go.Proofs.YtmblpmmnglmjfaaGreatDoor
open Go.RowKit

theorem RR.in_lt {α : Type} {enc : α → Value} {ok : Nat → Prop} {w : World} {A : Option Addr} {xs : List α} (h : RR (lit enc) ok w A xs) : RR (lit enc) (fun b => b < w.heap.size) w A xs := fun i x hx => by
  obtain ⟨ad, v, h1, _, h3, h4⟩ := h i x hx
  exact ⟨ad, v, h1, by have := blk_lt_of_cell h3; rwa [add_block] at this, h3, h4⟩
/-- The lists of one side, each by its value. -/
theorem in_all {w : World} {A : Option Addr} {xs : List (List (List UInt8))} (h : RR Strs all_ w A xs) (h10 : xs.length = 10) (hl : ∀ l ∈ xs, l.length ≤ 1000) :
    ∃ (ad : Addr) (B : Nat → Option Addr) (b : Nat → Nat), A = some ad ∧ ∀ i, i < 10 → In1 w ad i (xs.getD i []) (B i) (b i) := by
  obtain ⟨ad, rfl, _, hc⟩ := h.addr (by omega)
  have : ∀ i, ∃ q : Option Addr × Nat, i < 10 → In1 w ad i (xs.getD i []) q.1 q.2 := fun i => by
    by_cases hi : i < 10
    · have hx : xs[i]? = some xs[i] := List.getElem?_eq_getElem (by omega)
      obtain ⟨v, h1, A2, c2, rfl, _, _, hr⟩ := hc i _ hx
      refine ⟨(A2, c2), fun _ => ?_⟩
      have hd : xs.getD i [] = xs[i] := by rw [List.getD_eq_getElem?_getD, hx]; rfl
      rw [hd]
      exact ⟨h1, hr.in_lt, hl _ (List.getElem_mem _)⟩
    · exact ⟨(none, 0), fun h => absurd h hi⟩
  obtain ⟨q, hq⟩ := Classical.skolem.1 this
  exact ⟨ad, fun i => (q i).1, fun i => (q i).2, rfl, hq⟩
/-- Lists of lists as the values that they are. -/
def trioV (q : Option Addr × Nat × Nat) : Value := .slice q.1 q.2.1 q.2.2
theorem trios {w : World} {ok : Nat → Prop} {A : Option Addr} {xs : List (List (List UInt8))} (h : RR Strs ok w A xs) : ∃ qs : List (Option Addr × Nat × Nat), qs.length = xs.length ∧ RR (lit trioV) ok w A qs ∧ Each Strs ok w (qs.map trioV) xs := by
  have : ∀ i, ∃ q : Option Addr × Nat × Nat, ∀ x, xs[i]? = some x → ∃ ad, A = some ad ∧ ok ad.block ∧ w.cell? (ad.add i) = some (trioV q) ∧ Strs ok w (trioV q) x := fun i => by
    cases hx : xs[i]? with
    | none => exact ⟨(none, 0, 0), fun x h => by cases h⟩
    | some x =>
      obtain ⟨ad, v, h1, h2, h3, h4⟩ := h i x hx
      have h4' := h4
      obtain ⟨A2, c2, rfl, _⟩ := h4'
      exact ⟨(A2, x.length, c2), fun y hy => by injection hy with hy; subst hy; exact ⟨ad, h1, h2, h3, h4⟩⟩
  obtain ⟨q, hq⟩ := Classical.skolem.1 this
  refine ⟨(List.range xs.length).map q, by simp, fun i v hv => ?_, by simp, fun i v x hv hx => ?_⟩
  · rw [List.getElem?_map] at hv
    obtain ⟨j, hj, rfl⟩ := Option.map_eq_some_iff.1 hv
    obtain ⟨h1, h2⟩ := List.getElem?_eq_some_iff.1 hj
    have h3 : i < xs.length := by simpa using h1
    have h4 : i = j := by simpa using h2
    subst h4
    obtain ⟨ad, a1, a2, a3, _⟩ := hq i _ (List.getElem?_eq_getElem h3)
    exact ⟨ad, _, a1, a2, a3, rfl⟩
  · rw [List.getElem?_map, List.getElem?_map] at hv
    obtain ⟨u, hu, rfl⟩ := Option.map_eq_some_iff.1 hv
    obtain ⟨j, hj, rfl⟩ := Option.map_eq_some_iff.1 hu
    obtain ⟨h1, h2⟩ := List.getElem?_eq_some_iff.1 hj
    have h4 : i = j := by simpa using h2
    subst h4
    obtain ⟨ad, _, _, _, a4⟩ := hq i _ hx
    exact a4
theorem info_strs2 : (Tryz.prog.info? 22).map (fun i => (i.zero, i.size, i.bytes)) = some (some (.slice none 0 0), 1, 24) := by kernel_rfl

/-- What the law wants, and whether all is found, after so many. -/
def okP (g : Nat → Option (List UInt8)) : Nat → Bool
  | 4 => (macP ((g 2).getD []) (g 4)).isSome
  | 5 => (macP ((g 3).getD []) (g 5)).isSome
  | i => (g i).isSome
def wantL (g : Nat → Option (List UInt8)) (k : Nat) : List (List UInt8) := (List.range k).map (wantP g)
def okL (g : Nat → Option (List UInt8)) (k : Nat) : Bool := (List.range k).all (okP g)
theorem wantL_succ (g : Nat → Option (List UInt8)) (k : Nat) : wantL g (k + 1) = wantL g k ++ [wantP g k] := by simp [wantL, List.range_succ]
theorem okL_succ (g : Nat → Option (List UInt8)) (k : Nat) : okL g (k + 1) = (okL g k && okP g k) := by simp [okL, List.range_succ]
theorem wantL_len (g : Nat → Option (List UInt8)) (k : Nat) : (wantL g k).length = k := by simp [wantL]
theorem okL_all (g : Nat → Option (List UInt8)) : okL g 8 = allP g := by
  simp [okL, allP, okP, List.range_succ, Bool.and_assoc]
theorem wantP_plain (g : Nat → Option (List UInt8)) {k : Nat} (h4 : k ≠ 4) (h5 : k ≠ 5) : wantP g k = (g k).getD [] ∧ okP g k = (g k).isSome := by
  constructor
  · unfold wantP; split <;> simp_all
  · unfold okP; split <;> simp_all
theorem wantL_at (g : Nat → Option (List UInt8)) {k i : Nat} (h : i < k) : (wantL g k)[i]? = some (wantP g i) := by simp [wantL, h]
section
variable {P : Program}
theorem wpList_pushN {w : World} {ops : Array Oper} {rest : List Oper} {o : Oper} {a : Act} {Q : Exit → Act → World → Prop} (hgd : o.guard = none) (s x : Operand) (t : TypeId)
    (ho : o.op = .call { callee := .builtin .append, args := #[s, x], argTypes := #[t, t] })
    (base : Nat) (e : TypeId) (z : Value) (bytes : Nat) (ht : P.underlying t = some (.slice e)) (hinfo : (P.info? e).map (fun i => (i.zero, i.size, i.bytes)) = some (some z, 1, bytes)) (hz1 : z.cells.size = 1)
    (v : Value) (xs : List Value) (n : Nat) (hn : xs.length = n) (hs : a.eval s = v) (hown : w.ownsRow base e 1 v n xs) (b : Nat) (u : Value) (hx : a.eval x = .slice (some ⟨b, 0, none⟩) 1 1) (hb : Blk w b e #[u]) (h1 : u.oneCell' = true)
    (h63 : n + 1 ≤ 9223372036854775807) (hbytes : (n + 1) * bytes ≤ 140737488355328) (hbase : base ≤ w.heap.size)
    (h : ∀ (A' : Option Addr) (c' : Nat) w', w'.ownsRow base e 1 (.slice A' (n + 1) c') (n + 1) (xs ++ [u]) → w.grownBy w' v.ownBlock → ((Value.slice A' (n + 1) c').ownBlock = v.ownBlock ∨ ∃ k, (Value.slice A' (n + 1) c').ownBlock = some k ∧ w.heap.size ≤ k) → wpList P ops Q rest (a.put o.dst (.slice A' (n + 1) c')) w') :
    wpList P ops Q (o :: rest) a w := by
  subst hn
  refine wpList_push hgd s x t ho base e z bytes ht hinfo hz1 v xs hs hown b u hx hb h1 h63 hbytes hbase ?_
  intro A' c' w' h2 h3 h4
  refine h A' c' w' ?_ h3 h4
  simpa using h2
end
theorem below_dN (w : World) (n : Nat) : Below w.heap.size w (w.drewN n) := ⟨rfl, rfl, rfl, Nat.le_refl _, fun _ _ => rfl⟩
theorem eight_at (g : Nat → Option (List UInt8)) {j : Nat} (h : j < 8) : (eightV g)[j]? = some (strV (wantP g j)) := by
  have : j = 0 ∨ j = 1 ∨ j = 2 ∨ j = 3 ∨ j = 4 ∨ j = 5 ∨ j = 6 ∨ j = 7 := by omega
  rcases this with rfl | rfl | rfl | rfl | rfl | rfl | rfl | rfl <;> simp [eightV]
/-- What the third loop keeps. -/
structure Wnt (w0 : World) (g : Nat → Option (List UInt8)) (k : Nat) (A9 : Option Addr) (c9 : Nat) (wr : World) : Prop where
  own : wr.ownsRow w0.heap.size 9 1 (.slice A9 k c9) k ((wantL g k).map strV)
  hb : Below w0.heap.size w0 wr
theorem Wnt.push {w0 : World} {g : Nat → Option (List UInt8)} {k : Nat} {A9 : Option Addr} {c9 : Nat} {wr wx w' : World} (h : Wnt w0 g k A9 c9 wr) (hx : Below wr.heap.size wr wx) {A' : Option Addr} {c' : Nat} {y : List UInt8} (hy : wantP g k = y)
    (hown : w'.ownsRow w0.heap.size 9 1 (.slice A' (k + 1) c') (k + 1) ((wantL g k).map strV ++ [strV y])) (hg : wx.grownBy w' (Value.slice A9 k c9).ownBlock) : Wnt w0 g (k + 1) A' c' w' := by
  refine ⟨by rw [wantL_succ, hy]; simpa using hown, ?_⟩
  exact (h.hb.trans (hx.mono h.hb.size)).grown hg (Nat.le_trans h.hb.size hx.size) (fun q hq => own_block_lt_ h.own hq)

set_option maxRecDepth 100000 in
set_option maxHeartbeats 6400000 in
theorem fnagreed_walk (w0 : World) (A0 A1 : Option Addr) (c0 c1 : Nat) (cl sv : List (List (List UInt8))) (hm0 : cl.length ≤ 9223372036854775807) (hm1 : sv.length ≤ 9223372036854775807) (h0 : RR Strs all_ w0 A0 cl) (h1 : RR Strs all_ w0 A1 sv) (T : TypeId) (v : Value) (he : w0.cell? ⟨2, 0, none⟩ = some (.iface T v)) :
    Calls Tryz.prog 4 #[.slice A0 cl.length c0, .slice A1 sv.length c1] w0 fun e w' => e = .returned (.bool true) ∧ Below w0.heap.size w0 w' := by
  have HF0 := Lib.hid (fits8 all_ A0 c0 cl w0 hm0 h0)
  have HF1 := Lib.hid (fits8 all_ A1 c1 sv w0 hm1 h1)
  have HAG := Lib.hid (fun (w : World) (hb : Below w0.heap.size w0 w) => agents_walk w T v ((hb.cell (blk_lt_of_cell he)).trans he))
  by_cases l0 : cl.length = 10
  rotate_left
  · have d0 : ((cl.length : Int) == 10) = false := by rw [beq_eq_false_iff_ne]; omega
    clear l0 h0 h1 he
    go_enter Tryz.func4, Tryz.ntmps4
    go_wp2_with (first
      | (go_at_call 8; (with_reducible refine HF0.out.mono ?_); rintro e w2 ⟨⟨b, rfl⟩, hw⟩; (have hw := hw.symm); subst hw; cases b)
      | (go_at_call 8; (with_reducible refine HF1.out.mono ?_); rintro e w2 ⟨⟨b, rfl⟩, hw⟩; (have hw := hw.symm); subst hw; cases b)
      | (go_at_call 6; refine (HAG.out _ (Below.refl _ _)).mono ?_; rintro e w3 ⟨rfl, hb3⟩))
    all_goals
      go_ret
      first | exact ⟨rfl, Below.refl _ _⟩ | exact ⟨rfl, hb3⟩
  by_cases l1 : sv.length = 10
  rotate_left
  · have d0 : ((cl.length : Int) == 10) = true := by rw [beq_iff_eq]; omega
    have d1 : ((sv.length : Int) == 10) = false := by rw [beq_eq_false_iff_ne]; omega
    clear l0 l1 h0 h1 he
    go_enter Tryz.func4, Tryz.ntmps4
    go_wp2_with (first
      | (go_at_call 8; (with_reducible refine HF0.out.mono ?_); rintro e w2 ⟨⟨b, rfl⟩, hw⟩; (have hw := hw.symm); subst hw; cases b)
      | (go_at_call 8; (with_reducible refine HF1.out.mono ?_); rintro e w2 ⟨⟨b, rfl⟩, hw⟩; (have hw := hw.symm); subst hw; cases b)
      | (go_at_call 6; refine (HAG.out _ (Below.refl _ _)).mono ?_; rintro e w3 ⟨rfl, hb3⟩))
    all_goals
      go_ret
      first | exact ⟨rfl, Below.refl _ _⟩ | exact ⟨rfl, hb3⟩
  obtain ⟨q0, e0, r0, E0⟩ := trios h0
  obtain ⟨q1, e1, r1, E1⟩ := trios h1
  have d0 : ((q0.length : Int) == 10) = true := by rw [beq_iff_eq]; omega
  have d1 : ((q1.length : Int) == 10) = true := by rw [beq_iff_eq]; omega
  have d0' : ((q0.length : Int) != 10) = false := by rw [bne_eq_false_iff_eq]; omega
  have d1' : ((q1.length : Int) != 10) = false := by rw [bne_eq_false_iff_eq]; omega
  have z0 := Lib.hid (show q0.length = 10 by omega)
  have z1 := Lib.hid (show q1.length = 10 by omega)
  have n0 : q0.length ≤ 10 := by omega
  have n1 : q1.length ≤ 10 := by omega
  have H0 := Lib.hid h0
  have H1 := Lib.hid h1
  have R0 := Lib.hid r0
  have R1 := Lib.hid r1
  have EE0 := Lib.hid E0
  have EE1 := Lib.hid E1
  rw [← e0] at HF0 ⊢
  rw [← e1] at HF1 ⊢
  have L0 := Lib.hid l0
  have L1 := Lib.hid l1
  have HE := Lib.hid he
  clear h0 h1 r0 r1 E0 E1 e0 e1 l0 l1 hm0 hm1 he
  go_enter Tryz.func4, Tryz.ntmps4
  go_upto_region 5 with (first
      | (go_at_call 8; (with_reducible refine HF0.out.mono ?_); rintro e w2 ⟨⟨b, rfl⟩, hw⟩; (have hw := hw.symm); subst hw; cases b)
      | (go_at_call 8; (with_reducible refine HF1.out.mono ?_); rintro e w2 ⟨⟨b, rfl⟩, hw⟩; (have hw := hw.symm); subst hw; cases b))
  all_goals (first | (go_ret; exact ⟨rfl, Below.refl _ _⟩) | skip)
  clear d0 d1 d0' d1' HF0 HF1
  go_upto_region 6 with (at_builtin; refine Hid.out ?_)
  refine Lib.hid ?_
  refine wpList_append_RR rfl _ _ _ rfl w0.heap.size 22 (.slice none 0 0) 24 Tryz.underlying30 info_strs2 rfl (.slice (some ⟨w0.heap.size, 0, none⟩) 0 0) [] rfl (World.ownsRow_lit w0 #[] 0 (Nat.le_refl _) (by decide) rfl) trioV (fun _ => rfl) (ok := all_) A0 c0 q0 rfl (R0.out.keep (lit_steady _) ((Keep.refl _ _).alloc _)) (by simp; omega) (by simp; omega) (by simp) ?_
  intro A2 c2 w2 hown2 hg2 hat2
  have hb2 : Below w0.heap.size w0 w2 := ((Below.refl _ _).alloc (Nat.le_refl _) _).grown hg2 (by simp) (fun k hk => by have h9 : w0.heap.size = k := (by simpa [Value.ownBlock] using hk); omega)
  have HO2 := Lib.hid hown2
  have HB2 := Lib.hid hb2
  clear hown2 hg2 hat2 hb2
  go_upto_region 6 with (at_builtin; refine Hid.out ?_)
  refine Lib.hid ?_
  have hz2 := HB2.out.size
  refine wpList_append_RR rfl _ _ _ rfl w0.heap.size 22 (.slice none 0 0) 24 Tryz.underlying30 info_strs2 rfl (.slice A2 q0.length c2) (q0.map trioV) rfl (by simpa using HO2.out) trioV (fun _ => rfl) (ok := all_) A1 c1 q1 rfl (R1.out.keep (lit_steady _) (Keep.of_below HB2.out)) (by simp; omega) (by simp; omega) hz2 ?_
  intro A3 c3 w3 hown3 hg3 hat3
  have hb3 : Below w0.heap.size w0 w3 := HB2.out.grown hg3 hz2 (fun k hk => own_block_lt_ HO2.out (by simpa using hk))
  have hown3' : w3.ownsRow w0.heap.size 22 1 (.slice A3 (q0.length + q1.length) c3) (q0.length + q1.length) ((q0 ++ q1).map trioV) := by simpa using hown3
  have hall : RR Strs all_ w3 A3 (cl ++ sv) := by
    have hEE : Each Strs all_ w3 ((q0 ++ q1).map trioV) (cl ++ sv) := by
      have ha := (EE0.out.keep strs_steady (Keep.of_below hb3)); have hb := (EE1.out.keep strs_steady (Keep.of_below hb3))
      refine ⟨by have := ha.1; have := hb.1; simp at *; omega, fun i u x hu hx => ?_⟩
      rw [List.map_append] at hu
      have hl := ha.1
      by_cases hi : i < cl.length
      · rw [List.getElem?_append_left (by omega)] at hu
        rw [List.getElem?_append_left hi] at hx
        exact ha.2 i u x hu hx
      · rw [List.getElem?_append_right (by omega)] at hu
        rw [List.getElem?_append_right (by omega)] at hx
        rw [hl] at hu
        exact hb.2 _ u x hu hx
    exact own_each hown3' hEE strs_steady (fun _ _ => trivial) (fun _ _ => trivial)
  have HA := Lib.hid hall
  have HB3 := Lib.hid hb3
  have z20 := Lib.hid (show (cl ++ sv).length = q0.length + q1.length by rw [List.length_append, L0.out, L1.out, z0.out, z1.out])
  have n20 : q0.length + q1.length ≤ 20 := by omega
  clear hown3 hg3 hat3 hb3 hown3' hall HO2 hz2
  simp only [List.length_map]
  rw [z0.out, z1.out]
  rw [z0.out, z1.out] at z20
  go_wp2_with fail
  go_loopg [40] 20 (fun gk v40 wr => ∃ k : Nat, v40 = .int .i64 (k : Int) ∧ k ≤ 20 ∧ Hid (k + gk = 20) ∧ Hid (∀ l ∈ (cl ++ sv).take k, l.length ≤ 8) ∧ wr = w3)
  case atStart => exact ⟨0, rfl, by omega, by simp [Hid], fun l hl => by simp at hl, rfl⟩
  case round =>
    obtain ⟨k, rfl, hk, hgk, hle, hw⟩ := hrel
    have hw := hw.symm
    subst hw
    by_cases hlt : k < 20
    · obtain ⟨l, hl⟩ : ∃ l, (cl ++ sv)[k]? = some l := ⟨_, List.getElem?_eq_getElem (by rw [z20.out]; exact hlt)⟩
      obtain ⟨ad, u, rfl, _, hcx, Al, cA, rfl, _, _, hrl⟩ := HA.out k l hl
      have hc1 : w3.cell? (ad.add k) = some (.slice Al l.length cA) := hcx
      have HLL := Lib.hid hl
      have HRL := Lib.hid hrl
      clear hl hcx hrl
      by_cases h8 : l.length ≤ 8
      rotate_left
      · have hd8 : ((8 : Int) < (l.length : Int)) = True := eq_true (by omega)
        clear h8
        go_wp2_with (go_at_call 6; refine (HAG.out _ HB3.out).mono ?_; rintro e w4 ⟨rfl, hb4⟩)
        go_ret
        exact ⟨rfl, HB3.out.trans (hb4.mono HB3.out.size)⟩
      have hd8 : ((8 : Int) < (l.length : Int)) = False := eq_false (by omega)
      go_wp2_with fail
      obtain ⟨go, rfl⟩ : ∃ go, go = gk := ⟨_, rfl⟩
      go_loopg [50] l.length (fun gk v50 wr1 => ∃ j : Nat, v50 = .int .i64 (j : Int) ∧ j ≤ l.length ∧ Hid (j + gk = l.length) ∧ wr1 = w3)
      case atStart => exact ⟨0, rfl, by omega, by simp [Hid], rfl⟩
      case round =>
        obtain ⟨j, rfl, hj, hgj, hw⟩ := hrel
        have hw := hw.symm
        subst hw
        by_cases hlj : j < l.length
        · obtain ⟨x, hx⟩ : ∃ x, l[j]? = some x := ⟨_, List.getElem?_eq_getElem hlj⟩
          obtain ⟨ad2, u, rfl, _, hsx, rfl⟩ := HRL.out j x hx
          have hs1 : w3.cell? (ad2.add j) = some (.string ⟨x.toArray⟩) := hsx
          clear hx hsx
          by_cases h60 : x.length ≤ 60
          rotate_left
          · have hd60 : ((60 : Int) < (x.length : Int)) = True := eq_true (by omega)
            clear h60
            go_wp2_with (go_at_call 6; refine (HAG.out _ HB3.out).mono ?_; rintro e w4 ⟨rfl, hb4⟩)
            go_ret
            exact ⟨rfl, HB3.out.trans (hb4.mono HB3.out.size)⟩
          have hd60 : ((60 : Int) < (x.length : Int)) = False := eq_false (by omega)
          by_cases hnil : x = []
          · subst hnil
            go_wp2_with (go_at_call 6; refine (HAG.out _ HB3.out).mono ?_; rintro e w4 ⟨rfl, hb4⟩)
            go_ret
            exact ⟨rfl, HB3.out.trans (hb4.mono HB3.out.size)⟩
          have hb0 : (x == []) = false := by rw [beq_eq_false_iff_ne]; exact hnil
          have hb1 : x.isEmpty = false := by cases x; exact absurd rfl hnil; rfl
          clear h60 hnil
          go_wp2_with fail
          go_roundg (gk - 1)
          case measure => have := hgj.out; omega
          case rel =>
            have hg := hgj.out
            exact ⟨j + 1, by go_num, by omega, show _ = _ by omega, rfl⟩
        · have hje : j = l.length := by omega
          subst hje
          go_wp2_with fail
          go_roundg (go - 1)
          case measure => have := hgk.out; omega
          case rel =>
            have hg := hgk.out
            refine ⟨k + 1, by go_num, by omega, show _ = _ by omega, show ∀ q ∈ _, _ from ?_, rfl⟩
            rw [List.take_add_one, HLL.out]
            intro q hq
            rcases List.mem_append.1 hq with hq | hq
            · exact hle.out q hq
            · obtain rfl : q = l := by simpa using hq
              exact h8
    · have hke : k = 20 := by omega
      subst hke
      have hl8 : ∀ l ∈ cl ++ sv, l.length ≤ 8 := fun l hl => hle.out l (by rw [List.take_of_length_le (by rw [z20.out]; decide)]; exact hl)
      have HL8 := Lib.hid hl8
      clear hle hl8 hgk hlt hk
      obtain ⟨adc, AC, aC, rfl, IC⟩ := in_all H0.out L0.out (fun l hl => Nat.le_trans (HL8.out l (List.mem_append_left _ hl)) (by decide))
      obtain ⟨ads, AS, aS, rfl, IS⟩ := in_all H1.out L1.out (fun l hl => Nat.le_trans (HL8.out l (List.mem_append_right _ hl)) (by decide))
      obtain ⟨G, hG⟩ : ∃ G : Nat → Option (List UInt8), G = fun i => agreeP (sv.getD i []) (cl.getD i []) := ⟨_, rfl⟩
      have HG := Lib.hid hG
      have HIC := Lib.hid IC
      have HIS := Lib.hid IS
      have HWS := Lib.hid (show Wnt w0 G 0 none 0 w3 from ⟨⟨rfl, .inl ⟨rfl, rfl⟩⟩, HB3.out⟩)
      clear hG IC IS n0 n1 n20
      go_wp2_with fail
      go_loopg [9, 10, 64] 8 (fun gk v9 v10 v64 wr => ∃ (k : Nat) (A9 : Option Addr) (c9 : Nat) (b : Bool), v64 = .int .i64 (k : Int) ∧ k ≤ 8 ∧ Hid (k + gk = 8) ∧ v9 = .slice A9 k c9 ∧ v10 = .bool b ∧ Hid (b = okL G k) ∧ Hid (Wnt w0 G k A9 c9 wr))
      case atStart => exact ⟨0, none, 0, true, rfl, by omega, by simp [Hid], rfl, rfl, rfl, HWS⟩
      case round =>
        obtain ⟨k, A9, c9, b, rfl, hk, hgk, rfl, rfl, hok, hW⟩ := hrel
        by_cases hlt : k < 8
        · have hbr := hW.out.hb.size
          have hin1 := (HIC.out k (by omega)).below hW.out.hb
          have hin2 := (HIS.out k (by omega)).below hW.out.hb
          obtain ⟨lc, hlc⟩ : ∃ l, l = cl.getD k [] := ⟨_, rfl⟩
          obtain ⟨ls, hls⟩ : ∃ l, l = sv.getD k [] := ⟨_, rfl⟩
          rw [← hlc] at hin1
          rw [← hls] at hin2
          obtain ⟨X, hX⟩ : ∃ X, X = (G k).getD [] := ⟨_, rfl⟩
          obtain ⟨B, hB⟩ : ∃ B, B = (G k).isSome := ⟨_, rfl⟩
          have hGk : G k = agreeP ls lc := by rw [HG.out, hlc, hls]
          have HQ := Lib.hid (fun n : Nat => show Calls Tryz.prog 10 #[.slice (AC k) lc.length (aC k), .slice (AS k) ls.length (aS k)] (wr.drewN n) fun e w' => e = .returned (.tuple #[.string ⟨X.toArray⟩, .bool B]) ∧ w' = wr.drewN n from by
            have h := agreed_any _ (AC k) (AS k) (aC k) (aS k) lc ls (wr.drewN n) hin1.le hin2.le (hin1.rr.keep (lit_steady _) ((Keep.refl _ _).drewN n)) (hin2.rr.keep (lit_steady _) ((Keep.refl _ _).drewN n))
            rw [← hGk, ← hX, ← hB] at h
            exact h)
          have hq1 := hin1.cell
          have hq2 := hin2.cell
          have hk10 : (k : Int) < 10 := by omega
          have hk10n : k < 10 := by omega
          have HX := Lib.hid hX
          have HBB := Lib.hid hB
          clear hlc hls hX hB hGk hin1 hin2
          by_cases h4 : k = 4
          · subst h4
            obtain ⟨ad9, rfl, _, hc9⟩ := (own_RR (l := wantL G 4) hW.out.own (ok := all_) (fun _ _ => trivial)).addr (by rw [wantL_len]; decide)
            obtain ⟨y, hy⟩ : ∃ y, y = wantP G 2 := ⟨_, rfl⟩
            have hcy : wr.cell? ⟨ad9.block, ad9.off + 2, none⟩ = some (.string ⟨y.toArray⟩) := by
              obtain ⟨u, h1, rfl⟩ := hc9 2 _ (wantL_at G (show 2 < 4 by decide))
              rw [hy]
              exact h1
            have HY := Lib.hid hy
            have hq3 : wr.cell? ⟨adc.block, adc.off + 4, none⟩ = some (.slice (AC 4) lc.length (aC 4)) := hq1
            have hq4 : wr.cell? ⟨ads.block, ads.off + 4, none⟩ = some (.slice (AS 4) ls.length (aS 4)) := hq2
            clear hq1 hq2
            have HSE := Lib.hid (Sealing_any y wr)
            obtain ⟨k9, hk9⟩ : ∃ k9, k9 = 4 := ⟨_, rfl⟩
            clear hc9 hy
            cases hs : sealP y
            · have hwp := Lib.hid (show wantP G 4 = X by rw [HX.out]; simp only [wantP, macP]; rw [if_neg (by rw [show (G 2).getD [] = y from HY.out.symm, hs]; decide)])
              have hop := Lib.hid (show okP G 4 = (G 4).isSome by simp only [okP, macP]; rw [if_neg (by rw [show (G 2).getD [] = y from HY.out.symm, hs]; decide)])
              rw [hs] at HSE
              clear hs hk9
              go_upto_region 25 with (go_at_call 9; refine HSE.out.mono ?_; rintro e wy ⟨rfl, hwy⟩; (have hwy := hwy.symm); subst hwy)
              go_upto_region 25 with fail
              go_quiet ((go_at_call 10; exact Calls.quiet_of_same (HQ.out _)))
              cases b
              all_goals go_upto_region 28 with (at_builtin; refine Hid.out ?_)
              all_goals
                refine Lib.hid ?_
                have hbw : Below wr.heap.size wr ((wr.drewN nq).alloc (.cells #[.string ⟨X.toArray⟩] 9)) := (below_dN wr nq).alloc (Nat.le_refl _) _
                refine wpList_pushN rfl _ _ _ rfl w0.heap.size 9 (.string .empty) 16 Tryz.underlying22 info_str rfl (.slice (some ad9) 4 c9) ((wantL G 4).map strV) 4 (by rw [List.length_map, wantL_len]) rfl (own_move_ hW.out.own (fun q hq => hbw.block q (hW.out.own.lt q hq).2)) wr.heap.size (.string ⟨X.toArray⟩) rfl (Blk.new _ _ _) rfl (by omega) (by omega) (Nat.le_trans hW.out.hb.size hbw.size) ?_
                intro A' c' w' hown' hg' _
                have HN := Lib.hid (hW.out.push hbw hwp.out hown' hg')
                clear hown' hg' hbw
                go_wp2_with fail
                go_roundg (gk - 1)
                case measure => have := hgk.out; omega
                case rel =>
                  have hg := hgk.out
                  exact ⟨4 + 1, A', c', _, by go_num, by omega, show _ = _ by omega, rfl, rfl, (show _ = okL G (4 + 1) by rw [okL_succ, ← hok.out, hop.out, ← HBB.out]; try rfl), HN⟩
            · have hwp := Lib.hid (show wantP G 4 = [] by simp only [wantP, macP]; rw [if_pos (by rw [show (G 2).getD [] = y from HY.out.symm, hs])]; rfl)
              have hop := Lib.hid (show okP G 4 = true by simp only [okP, macP]; rw [if_pos (by rw [show (G 2).getD [] = y from HY.out.symm, hs])]; rfl)
              rw [hs] at HSE
              clear hs hk9
              go_upto_region 28 with (first | (go_at_call 9; refine HSE.out.mono ?_; rintro e wy ⟨rfl, hwy⟩; (have hwy := hwy.symm); subst hwy) | (at_builtin; refine Hid.out ?_))
              refine Lib.hid ?_
              have hbw : Below wr.heap.size wr (wr.alloc (.cells #[.string ⟨#[]⟩] 9)) := (Below.refl _ wr).alloc (Nat.le_refl _) _
              refine wpList_pushN rfl _ _ _ rfl w0.heap.size 9 (.string .empty) 16 Tryz.underlying22 info_str rfl (.slice (some ad9) 4 c9) ((wantL G 4).map strV) 4 (by rw [List.length_map, wantL_len]) rfl (own_move_ hW.out.own (fun q hq => hbw.block q (hW.out.own.lt q hq).2)) wr.heap.size (.string ⟨#[]⟩) rfl (Blk.new _ _ _) rfl (by omega) (by omega) (Nat.le_trans hW.out.hb.size hbw.size) ?_
              intro A' c' w' hown' hg' _
              have HN := Lib.hid (hW.out.push hbw hwp.out hown' hg')
              clear hown' hg' hbw
              go_wp2_with fail
              go_roundg (gk - 1)
              case measure => have := hgk.out; omega
              case rel =>
                have hg := hgk.out
                exact ⟨4 + 1, A', c', _, by go_num, by omega, show _ = _ by omega, rfl, rfl, (show _ = okL G (4 + 1) by rw [okL_succ, ← hok.out, hop.out, Bool.and_true]), HN⟩
          by_cases h5 : k = 5
          · subst h5
            obtain ⟨ad9, rfl, _, hc9⟩ := (own_RR (l := wantL G 5) hW.out.own (ok := all_) (fun _ _ => trivial)).addr (by rw [wantL_len]; decide)
            obtain ⟨y, hy⟩ : ∃ y, y = wantP G 3 := ⟨_, rfl⟩
            have hcy : wr.cell? ⟨ad9.block, ad9.off + 3, none⟩ = some (.string ⟨y.toArray⟩) := by
              obtain ⟨u, h1, rfl⟩ := hc9 3 _ (wantL_at G (show 3 < 5 by decide))
              rw [hy]
              exact h1
            have HY := Lib.hid hy
            have hq3 : wr.cell? ⟨adc.block, adc.off + 5, none⟩ = some (.slice (AC 5) lc.length (aC 5)) := hq1
            have hq4 : wr.cell? ⟨ads.block, ads.off + 5, none⟩ = some (.slice (AS 5) ls.length (aS 5)) := hq2
            clear hq1 hq2
            have HSE := Lib.hid (Sealing_any y wr)
            obtain ⟨k9, hk9⟩ : ∃ k9, k9 = 5 := ⟨_, rfl⟩
            clear hc9 hy
            cases hs : sealP y
            · have hwp := Lib.hid (show wantP G 5 = X by rw [HX.out]; simp only [wantP, macP]; rw [if_neg (by rw [show (G 3).getD [] = y from HY.out.symm, hs]; decide)])
              have hop := Lib.hid (show okP G 5 = (G 5).isSome by simp only [okP, macP]; rw [if_neg (by rw [show (G 3).getD [] = y from HY.out.symm, hs]; decide)])
              rw [hs] at HSE
              clear hs hk9
              go_upto_region 25 with (go_at_call 9; refine HSE.out.mono ?_; rintro e wy ⟨rfl, hwy⟩; (have hwy := hwy.symm); subst hwy)
              go_upto_region 25 with fail
              go_quiet ((go_at_call 10; exact Calls.quiet_of_same (HQ.out _)))
              cases b
              all_goals go_upto_region 28 with (at_builtin; refine Hid.out ?_)
              all_goals
                refine Lib.hid ?_
                have hbw : Below wr.heap.size wr ((wr.drewN nq).alloc (.cells #[.string ⟨X.toArray⟩] 9)) := (below_dN wr nq).alloc (Nat.le_refl _) _
                refine wpList_pushN rfl _ _ _ rfl w0.heap.size 9 (.string .empty) 16 Tryz.underlying22 info_str rfl (.slice (some ad9) 5 c9) ((wantL G 5).map strV) 5 (by rw [List.length_map, wantL_len]) rfl (own_move_ hW.out.own (fun q hq => hbw.block q (hW.out.own.lt q hq).2)) wr.heap.size (.string ⟨X.toArray⟩) rfl (Blk.new _ _ _) rfl (by omega) (by omega) (Nat.le_trans hW.out.hb.size hbw.size) ?_
                intro A' c' w' hown' hg' _
                have HN := Lib.hid (hW.out.push hbw hwp.out hown' hg')
                clear hown' hg' hbw
                go_wp2_with fail
                go_roundg (gk - 1)
                case measure => have := hgk.out; omega
                case rel =>
                  have hg := hgk.out
                  exact ⟨5 + 1, A', c', _, by go_num, by omega, show _ = _ by omega, rfl, rfl, (show _ = okL G (5 + 1) by rw [okL_succ, ← hok.out, hop.out, ← HBB.out]; try rfl), HN⟩
            · have hwp := Lib.hid (show wantP G 5 = [] by simp only [wantP, macP]; rw [if_pos (by rw [show (G 3).getD [] = y from HY.out.symm, hs])]; rfl)
              have hop := Lib.hid (show okP G 5 = true by simp only [okP, macP]; rw [if_pos (by rw [show (G 3).getD [] = y from HY.out.symm, hs])]; rfl)
              rw [hs] at HSE
              clear hs hk9
              go_upto_region 28 with (first | (go_at_call 9; refine HSE.out.mono ?_; rintro e wy ⟨rfl, hwy⟩; (have hwy := hwy.symm); subst hwy) | (at_builtin; refine Hid.out ?_))
              refine Lib.hid ?_
              have hbw : Below wr.heap.size wr (wr.alloc (.cells #[.string ⟨#[]⟩] 9)) := (Below.refl _ wr).alloc (Nat.le_refl _) _
              refine wpList_pushN rfl _ _ _ rfl w0.heap.size 9 (.string .empty) 16 Tryz.underlying22 info_str rfl (.slice (some ad9) 5 c9) ((wantL G 5).map strV) 5 (by rw [List.length_map, wantL_len]) rfl (own_move_ hW.out.own (fun q hq => hbw.block q (hW.out.own.lt q hq).2)) wr.heap.size (.string ⟨#[]⟩) rfl (Blk.new _ _ _) rfl (by omega) (by omega) (Nat.le_trans hW.out.hb.size hbw.size) ?_
              intro A' c' w' hown' hg' _
              have HN := Lib.hid (hW.out.push hbw hwp.out hown' hg')
              clear hown' hg' hbw
              go_wp2_with fail
              go_roundg (gk - 1)
              case measure => have := hgk.out; omega
              case rel =>
                have hg := hgk.out
                exact ⟨5 + 1, A', c', _, by go_num, by omega, show _ = _ by omega, rfl, rfl, (show _ = okL G (5 + 1) by rw [okL_succ, ← hok.out, hop.out, Bool.and_true]), HN⟩
          have b4 : ((k : Int) == 4) = false := by rw [beq_eq_false_iff_ne]; omega
          have b5 : ((k : Int) == 5) = false := by rw [beq_eq_false_iff_ne]; omega
          have hwp := Lib.hid (show wantP G k = X by rw [(wantP_plain G h4 h5).1, HX.out])
          have hop := Lib.hid (wantP_plain G h4 h5).2
          go_upto_region 25 with fail
          go_quiet ((go_at_call 10; exact Calls.quiet_of_same (HQ.out _)))
          cases b
          all_goals go_upto_region 28 with (at_builtin; refine Hid.out ?_)
          all_goals
            refine Lib.hid ?_
            have hbw : Below wr.heap.size wr ((wr.drewN nq).alloc (.cells #[.string ⟨X.toArray⟩] 9)) := (below_dN wr nq).alloc (Nat.le_refl _) _
            refine wpList_pushN rfl _ _ _ rfl w0.heap.size 9 (.string .empty) 16 Tryz.underlying22 info_str rfl (.slice A9 k c9) ((wantL G k).map strV) k (by rw [List.length_map, wantL_len]) rfl (own_move_ hW.out.own (fun q hq => hbw.block q (hW.out.own.lt q hq).2)) wr.heap.size (.string ⟨X.toArray⟩) rfl (Blk.new _ _ _) rfl (by omega) (by omega) (Nat.le_trans hW.out.hb.size hbw.size) ?_
            intro A' c' w' hown' hg' _
            have HN := Lib.hid (hW.out.push hbw hwp.out hown' hg')
            clear hown' hg' hbw
            go_wp2_with fail
            go_roundg (gk - 1)
            case measure => have := hgk.out; omega
            case rel =>
              have hg := hgk.out
              exact ⟨k + 1, A', c', _, by go_num, by omega, show _ = _ by omega, rfl, rfl, (show _ = okL G (k + 1) by rw [okL_succ, ← hok.out, hop.out, ← HBB.out]; try rfl), HN⟩
        · have hke : k = 8 := by omega
          subst hke
          have hb8 := hok.out
          rw [okL_all] at hb8
          have HB8 := Lib.hid hb8
          have HRW := Lib.hid (own_RR (l := wantL G 8) hW.out.own (ok := all_) (fun _ _ => trivial))
          have HON := Lib.hid (show Calls Tryz.prog 11 #[.slice (some adc) 10 c0, .slice (some ads) 10 c1] wr (OnEnd wr G) from by
            have h := on_any wr adc ads c0 c1 AC AS aC aS (fun i => cl.getD i []) (fun i => sv.getD i []) (fun i hi => (HIC.out i hi).below hW.out.hb) (fun i hi => (HIS.out i hi).below hW.out.hb)
            rw [← HG.out] at h
            exact h)
          have HBW := Lib.hid hW.out.hb
          clear hb8 hok hgk hk hlt hW
          go_upto_region 30 with (go_at_call 11; refine Hid.out ?_)
          refine Lib.hid ?_
          refine HON.out.mono ?_
          rintro e w5 ⟨hb5, ⟨hall, bb, rfl, hbb, hbk⟩ | ⟨hall, rfl⟩⟩
          · obtain rfl : b = true := by rw [HB8.out, hall]
            have HB5 := Lib.hid (HBW.out.trans (hb5.mono HBW.out.size))
            have HBK := Lib.hid hbk
            have HRW5 := Lib.hid (HRW.out.keep (lit_steady _) (Keep.of_below hb5))
            clear hb5 hall hbk
            go_wp2_with fail
            go_loopg [127] 8 (fun gk v127 wr => ∃ j : Nat, v127 = .int .i64 (j : Int) ∧ j ≤ 8 ∧ Hid (j + gk = 8) ∧ Hid (RR (lit strV) all_ wr A9 (wantL G 8)) ∧ Hid (Blk wr bb 9 (eightV G)) ∧ Hid (Below w0.heap.size w0 wr))
            case atStart => exact ⟨0, rfl, by omega, by simp [Hid], HRW5, HBK, HB5⟩
            case round =>
              obtain ⟨j, rfl, hj, hgj, hr9, hbk, hbb5⟩ := hrel
              by_cases hlj : j < 8
              · obtain ⟨ad9, u, rfl, _, hc9z, rfl⟩ := hr9.out j _ (wantL_at G hlj)
                obtain ⟨y, hy⟩ : ∃ y, y = wantP G j := ⟨_, rfl⟩
                rw [← hy] at hc9z
                have hc9 : wr.cell? (ad9.add j) = some (.string ⟨y.toArray⟩) := hc9z
                have hc8 : wr.cell? ⟨bb, 0 + j, none⟩ = some (.string ⟨y.toArray⟩) := by
                  rw [Nat.zero_add, hbk.out.cell, hy]
                  exact eight_at G hlj
                have hc7 : wr.cell? ⟨bb, j, none⟩ = some (.string ⟨y.toArray⟩) := by simpa using hc8
                have hj8 : (j : Int) < 8 := by omega
                clear hy hc9z hc8
                go_upto_region 37 with fail
                go_region
                go_wp2_with fail
                go_roundg (gk - 1)
                case measure => have := hgj.out; omega
                case rel =>
                  have hg := hgj.out
                  exact ⟨j + 1, by go_num, by omega, show _ = _ by omega, hr9.out.keep (lit_steady _) ((Keep.refl _ _).drew), hbk.out.drew, hbb5.out.drew⟩
              · have hje : j = 8 := by omega
                subst hje
                go_wp2_with (go_at_call 6; refine (HAG.out _ hbb5.out).mono ?_; rintro e w6 ⟨rfl, hb6⟩)
                go_ret
                exact ⟨rfl, hbb5.out.trans (hb6.mono hbb5.out.size)⟩
          · obtain rfl : b = false := by rw [HB8.out, hall]
            have HB5 := Lib.hid (HBW.out.trans (hb5.mono HBW.out.size))
            clear hb5 hall
            go_wp2_with (go_at_call 6; refine (HAG.out _ HB5.out).mono ?_; rintro e w6 ⟨rfl, hb6⟩)
            go_ret
            exact ⟨rfl, HB5.out.trans (hb6.mono HB5.out.size)⟩

end Go.Proofs.YtmblpmmnglmjfaaGreatDoor
