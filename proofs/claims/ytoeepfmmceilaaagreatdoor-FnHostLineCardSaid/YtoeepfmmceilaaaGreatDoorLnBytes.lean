/- The reference's builders of bytes: Number, String, join; and impl.own: new bytes each. Taken from the first seat's text. -/
import Derived.Test.YtoeepfmmceilaaaGreatDoorRdr
set_option linter.unusedVariables false
set_option linter.unusedSimpArgs false
namespace Go.Proofs.YtoeepfmmceilaaaGreatDoor
open Go.RowKit

theorem add_spot {ad : Addr} (h : ad.spot = none) (i : Nat) : ad.add i = ⟨ad.block, ad.off + i, none⟩ := by
  cases ad
  simp at h
  subst h
  unfold Addr.add
  split
  · rename_i h0; subst h0; rfl
  · rfl
/-- The cells of bytes, their addresses written out. -/
theorem RB.spots {ok : Nat → Prop} {w : World} {A : Option Addr} {xs : List UInt8} (h : RR (lit byteV) ok w A xs) (hn : 0 < xs.length) :
    ∃ ad, A = some ad ∧ ok ad.block ∧ (∀ i x, xs[i]? = some x → w.cell? (ad.add i) = some (.int .u8 (x.toNat : Int))) ∧ ∀ i x, xs[i]? = some x → w.cell? ⟨ad.block, ad.off + i, none⟩ = some (.int .u8 (x.toNat : Int)) := by
  obtain ⟨ad, hA, ho, hc⟩ := RB.at h hn
  refine ⟨ad, hA, ho, hc, fun i x hi => ?_⟩
  have h1 := hc i x hi
  have hs : ad.spot = none := by
    have h0 := spot_none (hc 0 xs[0] (List.getElem?_eq_getElem hn))
    unfold Addr.add at h0
    rw [if_pos rfl] at h0
    exact h0
  rw [add_spot hs] at h1
  exact h1

/-- New bytes of the call's own; all that was there stands. -/
def NewB (w w' : World) (v : Value) (l : List UInt8) : Prop := w'.ownsRow w.heap.size 5 1 v (l.map byteV).length (l.map byteV) ∧ Below w.heap.size w w'
theorem byteV_one (y : UInt8) : (byteV y).oneCell' = true := rfl
theorem strV_one (y : List UInt8) : (strV y).oneCell' = true := rfl
theorem own_block_lt_ {w : World} {B e size n : Nat} {v : Value} {xs : List Value} (h : w.ownsRow B e size v n xs) {k : Nat} (hk : v.ownBlock = some k) : B ≤ k := (h.lt k hk).1
theorem NewB.byts {w w' : World} {v : Value} {l : List UInt8} (h : NewB w w' v l) {ok : Nat → Prop} (ho : ∀ b, w.heap.size ≤ b → ok b) : Byts ok w' v l := own_SL h.1 (fun b hb => ho b (own_block_lt_ h.1 hb))

theorem ofNat_toNat (n : Nat) : ((UInt8.ofNat n).toNat : Int) = (n : Int) % 256 := by
  rw [UInt8.toNat_ofNat']
  omega
set_option maxHeartbeats 400000 in
theorem number_new (n : Nat) (hn : n < 4294967296) (w : World) :
    Calls Tryz.prog 74 #[.int .u32 (n : Int)] w fun e w' => ∃ v, e = .returned v ∧ NewB w w' v (be4 n) := by
  go_enter Tryz.func74, Tryz.ntmps74
  go_wp2
  go_ret
  refine ⟨_, rfl, ?_, (Below.refl _ _).alloc (Nat.le_refl _) _⟩
  have e0 : (n : Int) / 16777216 = ((UInt8.ofNat (n / 16777216)).toNat : Int) := by rw [ofNat_toNat]; omega
  have e1 : (n : Int) / 65536 % 256 = ((UInt8.ofNat (n / 65536)).toNat : Int) := by rw [ofNat_toNat]; omega
  have e2 : (n : Int) / 256 % 256 = ((UInt8.ofNat (n / 256)).toNat : Int) := by rw [ofNat_toNat]; omega
  have e3 : (n : Int) % 256 = ((UInt8.ofNat n).toNat : Int) := by rw [ofNat_toNat]
  rw [e0, e1, e2, e3]
  exact World.ownsRow_lit w (base := w.heap.size) (size := 1) (e := 5) #[byteV (UInt8.ofNat (n / 16777216)), byteV (UInt8.ofNat (n / 65536)), byteV (UInt8.ofNat (n / 256)), byteV (UInt8.ofNat n)] 4 (Nat.le_refl _) (by decide) rfl

set_option maxHeartbeats 400000 in
theorem string_new (ok : Nat → Prop) (A : Option Addr) (c : Nat) (xs : List UInt8) (w : World) (hl : xs.length ≤ 70368744177664) (hc : xs.length ≤ c) (hr : RR (lit byteV) ok w A xs) :
    Calls Tryz.prog 48 #[.slice A xs.length c] w fun e w' => ∃ v, e = .returned v ∧ NewB w w' v (strP xs) := by
  have HN := Lib.hid (number_new (xs.length % 4294967296) (by omega) w)
  have HR := Lib.hid hr
  clear hr
  have e0 : ((xs.length % 4294967296 : Nat) : Int) = (xs.length : Int) % 4294967296 := by omega
  go_enter Tryz.func48, Tryz.ntmps48
  go_wp2_with fail
  rw [← e0]
  refine HN.out.mono ?_
  rintro e w1 ⟨v, rfl, hv1, hb1⟩
  have H1 := Lib.hid hv1
  have HB := Lib.hid hb1
  have HR1 := Lib.hid (RR.keep HR.out (lit_steady _) (Keep.of_below hb1))
  clear e0 hv1 hb1
  go_wp2_with (at_builtin; refine wpList_append_RR rfl _ _ _ rfl w.heap.size 5 (.int .u8 0) 1 Tryz.underlying28 info_u8 rfl v ((be4 (xs.length % 4294967296)).map byteV) rfl H1.out byteV byteV_one A c xs rfl HR1.out (by simp [be4]; omega) (by simp [be4]; omega) HB.out.size ?_; intro A2 c2 w2 hown2 hg2 hat2)
  go_ret
  refine ⟨_, rfl, ?_, ?_⟩
  · simpa [strP, NewB] using hown2
  · exact HB.out.grown hg2 HB.out.size (fun k hk => (H1.out.lt k hk).1)

set_option maxHeartbeats 400000 in
theorem join_new (ok : Nat → Prop) (A : Option Addr) (c : Nat) (xs : List (List UInt8)) (w : World) (hl : xs.flatten.length ≤ 70368744177664) (hn : xs.length ≤ 70368744177664) (hr : RR Byts ok w A xs) :
    Calls Tryz.prog 47 #[.slice A xs.length c] w fun e w' => ∃ v, e = .returned v ∧ NewB w w' v xs.flatten := by
  have HR := Lib.hid hr
  have HL := Lib.hid hl
  clear hr hl
  go_enter Tryz.func47, Tryz.ntmps47
  go_wp2_with fail
  go_loopg [3, 5, 8] xs.length (fun gk v3 v5 v8 wr => ∃ (A3 : Option Addr) (c3 k : Nat) (L : List Value), v8 = .int .i64 (k : Int) ∧ v3 = .slice A3 L.length c3 ∧ k ≤ xs.length ∧ wr.ownsRow w.heap.size 5 1 (.slice A3 L.length c3) L.length L ∧
    Below w.heap.size w wr ∧ Hid (k + gk = xs.length) ∧ Hid (L = (xs.take k).flatten.map byteV))
  case atStart => exact ⟨none, 0, 0, [], rfl, rfl, by omega, World.ownsRow_nil _ _ _ _, Below.refl _ _, by simp [Hid], rfl⟩
  case round =>
    obtain ⟨A3, c3, k, L, rfl, rfl, hk, hown, hb, hgk, hnn⟩ := hrel
    have HO := Lib.hid hown
    have HB := Lib.hid hb
    clear hown hb
    by_cases hlt : k < xs.length
    · obtain ⟨x, hx⟩ : ∃ x, xs[k]? = some x := ⟨_, List.getElem?_eq_getElem hlt⟩
      have HR1 := RR.keep HR.out bytes_steady (Keep.of_below HB.out)
      obtain ⟨ad, v, rfl, _, hcell, ⟨A5, c5, rfl, h52, h53, h54⟩⟩ := HR1 k x hx
      have H5 := Lib.hid h54
      have HX := Lib.hid hx
      have hfl : (xs.take (k + 1)).flatten = (xs.take k).flatten ++ x := by rw [List.take_add_one, hx]; simp
      have hle : L.length + x.length ≤ 70368744177664 := by
        have e1 : L.length + x.length = (xs.take (k + 1)).flatten.length := by rw [hfl, List.length_append, hnn.out, List.length_map]
        rw [e1]
        refine Nat.le_trans ?_ HL.out
        have := congrArg List.length (congrArg List.flatten (List.take_append_drop (k + 1) xs))
        rw [List.flatten_append, List.length_append] at this
        omega
      have HF := Lib.hid hfl
      clear HR1 h54 hx hfl
      go_wp2_with (at_builtin; refine wpList_append_RR rfl _ _ _ rfl w.heap.size 5 (.int .u8 0) 1 Tryz.underlying28 info_u8 rfl _ L rfl HO.out byteV byteV_one A5 c5 x rfl H5.out (by omega) (by omega) HB.out.size ?_; intro A2 c2 w2 hown2 hg2 hat2)
      go_roundg (gk - 1)
      case measure => have := hgk.out; omega
      case rel =>
        have hg := hgk.out
        have el : (L ++ x.map byteV).length = L.length + x.length := by simp
        exact ⟨A2, c2, k + 1, L ++ x.map byteV, by go_num, by rw [el], by omega, by rw [el]; rw [el] at hown2; exact hown2, HB.out.grown hg2 HB.out.size (fun q hq => (HO.out.lt q hq).1), show _ = _ by omega, by show _ = _; rw [hnn.out, HF.out, List.map_append]⟩
    · have hke : k = xs.length := by omega
      subst hke
      go_wp2
      go_ret
      have h1 := HO.out
      have e1 := hnn.out
      rw [List.take_length] at e1
      subst e1
      exact ⟨_, rfl, h1, HB.out⟩

set_option maxHeartbeats 400000 in
theorem own_new (ok : Nat → Prop) (A : Option Addr) (c : Nat) (xs : List UInt8) (w : World) (hl : xs.length ≤ 70368744177664) (hr : RR (lit byteV) ok w A xs) :
    Calls Tryz.prog 38 #[.slice A xs.length c] w fun e w' => ∃ v, e = .returned v ∧ NewB w w' v xs := by
  have HR := Lib.hid hr
  clear hr
  go_enter Tryz.func38, Tryz.ntmps38
  go_wp2_with (at_builtin; refine wpList_append_RR rfl _ _ _ rfl w.heap.size 5 (.int .u8 0) 1 Tryz.underlying28 info_u8 rfl (.slice (some ⟨w.heap.size, 0, none⟩) 0 0) [] rfl (World.ownsRow_lit w #[] 0 (Nat.le_refl _) (by decide) rfl) byteV byteV_one A c xs rfl (RR.keep HR.out (lit_steady _) ((Keep.refl _ _).alloc _)) (by simp; omega) (by simp; omega) (by simp) ?_; intro A2 c2 w2 hown2 hg2 hat2)
  go_ret
  exact ⟨_, rfl, by simpa [NewB] using hown2, ((Below.refl _ _).alloc (Nat.le_refl _) _).grown hg2 (by simp) (fun k hk => by have h9 : w.heap.size = k := (by simpa [Value.ownBlock] using hk); omega)⟩

theorem commaTo_snoc (l : List (List UInt8)) (x : List UInt8) : ∀ (out : List UInt8) (i : Nat), commaTo out (l ++ [x]) i = (if 0 < i + l.length then commaTo out l i ++ [44] else commaTo out l i) ++ x := by
  induction l with
  | nil => intro out i; simp [commaTo]
  | cons s r ih =>
    intro out i
    simp only [List.cons_append, commaTo, ih, List.length_cons]
    rw [show i + 1 + r.length = i + (r.length + 1) by omega]
theorem commas_snoc (l : List (List UInt8)) (x : List UInt8) : commas (l ++ [x]) = (if 0 < l.length then commas l ++ [44] else commas l) ++ x := by
  unfold commas; rw [commaTo_snoc]; simp
theorem commas_le (l : List (List UInt8)) : ∀ n, (∀ x ∈ l, x.length ≤ n) → (commas l).length ≤ l.length * (n + 1) := by
  intro n
  have : ∀ (l : List (List UInt8)) (out : List UInt8) (i : Nat), (∀ x ∈ l, x.length ≤ n) → (commaTo out l i).length ≤ out.length + l.length * (n + 1) := by
    intro l
    induction l with
    | nil => intro out i _; simp [commaTo]
    | cons s r ih =>
      intro out i h
      have h1 := ih ((if 0 < i then out ++ [44] else out) ++ s) (i + 1) (fun x hx => h x (List.mem_cons_of_mem _ hx))
      have h2 := h s (List.mem_cons_self ..)
      simp only [commaTo, List.length_cons, Nat.add_mul] at *
      have h3 : (if 0 < i then out ++ [44] else out).length ≤ out.length + 1 := by split <;> simp
      rw [List.length_append] at h1
      omega
  intro h
  have := this l [] 0 h
  simpa [commas] using this

/-! ### the same, their results written out -/
def NewS (w : World) (l : List UInt8) (e : Ending) (w' : World) : Prop := ∃ (A : Option Addr) (c : Nat), e = .returned (.slice A l.length c) ∧ w'.ownsRow w.heap.size 5 1 (.slice A l.length c) l.length (l.map byteV) ∧ l.length ≤ c ∧ c ≤ 9223372036854775807 ∧ Below w.heap.size w w'
theorem news_of {f : FuncId} {args : Array Value} {w : World} {l : List UInt8} (h : Calls Tryz.prog f args w fun e w' => ∃ v, e = .returned v ∧ NewB w w' v l) : Calls Tryz.prog f args w (NewS w l) := h.mono fun e w' ⟨v, he, h1, h2⟩ => by
  rw [List.length_map] at h1
  obtain ⟨A, c, rfl, h3, h4⟩ := own_form h1
  exact ⟨A, c, he, h1, h3, h4, h2⟩
/-- Two slices in a new row of slices. -/
theorem RR_two {α : Type} {R : Say α} {ok : Nat → Prop} {w : World} {b : Nat} {e : TypeId} {v1 v2 : Value} {x1 x2 : α} (hb : Blk w b e #[v1, v2]) (ho : ok b) (h1 : R ok w v1 x1) (h2 : R ok w v2 x2) : RR R ok w (some ⟨b, 0, none⟩) [x1, x2] := by
  intro i x hx
  match i, hx with
  | 0, hx =>
    have : x1 = x := by simpa using hx
    subst this
    exact ⟨_, v1, rfl, ho, hb.cell 0, h1⟩
  | 1, hx =>
    have : x2 = x := by simpa using hx
    subst this
    exact ⟨_, v2, rfl, ho, hb.cell 1, h2⟩
theorem own_ne_obj {w : World} {B e size n k : Nat} {v : Value} {xs : List Value} {f : ByteArray} {p : Nat} (h : w.ownsRow B e size v n xs) (hk : w.heap[k]? = some (.stringIter f p)) : v.ownBlock ≠ some k := by
  intro hv
  rcases h.2 with ⟨rfl, _⟩ | ⟨g, cap, cur, rfl, _, hg, _⟩
  · simp [Value.ownBlock] at hv
  · simp [Value.ownBlock] at hv
    subst hv
    rw [hg] at hk
    cases hk
theorem own_byts {w : World} {B : Nat} {A : Option Addr} {c : Nat} {l : List UInt8} (h : w.ownsRow B 5 1 (.slice A l.length c) l.length (l.map byteV)) {ok : Nat → Prop} (ho : ∀ b, B ≤ b → ok b) : Byts ok w (.slice A l.length c) l := by
  obtain ⟨A', c', hv, h1, h2⟩ := own_form h
  injection hv with e1 e2 e3
  exact ⟨A, c, rfl, by omega, by omega, own_RR h (fun b hb => ho b (h.lt b hb).1)⟩
/-- join of two. -/
theorem join2 (w : World) (b : Nat) (e : TypeId) (v1 v2 : Value) (x1 x2 o : List UInt8) (ho : Hid (o = x1 ++ x2)) (hb : Blk w b e #[v1, v2]) (h1 : Byts all_ w v1 x1) (h2 : Byts all_ w v2 x2) (hl : o.length ≤ 70368744177664) :
    Calls Tryz.prog 47 #[.slice (some ⟨b, 0, none⟩) 2 2] w (NewS w o) := by
  have e1 : [x1, x2].flatten = o := by rw [ho.out]; simp
  have := news_of (join_new all_ (some ⟨b, 0, none⟩) 2 [x1, x2] w (by rw [e1]; exact hl) (by simp) (RR_two hb trivial h1 h2))
  rw [e1] at this
  exact this
/-- []byte(s), in one world. -/
theorem to_bytes {P : Program} {src dst e : TypeId} {u : TypeDesc} (hs : P.underlying src = some u) (hd : P.underlying dst = some (.slice e)) (he : P.underlying e = some (.int .u8)) (w : World) (xs : List UInt8) (hl : xs.length ≤ 9223372036854775807) :
    ∃ c w', (convert src dst (.string ⟨xs.toArray⟩)).run P w = .ok (.slice (some ⟨w.heap.size, 0, none⟩) xs.length c) w' ∧ Below w.heap.size w w' ∧ w'.heap.size = w.heap.size + 1 ∧ xs.length ≤ c ∧ c ≤ 9223372036854775807 ∧
      ∀ ok : Nat → Prop, ok w.heap.size → RR (lit byteV) ok w' (some ⟨w.heap.size, 0, none⟩) xs := by
  have hsz : (⟨xs.toArray⟩ : ByteArray).size = xs.length := by simp [ByteArray.size]
  have h1 := Lib.run_convert_string_bytes (P := P) w src dst e ⟨xs.toArray⟩ hs hd he
  rw [hsz] at h1
  refine ⟨_, _, h1, ⟨rfl, rfl, rfl, by rw [Lib.bytesWorld_size]; omega, fun k hk => Lib.bytesWorld_at_old w e _ k hk⟩, Lib.bytesWorld_size _ _ _, grownCap_ge _ _ _ _, grownCap_le_maxLen _ _ _ _ hl, fun ok ho i x hx => ⟨_, _, rfl, ho, ?_, rfl⟩⟩
  obtain ⟨hlt, he⟩ := List.getElem?_eq_some_iff.1 hx
  have hadd : (⟨w.heap.size, 0, none⟩ : Addr).add i = ⟨w.heap.size, i, none⟩ := by unfold Addr.add; split <;> simp_all
  rw [hadd, Lib.bytesWorld_cell _ _ _ _ (by rw [hsz]; exact hlt)]
  simp [List.getD, hx, byteV]

/-- A slice without its first element. -/
theorem cut_tail {P : Program} {α : Type} (t e : TypeId) {i : TypeInfo} (ht : P.underlying t = some (.slice e)) (hi : P.info? e = some i) (hsz : i.size = 1) (A : Option Addr) (c : Nat) (x : α) (xs : List α) (hc : xs.length + 1 ≤ c) :
    ∃ A' : Option Addr, (∀ W : World, (Instr.slice t (.slice A (xs.length + 1) c) (some (.int .i64 1)) none none).run P W = .ok (.slice A' xs.length (c - 1)) W) ∧ ∀ (R : Say α) (ok : Nat → Prop) (w : World), RR R ok w A (x :: xs) → RR R ok w A' xs := by
  obtain ⟨A', ys, h1, h2, h3, h4⟩ := cut_from t e .i64 ht hi hsz A c (x :: xs) 1 (by simp) hc
  obtain rfl : ys = xs := h2.out
  exact ⟨A', h1, h4⟩

theorem own_base {w : World} {B B' : Nat} {e : TypeId} {size n : Nat} {v : Value} {xs : List Value} (h : w.ownsRow B e size v n xs) (hB : B' ≤ B) : w.ownsRow B' e size v n xs := by
  refine ⟨h.1, ?_⟩
  rcases h.2 with h | ⟨g, cap, cur, h1, h2, h3⟩
  · exact .inl h
  · exact .inr ⟨g, cap, cur, h1, Nat.le_trans hB h2, h3⟩

end Go.Proofs.YtoeepfmmceilaaaGreatDoor
