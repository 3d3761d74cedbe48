/- Bytes of the call's own. Printed by gen_ag.py. -/
import Derived.Test.YtmblpmmnglmjfaaGreatDoorAgInfo
set_option linter.unusedVariables false
set_option linter.unusedSimpArgs false
namespace Go.Proofs.YtmblpmmnglmjfaaGreatDoor
open Go.RowKit

/-- New bytes of the call's own; all that was there stands. -/
def NewB (w w' : World) (v : Value) (l : List UInt8) : Prop := w'.ownsRow w.heap.size 5 1 v (l.map byteV).length (l.map byteV) ∧ Below w.heap.size w w'
theorem byteV_one (y : UInt8) : (byteV y).oneCell' = true := rfl
theorem strV_one (y : List UInt8) : (strV y).oneCell' = true := rfl
theorem own_block_lt_ {w : World} {B e size n : Nat} {v : Value} {xs : List Value} (h : w.ownsRow B e size v n xs) {k : Nat} (hk : v.ownBlock = some k) : B ≤ k := (h.lt k hk).1
theorem NewB.byts {w w' : World} {v : Value} {l : List UInt8} (h : NewB w w' v l) {ok : Nat → Prop} (ho : ∀ b, w.heap.size ≤ b → ok b) : Byts ok w' v l := own_SL h.1 (fun b hb => ho b (own_block_lt_ h.1 hb))
theorem ofNat_toNat (n : Nat) : ((UInt8.ofNat n).toNat : Int) = (n : Int) % 256 := by
  rw [UInt8.toNat_ofNat']
  omega
set_option maxHeartbeats 400000 in
theorem own_new (ok : Nat → Prop) (A : Option Addr) (c : Nat) (xs : List UInt8) (w : World) (hl : xs.length ≤ 70368744177664) (hr : RR (lit byteV) ok w A xs) :
    Calls Tryz.prog 17 #[.slice A xs.length c] w fun e w' => ∃ v, e = .returned v ∧ NewB w w' v xs := by
  have HR := Lib.hid hr
  clear hr
  go_enter Tryz.func17, Tryz.ntmps17
  go_wp2_with (at_builtin; refine wpList_append_RR rfl _ _ _ rfl w.heap.size 5 (.int .u8 0) 1 Tryz.underlying26 info_u8 rfl (.slice (some ⟨w.heap.size, 0, none⟩) 0 0) [] rfl (World.ownsRow_lit w #[] 0 (Nat.le_refl _) (by decide) rfl) byteV byteV_one A c xs rfl (RR.keep HR.out (lit_steady _) ((Keep.refl _ _).alloc _)) (by simp; omega) (by simp; omega) (by simp) ?_; intro A2 c2 w2 hown2 hg2 hat2)
  go_ret
  exact ⟨_, rfl, by simpa [NewB] using hown2, ((Below.refl _ _).alloc (Nat.le_refl _) _).grown hg2 (by simp) (fun k hk => by have h9 : w.heap.size = k := (by simpa [Value.ownBlock] using hk); omega)⟩
theorem commaTo_snoc (l : List (List UInt8)) (x : List UInt8) : ∀ (out : List UInt8) (i : Nat), commaTo out (l ++ [x]) i = (if 0 < i + l.length then commaTo out l i ++ [44] else commaTo out l i) ++ x := by
  induction l with
  | nil => intro out i; simp [commaTo]
  | cons s r ih =>
    intro out i
    simp only [List.cons_append, commaTo, ih, List.length_cons]
    rw [show i + 1 + r.length = i + (r.length + 1) by omega]
theorem commas_snoc (l : List (List UInt8)) (x : List UInt8) : commas (l ++ [x]) = (if 0 < l.length then commas l ++ [44] else commas l) ++ x := by
  unfold commas; rw [commaTo_snoc]; simp
theorem commas_le (l : List (List UInt8)) : ∀ n, (∀ x ∈ l, x.length ≤ n) → (commas l).length ≤ l.length * (n + 1) := by
  intro n
  have : ∀ (l : List (List UInt8)) (out : List UInt8) (i : Nat), (∀ x ∈ l, x.length ≤ n) → (commaTo out l i).length ≤ out.length + l.length * (n + 1) := by
    intro l
    induction l with
    | nil => intro out i _; simp [commaTo]
    | cons s r ih =>
      intro out i h
      have h1 := ih ((if 0 < i then out ++ [44] else out) ++ s) (i + 1) (fun x hx => h x (List.mem_cons_of_mem _ hx))
      have h2 := h s (List.mem_cons_self ..)
      simp only [commaTo, List.length_cons, Nat.add_mul] at *
      have h3 : (if 0 < i then out ++ [44] else out).length ≤ out.length + 1 := by split <;> simp
      rw [List.length_append] at h1
      omega
  intro h
  have := this l [] 0 h
  simpa [commas] using this
def NewS (w : World) (l : List UInt8) (e : Ending) (w' : World) : Prop := ∃ (A : Option Addr) (c : Nat), e = .returned (.slice A l.length c) ∧ w'.ownsRow w.heap.size 5 1 (.slice A l.length c) l.length (l.map byteV) ∧ l.length ≤ c ∧ c ≤ 9223372036854775807 ∧ Below w.heap.size w w'
theorem news_of {f : FuncId} {args : Array Value} {w : World} {l : List UInt8} (h : Calls Tryz.prog f args w fun e w' => ∃ v, e = .returned v ∧ NewB w w' v l) : Calls Tryz.prog f args w (NewS w l) := h.mono fun e w' ⟨v, he, h1, h2⟩ => by
  rw [List.length_map] at h1
  obtain ⟨A, c, rfl, h3, h4⟩ := own_form h1
  exact ⟨A, c, he, h1, h3, h4, h2⟩
theorem own_ne_obj {w : World} {B e size n k : Nat} {v : Value} {xs : List Value} {f : ByteArray} {p : Nat} (h : w.ownsRow B e size v n xs) (hk : w.heap[k]? = some (.stringIter f p)) : v.ownBlock ≠ some k := by
  intro hv
  rcases h.2 with ⟨rfl, _⟩ | ⟨g, cap, cur, rfl, _, hg, _⟩
  · simp [Value.ownBlock] at hv
  · simp [Value.ownBlock] at hv
    subst hv
    rw [hg] at hk
    cases hk
theorem own_byts {w : World} {B : Nat} {A : Option Addr} {c : Nat} {l : List UInt8} (h : w.ownsRow B 5 1 (.slice A l.length c) l.length (l.map byteV)) {ok : Nat → Prop} (ho : ∀ b, B ≤ b → ok b) : Byts ok w (.slice A l.length c) l := by
  obtain ⟨A', c', hv, h1, h2⟩ := own_form h
  injection hv with e1 e2 e3
  exact ⟨A, c, rfl, by omega, by omega, own_RR h (fun b hb => ho b (h.lt b hb).1)⟩
/-- []byte(s), in one world. -/
theorem to_bytes {P : Program} {src dst e : TypeId} {u : TypeDesc} (hs : P.underlying src = some u) (hd : P.underlying dst = some (.slice e)) (he : P.underlying e = some (.int .u8)) (w : World) (xs : List UInt8) (hl : xs.length ≤ 9223372036854775807) :
    ∃ c w', (convert src dst (.string ⟨xs.toArray⟩)).run P w = .ok (.slice (some ⟨w.heap.size, 0, none⟩) xs.length c) w' ∧ Below w.heap.size w w' ∧ w'.heap.size = w.heap.size + 1 ∧ xs.length ≤ c ∧ c ≤ 9223372036854775807 ∧
      ∀ ok : Nat → Prop, ok w.heap.size → RR (lit byteV) ok w' (some ⟨w.heap.size, 0, none⟩) xs := by
  have hsz : (⟨xs.toArray⟩ : ByteArray).size = xs.length := by simp [ByteArray.size]
  have h1 := Lib.run_convert_string_bytes (P := P) w src dst e ⟨xs.toArray⟩ hs hd he
  rw [hsz] at h1
  refine ⟨_, _, h1, ⟨rfl, rfl, rfl, by rw [Lib.bytesWorld_size]; omega, fun k hk => Lib.bytesWorld_at_old w e _ k hk⟩, Lib.bytesWorld_size _ _ _, grownCap_ge _ _ _ _, grownCap_le_maxLen _ _ _ _ hl, fun ok ho i x hx => ⟨_, _, rfl, ho, ?_, rfl⟩⟩
  obtain ⟨hlt, he⟩ := List.getElem?_eq_some_iff.1 hx
  have hadd : (⟨w.heap.size, 0, none⟩ : Addr).add i = ⟨w.heap.size, i, none⟩ := by unfold Addr.add; split <;> simp_all
  rw [hadd, Lib.bytesWorld_cell _ _ _ _ (by rw [hsz]; exact hlt)]
  simp [List.getD, hx, byteV]
/-- A slice without its first element. -/
theorem cut_tail {P : Program} {α : Type} (t e : TypeId) {i : TypeInfo} (ht : P.underlying t = some (.slice e)) (hi : P.info? e = some i) (hsz : i.size = 1) (A : Option Addr) (c : Nat) (x : α) (xs : List α) (hc : xs.length + 1 ≤ c) :
    ∃ A' : Option Addr, (∀ W : World, (Instr.slice t (.slice A (xs.length + 1) c) (some (.int .i64 1)) none none).run P W = .ok (.slice A' xs.length (c - 1)) W) ∧ ∀ (R : Say α) (ok : Nat → Prop) (w : World), RR R ok w A (x :: xs) → RR R ok w A' xs := by
  obtain ⟨A', ys, h1, h2, h3, h4⟩ := cut_from t e .i64 ht hi hsz A c (x :: xs) 1 (by simp) hc
  obtain rfl : ys = xs := h2.out
  exact ⟨A', h1, h4⟩

end Go.Proofs.YtmblpmmnglmjfaaGreatDoor
