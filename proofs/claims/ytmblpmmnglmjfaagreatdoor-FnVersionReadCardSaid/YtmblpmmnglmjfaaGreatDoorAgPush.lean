/- append of one element onto a row of so many. -/
import Derived.Test.YtmblpmmnglmjfaaGreatDoorAgBytes
set_option linter.unusedVariables false
set_option linter.unusedSimpArgs false
namespace Go.Proofs.YtmblpmmnglmjfaaGreatDoor
open Go.RowKit

section
variable {P : Program}
theorem wpList_pushM {w : World} {ops : Array Oper} {rest : List Oper} {o : Oper} {a : Act} {Q : Exit → Act → World → Prop} (hgd : o.guard = none) (s x : Operand) (t : TypeId)
    (ho : o.op = .call { callee := .builtin .append, args := #[s, x], argTypes := #[t, t] })
    (base : Nat) (e : TypeId) (z : Value) (bytes : Nat) (ht : P.underlying t = some (.slice e)) (hinfo : (P.info? e).map (fun i => (i.zero, i.size, i.bytes)) = some (some z, 1, bytes)) (hz1 : z.cells.size = 1)
    (v : Value) (xs : List Value) (n : Nat) (hn : xs.length = n) (hs : a.eval s = v) (hown : w.ownsRow base e 1 v n xs) (b : Nat) (u : Value) (hx : a.eval x = .slice (some ⟨b, 0, none⟩) 1 1) (hb : Blk w b e #[u]) (h1 : u.oneCell' = true)
    (h63 : n + 1 ≤ 9223372036854775807) (hbytes : (n + 1) * bytes ≤ 140737488355328) (hbase : base ≤ w.heap.size)
    (h : ∀ (A' : Option Addr) (c' : Nat) w', w'.ownsRow base e 1 (.slice A' (n + 1) c') (n + 1) (xs ++ [u]) → w.grownBy w' v.ownBlock → ((Value.slice A' (n + 1) c').ownBlock = v.ownBlock ∨ ∃ k, (Value.slice A' (n + 1) c').ownBlock = some k ∧ w.heap.size ≤ k) → wpList P ops Q rest (a.put o.dst (.slice A' (n + 1) c')) w') :
    wpList P ops Q (o :: rest) a w := by
  subst hn
  refine wpList_push hgd s x t ho base e z bytes ht hinfo hz1 v xs hs hown b u hx hb h1 h63 hbytes hbase ?_
  intro A' c' w' h2 h3 h4
  refine h A' c' w' ?_ h3 h4
  simpa using h2
end

end Go.Proofs.YtmblpmmnglmjfaaGreatDoor
