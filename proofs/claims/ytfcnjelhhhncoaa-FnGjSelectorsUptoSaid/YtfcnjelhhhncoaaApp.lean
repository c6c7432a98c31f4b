/- append to a slice of bytes of one's own, at the seat's own type numbers: []byte 41, byte 5, string 9. -/
import Derived.Test.YtfcnjelhhhncoaaProg
import Derived.Test.YtfcnjelhhhncoaaOwn
namespace Go.Proofs.Ytfcnjelhhhncoaa.L
open Go.RowKit
set_option linter.unusedVariables false

theorem info_u8 : (Try.prog.info? 5).map (fun i => (i.zero, i.size, i.bytes)) = some (some (.int .u8 0), 1, 1) := by kernel_rfl

theorem app_rd {ops : Array Oper} {rest : List Oper} {o : Oper} {a : Act} {Q : Exit → Act → World → Prop} (w : World) (hgd : o.guard = none) (sl xo : Operand)
    (ho : o.op = .call { callee := .builtin .append, args := #[sl, xo], argTypes := #[41, 41] })
    (base : Nat) (v : Value) (s r : ByteArray) (A : Option Addr) (n c : Nat) (hs : a.eval sl = v) (hx : a.eval xo = .slice A n c) (hn : n = r.size) (hown : Own w base v s) (hr : Rd w A r)
    (hsz : s.size + r.size ≤ 140737488355328) (hbase : base ≤ w.heap.size)
    (h : ∀ v' w', Own w' base v' (s ++ r) → w.grownBy w' v.ownBlock → (v'.ownBlock = v.ownBlock ∨ v'.ownBlock = some w.heap.size) → wpList Try.prog ops Q rest (a.put o.dst v') w') : wpList Try.prog ops Q (o :: rest) a w := by
  obtain ⟨i, hi, hz, hz1, hz2⟩ := info_parts info_u8
  subst hn
  exact wpList_append_bytes w hgd sl xo 41 41 ho base 5 i Try.underlying41 (.inl Try.underlying41) hi hz hz1 hz2 v _ s r hs hx hown (fun _ => rfl) (fun W hW => rd_first hr c W hW) hsz hbase h

theorem app_str {ops : Array Oper} {rest : List Oper} {o : Oper} {a : Act} {Q : Exit → Act → World → Prop} (w : World) (hgd : o.guard = none) (sl xo : Operand)
    (ho : o.op = .call { callee := .builtin .append, args := #[sl, xo], argTypes := #[41, 9] })
    (base : Nat) (v : Value) (s r : ByteArray) (hs : a.eval sl = v) (hx : a.eval xo = .string r) (hown : Own w base v s)
    (hsz : s.size + r.size ≤ 140737488355328) (hbase : base ≤ w.heap.size)
    (h : ∀ v' w', Own w' base v' (s ++ r) → w.grownBy w' v.ownBlock → (v'.ownBlock = v.ownBlock ∨ v'.ownBlock = some w.heap.size) → wpList Try.prog ops Q rest (a.put o.dst v') w') : wpList Try.prog ops Q (o :: rest) a w := by
  obtain ⟨i, hi, hz, hz1, hz2⟩ := info_parts info_u8
  exact wpList_append_bytes w hgd sl xo 41 9 ho base 5 i Try.underlying41 (.inr Try.underlying9) hi hz hz1 hz2 v _ s r hs hx hown (fun _ => rfl) (fun W _ => str_first r W) hsz hbase h

theorem step_app_rd {ops : Array Oper} {o : Oper} {a : Act} {K : Act → World → Prop} {Q : Exit → Act → World → Prop} {E : Prop} (w : World) (hgd : o.guard = none) (sl xo : Operand)
    (ho : o.op = .call { callee := .builtin .append, args := #[sl, xo], argTypes := #[41, 41] })
    (base : Nat) (v : Value) (s r : ByteArray) (A : Option Addr) (n c : Nat) (hs : a.eval sl = v) (hx : a.eval xo = .slice A n c) (hn : n = r.size) (hown : Own w base v s) (hr : Rd w A r)
    (hsz : s.size + r.size ≤ 140737488355328) (hbase : base ≤ w.heap.size)
    (h : ∀ v' w', Own w' base v' (s ++ r) → w.grownBy w' v.ownBlock → (v'.ownBlock = v.ownBlock ∨ v'.ownBlock = some w.heap.size) → K (a.put o.dst v') w') :
    if Region.wanted o (yielded ops a.tmps) = true then Oper.wp Try.prog o a w K Q else E := by
  obtain ⟨i, hi, hz, hz1, hz2⟩ := info_parts info_u8
  subst hn
  exact step_append_bytes w hgd sl xo 41 41 ho base 5 i Try.underlying41 (.inl Try.underlying41) hi hz hz1 hz2 v _ s r hs hx hown (fun _ => rfl) (fun W hW => rd_first hr c W hW) hsz hbase h
end Go.Proofs.Ytfcnjelhhhncoaa.L
