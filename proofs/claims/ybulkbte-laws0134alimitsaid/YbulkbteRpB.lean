/- append of a row onto a row of the call's own, one law for nil and not. -/
import Derived.Test.YbulkbteMeet
import Derived.Laws.AppendOwnNone
namespace Go.Proofs.Ybulkbte
open Go.RowKit Go.WideShapes

theorem own_slice {w : World} {base e n : Nat} {v : Value} {us : List Value} (h : w.ownsRow base e 1 v n us) : ∃ ao cap, v = .slice ao n cap := by
  rcases h.2 with ⟨rfl, rfl⟩ | ⟨g, cap, cur, hv, _⟩
  · exact ⟨none, 0, rfl⟩
  · exact ⟨_, cap, hv⟩

theorem append_row {P : Program} {w : World} {ops : Array Oper} {rest : List Oper} {o : Oper} {a : Act} {Q : Exit → Act → World → Prop} (hgd : o.guard = none) (s x : Operand) (t : TypeId)
    (ho : o.op = .call { callee := .builtin .append, args := #[s, x], argTypes := #[t, t] })
    (base : Nat) (e : TypeId) (i : TypeInfo) (z : Value) (bytes : Nat) (ht : P.underlying t = some (.slice e)) (hi : P.info? e = some i) (hz : i.zero = some z)
    (hsize : i.size = 1) (hby : i.bytes = bytes) (hzs : z.cells.size = 1)
    (v : Value) (n : Nat) (xs : List Value) (hs : a.eval s = v) (hown : w.ownsRow base e 1 v n xs)
    (C : Nat) (xv : Value) (us : List Value) (hx : a.eval x = xv) (hr : Row C w xv us) (h1 : ∀ u ∈ us, u.oneCell' = true)
    (h63 : n + us.length ≤ maxLen) (hbytes : (n + us.length) * bytes ≤ 140737488355328) (hbase : base ≤ w.heap.size)
    (h : ∀ ao c w', w'.ownsRow base e 1 (.slice ao (n + us.length) c) (n + us.length) (xs ++ us) → w.grownBy w' v.ownBlock → wpList P ops Q rest (a.put o.dst (.slice ao (n + us.length) c)) w') : wpList P ops Q (o :: rest) a w := by
  obtain ⟨ao, c, rfl, hnil, hc⟩ := hr
  cases ao with
  | none =>
    obtain ⟨rfl, rfl⟩ := hnil rfl
    obtain ⟨vo, vc, hv⟩ := own_slice hown
    refine wpList_append_own_none hgd s x t ho base e i 1 ht hi v n xs hs hown hx ?_
    have := h vo vc w (by simpa [← hv] using hown) ⟨rfl, rfl, rfl, Nat.le_refl _, fun _ _ _ => rfl⟩
    rw [hv]
    exact this
  | some ad =>
    refine wpList_append_own _ hgd s x t ho base e i z 1 bytes ht hi hz hsize hby hzs (by decide) v n xs hs hown ad us.length c us hx (by simp) (fun j u hu => (hc ad rfl j u hu).2) h1 h63 hbytes hbase ?_
    intro v' w' ho' hg' _
    obtain ⟨vo, vc, hv⟩ := own_slice ho'
    subst hv
    exact h vo vc w' ho' hg'
end Go.Proofs.Ybulkbte
