/-
  list (30): what it is told; the append law as one step of a region that draws.
-/
import Derived.Test.Qxb6601677aListPlain
import Derived.Test.Qxb6601677aListSmall
import Derived.Deep.RegionHeld3
import Derived.Deep.LoopGhost
import Derived.Deep.CutBlock
namespace Go.Proofs.Qxb6601677a
open Go.ChangeShapes Go.WideShapes Go.ChangeAt Go.RowKit
set_option linter.unusedVariables false

theorem Try.info71 : (Try.prog.info? 71).map (fun i => (i.zero, i.size, i.bytes)) = some (some (.agg #[.int .i64 0, .pointer none]), 2, 16) := by kernel_rfl
theorem Try.info23 : (Try.prog.info? 23).map (fun i => (i.zero, i.size, i.bytes)) = some (some (.pointer none), 1, 8) := by kernel_rfl

/-- What list is told of its invocations: n of them, at the blocks from Bs on; the slice of their pointers lies in block S. -/
structure LPre (W : World) (S Bs n : Nat) (cs rs : List Int) : Prop where
  es : ∀ j, j < n → W.cell? ⟨S, j, none⟩ = some (.pointer (some ⟨Ls.E Bs j, 0, none⟩))
  eo : ∀ j, j < n → W.cell? ⟨Ls.E Bs j, 0, none⟩ = some (.pointer (some ⟨Bs + 3 * j, 0, none⟩))
  en : ∀ j, j < n → W.cell? ⟨Ls.E Bs j, 1, none⟩ = some (.pointer (some ⟨Ls.N Bs j, 0, none⟩))
  pc : ∀ j, j < n → W.cell? ⟨Bs + 3 * j, 9, none⟩ = some (.int .i64 (cs.getD j 0))
  pr : ∀ j, j < n → W.cell? ⟨Bs + 3 * j, 10, none⟩ = some (.int .i64 (rs.getD j 0))
  nl : ∀ b, (∃ j, j < n ∧ (b = Ls.E Bs j ∨ b = Ls.N Bs j)) → W.cell? ⟨b, 2, none⟩ = some (.pointer none) ∧ W.cell? ⟨b, 3, none⟩ = some (.pointer none) ∧ ∀ o, W.frozen? ⟨b, o, none⟩ = false
  lt : S < Bs ∧ Bs + 3 * n ≤ W.heap.size

def flat (l : List (Nat × Nat)) : List Value := l.flatMap fun x => [.int .i64 (x.1 : Int), .pointer (some ⟨x.2, 0, none⟩)]
theorem flat_length (l : List (Nat × Nat)) : (flat l).length = l.length * 2 := by
  induction l with
  | nil => rfl
  | cons x l ih => simp [flat] at *; omega
theorem flat_append (l r : List (Nat × Nat)) : flat (l ++ r) = flat l ++ flat r := by simp [flat]

/-- append, as one step of a region that draws. -/
theorem step_own {ops : Array Oper} {o : Oper} {a : Act} {w : World} {K : Act → World → Prop} {Q : Exit → Act → World → Prop} {X : Prop}
    (hg : o.guard = none) (s x : Operand) (t : TypeId) (hop : o.op = Op.call { callee := Callee.builtin Builtin.append, args := #[s, x], argTypes := #[t, t] })
    (base : Nat) (e : TypeId) (i : TypeInfo) (z : Value) (size bytes : Nat) (ht : Try.prog.underlying t = some (.slice e)) (hi : Try.prog.info? e = some i) (hz : i.zero = some z)
    (hsize : i.size = size) (hby : i.bytes = bytes) (hzs : z.cells.size = size) (hsz : 0 < size)
    (v : Value) (n : Nat) (xs : List Value) (hs : a.eval s = v) (hown : w.ownsRow base e size v n xs)
    (ad : Addr) (m c : Nat) (news : List Value) (hx : a.eval x = .slice (some ad) m c) (hl : news.length = m * size) (hnews : ∀ j u, news[j]? = some u → w.cell? (ad.add j) = some u) (h1 : ∀ u ∈ news, u.oneCell' = true)
    (h63 : n + m ≤ maxLen) (hbytes : (n + m) * bytes ≤ 140737488355328) (hbase : base ≤ w.heap.size)
    (hK : ∀ v' w', w'.ownsRow base e size v' (n + m) (xs ++ news) → w.grownBy w' v.ownBlock → K (a.put o.dst v') w') :
    if Region.wanted o (yielded ops a.tmps) = true then Oper.wp Try.prog o a w K Q else X := by
  have hw : Region.wanted o (yielded ops a.tmps) = true := by simp [Region.wanted, hg]
  rw [if_pos hw]
  obtain ⟨v', w', hrun, r1, r2, _⟩ := run_append_own (P := Try.prog) w base t o.type e i z size bytes ht hi hz hsize hby hzs hsz v n xs hown ad m c news hl hnews h1 h63 hbytes hbase
  unfold Oper.wp
  simp [execOp, hop, resolve, invoke, builtin, hs, hx, hrun, Result.andThen]
  exact hK v' w' r1 r2

theorem two_new (w : World) (x y : Value) (t : TypeId) : ∀ j u, [x, y][j]? = some u → (w.alloc (.cells #[x, y] t)).cell? ((⟨w.heap.size, 0, none⟩ : Addr).add j) = some u := by
  intro j u hu
  match j, hu with
  | 0, hu => simp at hu; subst hu; simp [Addr.add]
  | 1, hu => simp at hu; subst hu; simp [Addr.add]

theorem two_new_drew (w : World) (x y : Value) (t : TypeId) : ∀ j u, [x, y][j]? = some u → (w.alloc (.cells #[x, y] t)).drew.cell? ((⟨w.heap.size, 0, none⟩ : Addr).add j) = some u := two_new w x y t
theorem one_new (w : World) (x : Value) (t : TypeId) : ∀ j u, [x][j]? = some u → (w.alloc (.cells #[x] t)).cell? ((⟨w.heap.size, 0, none⟩ : Addr).add j) = some u := by
  intro j u hu
  match j, hu with
  | 0, hu => simp at hu; subst hu; simp [Addr.add]

theorem two_one (c : Int) (a : Option Addr) : ∀ u ∈ [Value.int .i64 c, Value.pointer a], u.oneCell' = true := by
  intro u hu
  simp at hu
  rcases hu with rfl | rfl <;> rfl

/-- Two rows of different element types lie in different blocks. -/
theorem own_ne {w : World} {b b' : Nat} {e e' : TypeId} {s s' n n' : Nat} {v v' : Value} {xs xs' : List Value} (h1 : w.ownsRow b e s v n xs) (h2 : w.ownsRow b' e' s' v' n' xs') (hne : e ≠ e') : v'.ownBlock = none ∨ v'.ownBlock ≠ v.ownBlock := by
  rcases h2.2 with ⟨rfl, _⟩ | ⟨g', cap', cur', rfl, _, hg', _⟩
  · exact .inl rfl
  · rcases h1.2 with ⟨rfl, _⟩ | ⟨g, cap, cur, rfl, _, hg, _⟩
    · exact .inr (by simp [Value.ownBlock])
    · refine .inr fun hh => ?_
      simp only [Value.ownBlock, Option.some.injEq] at hh
      subst hh
      rw [hg] at hg'
      simp at hg'
      exact hne hg'.2

end Go.Proofs.Qxb6601677a
