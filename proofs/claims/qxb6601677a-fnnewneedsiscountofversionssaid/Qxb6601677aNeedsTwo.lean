/-
  FnNewNeedsOrderFree: the calls in their order and in the reverse; what the law's loops read.
-/
import Derived.Test.Qxb6601677aNeedsMake
namespace Go.Proofs.Qxb6601677a
open Go.RowKit
set_option linter.unusedVariables false

def idx5 (n i : Nat) : Nat := if i % 2 = 0 then i / 2 else n - 1 - i / 2
theorem idx5_even (n k : Nat) : idx5 n (2 * k) = k := by unfold idx5; rw [if_pos (by omega)]; omega
theorem idx5_odd (n k : Nat) : idx5 n (2 * k + 1) = n - 1 - k := by unfold idx5; rw [if_neg (by omega)]; congr 1; omega

def E1 (Bs j : Nat) : Nat := Bs + 2 * (2 * j) + 1
def E2 (Bs j : Nat) : Nat := Bs + 2 * (2 * j + 1) + 1

/-- After k1 calls in their order and k2 in the reverse. -/
structure M5 (W7 : World) (base ES FS n : Nat) (a : Nat → Int) (r o : Nat → ByteArray) (k1 k2 : Nat) (wx : World) : Prop where
  made : MK W7 (fun b => b = ES ∨ b = FS) a r o (k1 + k2) wx
  es : wx.ownsRow base 23 1 (.slice (some ⟨ES, 0, none⟩) n n) n (ptrR (E1 W7.heap.size) n k1)
  fs : wx.ownsRow base 23 1 (.slice (some ⟨FS, 0, none⟩) n n) n (ptrR (E2 W7.heap.size) n k2)

/-- The world behind ZZNewNeedsCall, in a round. -/
structure NR5 (B0 B1 B2 i S k : Nat) (x : Int) (p q : ByteArray) (w : World) : Prop where
  c0 : w.cell? ⟨B0, i, none⟩ = some (.int .i64 x)
  c1 : w.cell? ⟨B1, i, none⟩ = some (.string p)
  c2 : w.cell? ⟨B2, i, none⟩ = some (.string q)
  e0 : w.cell? ⟨S, k, none⟩ = some (.pointer none)
  ef : w.frozen? ⟨S, k, none⟩ = false

theorem made2_cell (w : World) (x : Int) (p q : ByteArray) (b o : Nat) (hb : b < w.heap.size) : (made2 w x p q).cell? ⟨b, o, none⟩ = w.cell? ⟨b, o, none⟩ := World.cell?_of_block (w := w) (a := ⟨b, o, none⟩) (made2_old w x p q b hb)
theorem made2_frozen (w : World) (x : Int) (p q : ByteArray) (b o : Nat) (hb : b < w.heap.size) : (made2 w x p q).frozen? ⟨b, o, none⟩ = w.frozen? ⟨b, o, none⟩ := World.frozen?_of_block (w := w) (a := ⟨b, o, none⟩) (made2_old w x p q b hb)
theorem made2_row {w : World} {base : Nat} {e : TypeId} {size : Nat} {v : Value} {n : Nat} {xs : List Value} (hv : w.ownsRow base e size v n xs) (x : Int) (p q : ByteArray) : (made2 w x p q).ownsRow base e size v n xs := (hv.alloc _).alloc _
theorem ptrR_nil (f : Nat → Nat) (n k : Nat) (hk : k < n) : (ptrR f n k)[k]? = some (.pointer none) := by
  unfold ptrR cpyR
  rw [List.getElem?_append_right (by simp)]
  simp only [List.length_map, List.length_range, Nat.sub_self]
  rw [List.getElem?_replicate, if_pos (by omega)]

theorem M5.drew {W7 : World} {base ES FS n : Nat} {a : Nat → Int} {r o : Nat → ByteArray} {k1 k2 : Nat} {w : World} (h : M5 W7 base ES FS n a r o k1 k2 w) : M5 W7 base ES FS n a r o k1 k2 w.drew := ⟨h.made.drew, h.es, h.fs⟩

theorem half_a {W7 : World} {base ES FS n : Nat} {a : Nat → Int} {r o : Nat → ByteArray} {k : Nat} {W : World} (h : M5 W7 base ES FS n a r o k k W) (hk : k < n) (h1 : ES < W7.heap.size) (h2 : FS < W7.heap.size) (hne : ES ≠ FS)
    (x : Int) (p q : ByteArray) (hx : x = a (2 * k)) (hp : p = r (2 * k)) (hq : q = o (2 * k)) (B0 B1 B2 i : Nat) (hB0 : B0 < W7.heap.size) (hB1 : B1 < W7.heap.size) (hB2 : B2 < W7.heap.size)
    (d0 : W.cell? ⟨B0, i, none⟩ = some (.int .i64 x)) (d1 : W.cell? ⟨B1, i, none⟩ = some (.string p)) (d2 : W.cell? ⟨B2, i, none⟩ = some (.string q)) (Ek : Nat) (hE : Ek = E1 W7.heap.size k) :
    Calls Try.prog 14 #[.int .i64 x, .string p, .string q] W fun e w' => e = .returned (.pointer (some ⟨Ek, 0, none⟩)) ∧ NR5 B0 B1 B2 i ES k x p q w' ∧
      Hid (M5 W7 base ES FS n a r o (k + 1) k (w'.setCell ⟨ES, k, none⟩ (.pointer (some ⟨Ek, 0, none⟩)))) := by
  have hsz := h.made.size
  refine (call_any x p q W).mono ?_
  rintro e w' ⟨rfl, rfl⟩
  refine ⟨by rw [hE, E1, hsz]; congr 5; omega, ⟨?_, ?_, ?_, ?_, ?_⟩, ?_⟩
  · rw [made2_cell _ _ _ _ _ _ (by omega)]; exact d0
  · rw [made2_cell _ _ _ _ _ _ (by omega)]; exact d1
  · rw [made2_cell _ _ _ _ _ _ (by omega)]; exact d2
  · rw [made2_cell _ _ _ _ _ _ (by omega), h.es.cellAt k (by omega)]; exact ptrR_nil _ _ _ hk
  · rw [made2_frozen _ _ _ _ _ _ (by omega)]; exact h.es.frozenAt k
  · have hm := (h.made.make x p q (by rw [hx]; congr 1; omega) (by rw [hp]; congr 1; omega) (by rw [hq]; congr 1; omega)).set (g := ES) (.inl rfl) h1 k (.pointer (some ⟨Ek, 0, none⟩))
    refine ⟨by rw [show k + 1 + k = k + k + 1 by omega]; exact hm, ?_, ?_⟩
    · have r2 := ((made2_row h.es x p q).stored k (.pointer (some ⟨Ek, 0, none⟩))).1
      rw [hE] at r2 ⊢
      unfold ptrR at r2 ⊢
      rw [cpyR_set (fun j => .pointer (some ⟨E1 W7.heap.size j, 0, none⟩)) _ _ _ hk] at r2
      exact r2
    · exact ownsRow_setCell_other (made2_row h.fs x p q) (by simp [Value.ownBlock]; exact fun e => hne e.symm) _

theorem half_b {W7 : World} {base ES FS n : Nat} {a : Nat → Int} {r o : Nat → ByteArray} {k : Nat} {W : World} (h : M5 W7 base ES FS n a r o (k + 1) k W) (hk : k < n) (h1 : ES < W7.heap.size) (h2 : FS < W7.heap.size) (hne : ES ≠ FS)
    (x : Int) (p q : ByteArray) (hx : x = a (2 * k + 1)) (hp : p = r (2 * k + 1)) (hq : q = o (2 * k + 1)) (B0 B1 B2 i : Nat) (hB0 : B0 < W7.heap.size) (hB1 : B1 < W7.heap.size) (hB2 : B2 < W7.heap.size)
    (d0 : W.cell? ⟨B0, i, none⟩ = some (.int .i64 x)) (d1 : W.cell? ⟨B1, i, none⟩ = some (.string p)) (d2 : W.cell? ⟨B2, i, none⟩ = some (.string q)) (Ek : Nat) (hE : Ek = E2 W7.heap.size k) :
    Calls Try.prog 14 #[.int .i64 x, .string p, .string q] W fun e w' => e = .returned (.pointer (some ⟨Ek, 0, none⟩)) ∧ NR5 B0 B1 B2 i FS k x p q w' ∧
      Hid (M5 W7 base ES FS n a r o (k + 1) (k + 1) (w'.setCell ⟨FS, k, none⟩ (.pointer (some ⟨Ek, 0, none⟩)))) := by
  have hsz := h.made.size
  refine (call_any x p q W).mono ?_
  rintro e w' ⟨rfl, rfl⟩
  refine ⟨by rw [hE, E2, hsz]; congr 5; omega, ⟨?_, ?_, ?_, ?_, ?_⟩, ?_⟩
  · rw [made2_cell _ _ _ _ _ _ (by omega)]; exact d0
  · rw [made2_cell _ _ _ _ _ _ (by omega)]; exact d1
  · rw [made2_cell _ _ _ _ _ _ (by omega)]; exact d2
  · rw [made2_cell _ _ _ _ _ _ (by omega), h.fs.cellAt k (by omega)]; exact ptrR_nil _ _ _ hk
  · rw [made2_frozen _ _ _ _ _ _ (by omega)]; exact h.fs.frozenAt k
  · have hm := (h.made.make x p q (by rw [hx]; congr 1; omega) (by rw [hp]; congr 1; omega) (by rw [hq]; congr 1; omega)).set (g := FS) (.inr rfl) h2 k (.pointer (some ⟨Ek, 0, none⟩))
    refine ⟨by rw [show k + 1 + (k + 1) = k + 1 + k + 1 by omega]; exact hm, ?_, ?_⟩
    · exact ownsRow_setCell_other (made2_row h.es x p q) (by simp [Value.ownBlock]; exact hne) _
    · have r2 := ((made2_row h.fs x p q).stored k (.pointer (some ⟨Ek, 0, none⟩))).1
      rw [hE] at r2 ⊢
      unfold ptrR at r2 ⊢
      rw [cpyR_set (fun j => .pointer (some ⟨E2 W7.heap.size j, 0, none⟩)) _ _ _ hk] at r2
      exact r2

end Go.Proofs.Qxb6601677a
