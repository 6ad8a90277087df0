/-
  The law's walk over this seat's program: it answers true.
  Conditions: the conditions are readable.
-/
import Derived.Test.YtimllpocefbcbaaWp
import Derived.Test.YtimllpocefbcbaaWr
import Derived.Test.YtimllpocefbcbaaWz
import Derived.Test.YtimllpocefbcbaaWh
import Derived.Test.YtimllpocefbcbaaWl
import Derived.Test.YtimllpocefbcbaaWd
namespace Go.Proofs.Ytimllpocefbcbaa.wr
open Go.ChangeShapes Go.WideShapes Go.ChangeAt Go.RowKit
open kit

def Nested (w : World) (n : Nat) (l : List ByteArray) (e : Ending) (w' : World) : Prop := (∃ v, e = .returned (.tuple #[v, .int .i64 0]) ∧ Ch w' n l v) ∧ Kept w w'
set_option maxRecDepth 100000 in
set_option maxHeartbeats 4000000 in
theorem nested (w : World) (v : Value) (n : Nat) (ac : Option Addr) (cc : Nat) (F : Cs) (h : Ch w n [] v) (hc : ImpsC w (.slice ac F.length cc) F) (hn : n ≤ 65536) (hF : F.length ≤ 4096) (hfit : Fit F F.length) : Calls Try.prog 7 #[v, .slice ac F.length cc] w (Nested w n (down n F 0)) := by
  have HW := Lib.hid (wrap w v n ac cc F h hc hn hF hfit)
  clear h hc hfit
  go_enter Try.func7, Try.ntmps7
  go_wp2_with fail
  refine HW.out.mono ?_
  rintro e w' ⟨⟨v', rfl, hch⟩, hk⟩
  have H := Lib.hid hch
  have K := Lib.hid hk
  clear hch hk HW
  go_wp2_with fail
  go_ret2
  exact ⟨⟨_, rfl, H.out⟩, K.out⟩

/-- the law's own two lists -/
def K1 (wB W : World) (t5 t6 : Value) (l : List It) : Prop := Wk W wB.heap.size 9 1 (fun s => [.string s]) t5 (l.map (·.1)) ∧ Wk W wB.heap.size 4 1 (fun b => [.bool b]) t6 (l.map (·.2)) ∧ Kept wB W
def TO (wB : World) (F : Cs) (t5 t6 t7 : Value) (W : World) : Prop := ∃ k : Nat, k ≤ F.length ∧ t7 = .int .i64 ((k : Int) - 1) ∧ K1 wB W t5 t6 (its F k)
def TLy (wB : World) (pre : List It) (L : List Bool) (t5 t6 t8 : Value) (W : World) : Prop := ∃ j : Nat, j ≤ L.length ∧ t8 = .int .i64 (j : Int) ∧ K1 wB W t5 t6 (pre ++ (L.take j).map (fun b => (lyr, b)))
def TSu (wB : World) (pre : List It) (m : Nat) (t5 t6 t9 : Value) (W : World) : Prop := ∃ j : Nat, j ≤ m ∧ t9 = .int .i64 (j : Int) ∧ K1 wB W t5 t6 (pre ++ List.replicate j (sup, false))
def TF (w2 : World) (l : List It) (t10 t11 : Value) (W : World) : Prop := ∃ i : Nat, i ≤ l.length ∧ t11 = .int .i64 (i : Int) ∧ t10 = .int .i64 (-1) ∧ (∀ j, j < i → (l.getD j default).2 = false) ∧ W = w2
def SCut (n : Nat) (l : List It) (t10 : Value) : Prop :=
  (∃ s : Nat, t10 = .int .i64 (s : Int) ∧ ((0 < n ∧ s = 0) ∨ (n = 0 ∧ s < l.length ∧ (l.getD s default).2 = true ∧ ∀ i, i < s → (l.getD i default).2 = false))) ∨ (t10 = .int .i64 (-1) ∧ n = 0 ∧ ∀ i, i < l.length → (l.getD i default).2 = false)
theorem items_len (c : Cnd) (h : Fit1 c) : (items c).length ≤ 131072 := by
  obtain ⟨h1, h2, h3⟩ := h
  unfold items
  simp only [List.length_append, List.length_map, List.length_replicate]
  omega
theorem its_len (F : Cs) (hfit : Fit F F.length) : ∀ m k, k + m = F.length → (its F k).length ≤ m * 131072 := by
  intro m
  induction m with
  | zero => intro k hk; obtain rfl : k = F.length := by omega
            rw [its_end]; simp
  | succ m ih =>
    intro k hk
    rw [its_step F (by omega), List.length_append]
    have := ih (k + 1) (by omega)
    have := items_len _ (hfit k (by omega))
    omega
theorem its_le (F : Cs) (hfit : Fit F F.length) (hn : F.length ≤ 4096) {k : Nat} (hk : k ≤ F.length) : (its F k).length ≤ 536870912 := by
  have h := its_len F hfit (F.length - k) k (by omega)
  have : (F.length - k) * 131072 ≤ 4096 * 131072 := Nat.mul_le_mul_right _ (by omega)
  omega
/-- one item pushed onto both lists -/
theorem K1.push {wB W W2 W3 : World} {o1 o2 : Obj} {t5 t6 v5 v6 : Value} {l : List It} (x : It) (h : K1 wB W t5 t6 l)
    (hown : W2.ownsRow wB.heap.size 9 1 v5 (l.length + 1) ((l.map (·.1)).flatMap (fun s => [Value.string s]) ++ [.string x.1])) (hg : (W.alloc o1).grownBy W2 t5.ownBlock) (hat : v5.ownBlock = t5.ownBlock ∨ v5.ownBlock = some (W.alloc o1).heap.size)
    (hown2 : W3.ownsRow wB.heap.size 4 1 v6 (l.length + 1) ((l.map (·.2)).flatMap (fun b => [Value.bool b]) ++ [.bool x.2])) (hg2 : (W2.alloc o2).grownBy W3 t6.ownBlock) (hat2 : v6.ownBlock = t6.ownBlock ∨ v6.ownBlock = some (W2.alloc o2).heap.size) :
    K1 wB W3 v5 v6 (l ++ [x]) := by
  obtain ⟨h5, h6, hk⟩ := h
  have p := push1 (u := x.1) (e := fun s => Value.string s) hk h5 (by rw [List.length_map]; exact hown) hg hat
  have h6b := p.2.2.wk h6 (own_apart h5.2 h6.2 (by decide))
  have q := push1 (u := x.2) (e := fun b => Value.bool b) p.2.1 h6b (by rw [List.length_map]; exact hown2) hg2 hat2
  have h5b := q.2.2.wk p.1 (own_apart h6b.2 p.1.2 (by decide))
  exact ⟨by rw [List.map_append]; exact h5b, by rw [List.map_append]; exact q.1, q.2.1⟩
/-- the second list between the two pushes -/
theorem K1.mid {wB W W2 : World} {o1 : Obj} {t5 t6 v5 : Value} {l : List It} (x : ByteArray) (h : K1 wB W t5 t6 l)
    (hown : W2.ownsRow wB.heap.size 9 1 v5 (l.length + 1) ((l.map (·.1)).flatMap (fun s => [Value.string s]) ++ [.string x])) (hg : (W.alloc o1).grownBy W2 t5.ownBlock) (hat : v5.ownBlock = t5.ownBlock ∨ v5.ownBlock = some (W.alloc o1).heap.size) :
    Wk W2 wB.heap.size 4 1 (fun b => [.bool b]) t6 (l.map (·.2)) ∧ Kept wB W2 := by
  obtain ⟨h5, h6, hk⟩ := h
  have p := push1 (u := x) (e := fun s => Value.string s) hk h5 (by rw [List.length_map]; exact hown) hg hat
  exact ⟨p.2.2.wk h6 (own_apart h5.2 h6.2 (by decide)), p.2.1⟩
theorem K1.forms {wB W : World} {t5 t6 : Value} {l : List It} (h : K1 wB W t5 t6 l) : (∃ a c, t5 = .slice a l.length c) ∧ ∃ a c, t6 = .slice a l.length c := by
  obtain ⟨⟨a5, c5, h5⟩, _⟩ := h.1
  obtain ⟨⟨a6, c6, h6⟩, _⟩ := h.2.1
  rw [List.length_map] at h5 h6
  exact ⟨⟨a5, c5, h5⟩, a6, c6, h6⟩
theorem cutD {n s : Nat} {l : List It} {D : List ByteArray} (hn : (0 < n → s = 0) → (n = 0 → s < l.length ∧ (l.getD s default).2 = true ∧ ∀ i, i < s → (l.getD i default).2 = false) → D = ((l.map (·.1)).drop s).reverse)
    (h : (0 < n ∧ s = 0) ∨ (n = 0 ∧ s < l.length ∧ (l.getD s default).2 = true ∧ ∀ i, i < s → (l.getD i default).2 = false)) : D = ((l.map (·.1)).drop s).reverse ∧ s ≤ l.length := by
  rcases h with ⟨h1, h2⟩ | ⟨h1, h2⟩
  · exact ⟨hn (fun _ => h2) (fun h => by omega), by omega⟩
  · exact ⟨hn (fun h => by omega) (fun _ => h2), by omega⟩
theorem backAt {l : List It} {s d : Nat} (hd : d < l.length - s) : (((l.map (·.1)).drop s).reverse).getD d ByteArray.empty = (l.map (·.1)).getD (l.length - 1 - d) ByteArray.empty := by
  have h1 : d < (((l.map (·.1)).drop s).reverse).length := by simp; omega
  have h2 : l.length - 1 - d < (l.map (·.1)).length := by simp; omega
  rw [List.getD_eq_getElem?_getD, List.getD_eq_getElem?_getD, List.getElem?_eq_getElem h1, List.getElem?_eq_getElem h2]
  simp only [Option.getD_some, List.getElem_reverse, List.getElem_drop, List.length_drop, List.length_map]
  congr 1
  omega
def TC (w6 : World) (m : Nat) (t16 : Value) (W : World) : Prop := ∃ d : Nat, d ≤ m ∧ t16 = .int .i64 (d : Int) ∧ Kept w6 W
theorem flat1 {α : Type} (f : α → Value) (l : List α) : (l.flatMap fun x => [f x]) = l.map f := by
  induction l with
  | nil => rfl
  | cons x r ih => rw [List.flatMap_cons, ih]; rfl
theorem K1.rows {wB W : World} {a5 a6 : Option Addr} {c5 c6 : Nat} {l : List It} (h : K1 wB W (.slice a5 l.length c5) (.slice a6 l.length c6) l) : Row W a5 l.length c5 ((l.map (·.1)).map Value.string) ∧ Row W a6 l.length c6 ((l.map (·.2)).map Value.bool) := by
  have h5 := h.1.2
  have h6 := h.2.1.2
  rw [List.length_map, flat1] at h5 h6
  exact ⟨Row.of_own h5, Row.of_own h6⟩
theorem K1.nil (wB : World) : K1 wB wB (.slice none 0 0) (.slice none 0 0) [] := ⟨Wk.nil _, Wk.nil _, Kept.refl _⟩
theorem info4 : (Try.prog.info? 4).map (fun i => (i.size, i.bytes, i.zero.map (·.cells.size))) = some (1, 1, some 1) := by kernel_rfl
end Go.Proofs.Ytimllpocefbcbaa.wr
