/-
  The tokens that an escaped text is made of: their bytes, the code units that they denote, and what the writer's rounds lay down.
  Conditions: none; no program in sight.
-/
import Derived.Test.YteoeiklojidgnaaFmtKit
namespace Go.Proofs.YteoeiklojidgnaaFmt.uq

inductive Tok where
  | raw (c : Int)
  | u2 (c : Int)
  | u3 (c : Int)
  | u4 (r : Int)
  | nul
  | esc (e u : Int)
  | cont
  | hx2 (v : Int)
  | hx4 (v : Int)
/-- a hexadecimal digit's byte, as the printer writes it -/
def hexd (v : Int) : Int := if v < 10 then 48 + v else 55 + v
def Tok.bytes : Tok → List Int
  | .raw c => [c]
  | .u2 c => [192 + c / 64, 128 + c % 64]
  | .u3 c => [224 + c / 4096, 128 + c / 64 % 64, 128 + c % 64]
  | .u4 r => [240 + r / 262144, 128 + r / 4096 % 64, 128 + r / 64 % 64, 128 + r % 64]
  | .nul => [92, 48]
  | .esc e _ => [92, e]
  | .cont => [92, 10]
  | .hx2 v => [92, 120, hexd (v / 16), hexd (v % 16)]
  | .hx4 v => [92, 117, hexd (v / 4096), hexd (v / 256 % 16), hexd (v / 16 % 16), hexd (v % 16)]
def Tok.units : Tok → List Int
  | .raw c => [c]
  | .u2 c => [c]
  | .u3 c => [c]
  | .u4 r => [55296 + (r - 65536) / 1024, 56320 + (r - 65536) % 1024]
  | .nul => [0]
  | .esc _ u => [u]
  | .cont => []
  | .hx2 v => [v]
  | .hx4 v => [v]
def Tok.valid : Tok → Prop
  | .raw c => 0 ≤ c ∧ c < 128 ∧ c ≠ 92
  | .u2 c => 128 ≤ c ∧ c < 2048
  | .u3 c => 2048 ≤ c ∧ c < 65536 ∧ ¬ (55296 ≤ c ∧ c < 57344)
  | .u4 r => 65536 ≤ r ∧ r < 1114112
  | .nul => True
  | .esc e u => (e = 98 ∧ u = 8) ∨ (e = 102 ∧ u = 12) ∨ (e = 110 ∧ u = 10) ∨ (e = 114 ∧ u = 13) ∨ (e = 118 ∧ u = 11) ∨ (e = u ∧ (u = 92 ∨ u = 47 ∨ u = 39 ∨ u = 34 ∨ u = 96 ∨ u = 36))
  | .cont => True
  | .hx2 v => 0 ≤ v ∧ v < 256
  | .hx4 v => 0 ≤ v ∧ v < 65536
/-- its first byte is no decimal digit -/
def Tok.nodig : Tok → Prop
  | .raw c => ¬ (48 ≤ c ∧ c ≤ 57)
  | _ => True
theorem Tok.bytes_ne (t : Tok) : 0 < t.bytes.length := by cases t <;> simp [Tok.bytes]
theorem Tok.bytes_le (t : Tok) : t.bytes.length ≤ 6 := by cases t <;> simp [Tok.bytes]
theorem Tok.first (t : Tok) (hv : t.valid) (hn : t.nodig) : ∃ b, t.bytes[0]? = some b ∧ ¬ (48 ≤ b ∧ b ≤ 57) := by
  cases t <;> simp only [Tok.bytes, Tok.valid, Tok.nodig, List.getElem?_cons_zero, Option.some.injEq, exists_eq_left'] at * <;> omega

def Ok (T : List Tok) : Prop := ∀ k t, T[k]? = some t → t.valid ∧ (t = .nul → ∀ t2, T[k + 1]? = some t2 → t2.nodig)
def bytesT (T : List Tok) : List Int := T.flatMap Tok.bytes
def unitsT (T : List Tok) : List Int := T.flatMap Tok.units
theorem Ok.nil : Ok [] := fun k t h => by simp at h
theorem Ok.snoc {T : List Tok} {t : Tok} (h : Ok T) (hv : t.valid) (hn : T.getLast? = some .nul → t.nodig) : Ok (T ++ [t]) := by
  intro k u hk
  rcases Nat.lt_trichotomy k T.length with hlt | heq | hgt
  · rw [List.getElem?_append_left hlt] at hk
    obtain ⟨h1, h2⟩ := h k u hk
    refine ⟨h1, fun e t2 h3 => ?_⟩
    by_cases hl : k + 1 < T.length
    · rw [List.getElem?_append_left hl] at h3
      exact h2 e t2 h3
    · have hk1 : k + 1 = T.length := by omega
      rw [hk1] at h3
      simp at h3
      subst h3
      refine hn ?_
      rw [List.getLast?_eq_getElem?, ← hk1]
      simpa [e] using hk
  · subst heq
    simp at hk
    subst hk
    exact ⟨hv, fun _ t2 h3 => by simp at h3⟩
  · rw [List.getElem?_eq_none (by simp; omega)] at hk
    cases hk
theorem bytesT_snoc (T : List Tok) (t : Tok) : bytesT (T ++ [t]) = bytesT T ++ t.bytes := by simp [bytesT]
theorem unitsT_snoc (T : List Tok) (t : Tok) : unitsT (T ++ [t]) = unitsT T ++ t.units := by simp [unitsT]

def dig (c : Int) : Prop := 48 ≤ c ∧ c ≤ 57
/-- the writer stands at unit i of U and has laid T -/
structure At (U : List Int) (i : Nat) (T : List Tok) : Prop where
  ok : Ok T
  units : unitsT T = U.take i
  last : T.getLast? = some .nul → ∀ c, U[i]? = some c → ¬ dig c
  size : (bytesT T).length ≤ 14 * i
theorem At.nil (U : List Int) : At U 0 [] := ⟨Ok.nil, by simp [unitsT], fun h => by simp at h, by simp [bytesT]⟩
/-- a round of one unit, with or without a line's end ahead of it -/
def lead (b : Bool) : List Tok := if b then [.cont] else []
theorem At.one {U : List Int} {i : Nat} {T : List Tok} (h : At U i T) (b : Bool) {c : Int} (hc : U[i]? = some c) (t : Tok) (hv : t.valid) (hu : t.units = [c]) (hd : t.nodig ∨ t = .raw c) (hl : t = .nul → ∀ d, U[i + 1]? = some d → ¬ dig d) : At U (i + 1) (T ++ lead b ++ [t]) := by
  have hok : Ok (T ++ lead b) := by
    cases b
    · simpa [lead] using h.ok
    · exact h.ok.snoc trivial (fun _ => trivial)
  have hlast : (T ++ lead b).getLast? = some .nul → t.nodig := by
    intro e
    rcases hd with hd | rfl
    · exact hd
    · cases b
      · have := h.last (by simpa [lead] using e) c hc
        exact this
      · simp [lead] at e
  have hs := h.size
  have hb := t.bytes_le
  refine ⟨hok.snoc hv hlast, ?_, ?_, ?_⟩
  · rw [unitsT_snoc, hu]
    have e1 : unitsT (T ++ lead b) = U.take i := by
      cases b
      · simpa [lead] using h.units
      · rw [show lead true = [.cont] from rfl, unitsT_snoc, h.units]; simp [Tok.units]
    rw [e1, List.take_add_one, hc]
    rfl
  · intro e
    have : t = .nul := by simpa using e
    exact hl this
  · rw [bytesT_snoc]
    cases b
    · simp [lead]; omega
    · rw [show lead true = [.cont] from rfl, bytesT_snoc]; simp [Tok.bytes] at *; omega
/-- a round of a surrogate pair -/
theorem At.pair {U : List Int} {i : Nat} {T : List Tok} (h : At U i T) (b : Bool) {c d : Int} (hc : U[i]? = some c) (hd : U[i + 1]? = some d) (ts : List Tok) (hok : Ok ts) (hn : ∀ t, ts[0]? = some t → t.nodig) (hnl : ts.getLast? ≠ some .nul) (hne : ts ≠ []) (hu : unitsT ts = [c, d]) (hb : (bytesT ts).length ≤ 12) : At U (i + 2) (T ++ lead b ++ ts) := by
  have hs := h.size
  refine ⟨?_, ?_, ?_, ?_⟩
  · have key : ∀ (n : Nat) (ts2 : List Tok), ts2.length = n → ∀ A : List Tok, Ok A → Ok ts2 → (∀ t, ts2[0]? = some t → A.getLast? = some .nul → t.nodig) → Ok (A ++ ts2) := by
      intro n
      induction n with
      | zero => intro ts2 e A hA _ _; rw [List.length_eq_zero_iff.1 e]; simpa using hA
      | succ n ih =>
        intro ts2 e A hA h2 h3
        rcases ts2 with _ | ⟨t, ts3⟩
        · simp at e
        · rw [show A ++ t :: ts3 = (A ++ [t]) ++ ts3 by simp]
          refine ih ts3 (by simpa using e) (A ++ [t]) (hA.snoc (h2 0 t rfl).1 (h3 t rfl)) (fun k u hk => h2 (k + 1) u (by simpa using hk)) (fun u hu2 hl => ?_)
          have e1 : t = .nul := by simpa using hl
          exact (h2 0 t rfl).2 e1 u (by simpa using hu2)
    have hok2 : Ok (T ++ lead b) := by
      cases b
      · simpa [lead] using h.ok
      · exact h.ok.snoc trivial (fun _ => trivial)
    exact key _ ts rfl _ hok2 hok (fun t ht _ => hn t ht)
  · have e1 : unitsT (T ++ lead b) = U.take i := by
      cases b
      · simpa [lead] using h.units
      · rw [show lead true = [.cont] from rfl, unitsT_snoc, h.units]; simp [Tok.units]
    have e2 : unitsT (T ++ lead b ++ ts) = unitsT (T ++ lead b) ++ unitsT ts := by simp [unitsT]
    rw [e2, e1, hu, show i + 2 = i + 1 + 1 from rfl, List.take_add_one, List.take_add_one, hc, hd]
    simp
  · intro e
    rw [List.getLast?_append, List.getLast?_eq_some_getLast hne] at e
    exact absurd (by rw [List.getLast?_eq_some_getLast hne]; simpa using e) hnl
  · have e2 : bytesT (T ++ lead b ++ ts) = bytesT (T ++ lead b) ++ bytesT ts := by simp [bytesT]
    rw [e2]
    cases b
    · simp [lead]; omega
    · rw [show lead true = [.cont] from rfl, bytesT_snoc]; simp [Tok.bytes] at *; omega

/-- where token k begins -/
def pos (T : List Tok) (k : Nat) : Nat := (bytesT (T.take k)).length
theorem pos_succ {T : List Tok} {k : Nat} {t : Tok} (h : T[k]? = some t) : pos T (k + 1) = pos T k + t.bytes.length := by
  unfold pos
  rw [List.take_add_one, h, show (some t).toList = [t] from rfl, bytesT_snoc, List.length_append]
theorem units_succ {T : List Tok} {k : Nat} {t : Tok} (h : T[k]? = some t) : unitsT (T.take (k + 1)) = unitsT (T.take k) ++ t.units := by
  rw [List.take_add_one, h, show (some t).toList = [t] from rfl, unitsT_snoc]
theorem split {T : List Tok} {k : Nat} {t : Tok} (h : T[k]? = some t) : T = T.take k ++ t :: T.drop (k + 1) := by
  obtain ⟨hl, e⟩ := List.getElem?_eq_some_iff.1 h
  rw [← e]
  simp
theorem byte_at {T : List Tok} {k : Nat} {t : Tok} (h : T[k]? = some t) (j : Nat) (hj : j < t.bytes.length) : (bytesT T)[pos T k + j]? = t.bytes[j]? := by
  have e : bytesT T = bytesT (T.take k) ++ (t.bytes ++ bytesT (T.drop (k + 1))) := by
    conv => lhs; rw [split h]
    simp [bytesT]
  rw [e, List.getElem?_append_right (by unfold pos; omega)]
  unfold pos
  rw [Nat.add_sub_cancel_left, List.getElem?_append_left hj]
theorem pos_lt {T : List Tok} {k : Nat} (h : k < T.length) : pos T k < (bytesT T).length := by
  obtain ⟨t, ht⟩ : ∃ t, T[k]? = some t := ⟨T[k], by simp [h]⟩
  have h1 := byte_at ht 0 t.bytes_ne
  have := t.bytes_ne
  obtain ⟨b, hb⟩ : ∃ b, t.bytes[0]? = some b := ⟨t.bytes[0], by simp [this]⟩
  rw [hb] at h1
  exact (List.getElem?_eq_some_iff.1 h1).1
theorem pos_end {T : List Tok} {k : Nat} (h : T.length ≤ k) : pos T k = (bytesT T).length := by unfold pos; rw [List.take_of_length_le h]
theorem pos_le {T : List Tok} {k : Nat} {t : Tok} (h : T[k]? = some t) : pos T k + t.bytes.length ≤ (bytesT T).length := by
  rw [← pos_succ h]
  by_cases hl : k + 1 < T.length
  · exact Nat.le_of_lt (pos_lt hl)
  · exact Nat.le_of_eq (pos_end (by omega))
/-- behind a NUL's escape comes no digit -/
theorem nul_next {T : List Tok} (hok : Ok T) {k : Nat} (h : T[k]? = some .nul) : (bytesT T).length = pos T k + 2 ∨ ∃ b, (bytesT T)[pos T k + 2]? = some b ∧ ¬ (48 ≤ b ∧ b ≤ 57) := by
  have hp : pos T (k + 1) = pos T k + 2 := pos_succ h
  by_cases hl : k + 1 < T.length
  · obtain ⟨t2, ht⟩ : ∃ t, T[k + 1]? = some t := ⟨T[k + 1], by simp [hl]⟩
    obtain ⟨b, h1, h2⟩ := t2.first (hok (k + 1) t2 ht).1 ((hok k _ h).2 rfl t2 ht)
    refine .inr ⟨b, ?_, h2⟩
    rw [← hp, ← h1]
    exact byte_at ht 0 t2.bytes_ne
  · exact .inl (by rw [← hp]; exact (pos_end (by omega)).symm)
theorem units_le (T : List Tok) : (unitsT T).length ≤ (bytesT T).length := by
  induction T with
  | nil => simp [unitsT, bytesT]
  | cons t T ih =>
    have : t.units.length ≤ t.bytes.length := by cases t <;> simp [Tok.units, Tok.bytes]
    simp only [unitsT, bytesT, List.flatMap_cons, List.length_append] at *
    omega
end Go.Proofs.YteoeiklojidgnaaFmt.uq
