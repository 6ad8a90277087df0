/-
  What the sorted row says in plain lists: it is the model's list, or as long as it, in order, with the same members.
  Conditions: none; no program in sight.
-/
import Derived.Test.YtbnkhpbgibgahaaSp
namespace Go.Proofs.Ytbnkhpbgibgahaa.ms
open Go.Sort

theorem permIn_perm {d R : Array En} (h : PermIn 0 d.size d R) : R.toList.Perm d.toList := by
  obtain ⟨h1, _, h3⟩ := h
  have e1 : R.extract 0 d.size = R := by rw [← h1]; exact Array.extract_size
  have e2 : d.extract 0 d.size = d := Array.extract_size
  rw [e1, e2] at h3
  exact h3
theorem sortedIn_pairwise {R : Array En} (h : SortedIn klt 0 R.size R) : R.toList.Pairwise (fun a b => klt b a = false) := by
  rw [List.pairwise_iff_getElem]
  intro i j hi hj hij
  have hi2 : i < R.size := by simpa using hi
  have hj2 : j < R.size := by simpa using hj
  have := h i j (Nat.zero_le _) hij hj2
  rw [getElem!_pos R i hi2, getElem!_pos R j hj2] at this
  simpa using this
/-- neighbours differ in their keys: then the keys rise -/
theorem keys_rise {M : List En} (h : M.Pairwise (fun a b => elt a b = true)) (hn : ∀ k (hk : k + 1 < M.length), ¬ (M[k + 1].s = M[k].s ∧ M[k + 1].inn = M[k].inn)) : M.Pairwise (fun a b => klt a b = true) := by
  rw [List.pairwise_iff_getElem] at h ⊢
  intro i j hi hj hij
  have h1 := h i (i + 1) hi (by omega) (by omega)
  have h2 := hn i (by omega)
  rw [elt_iff] at h1
  rw [klt_iff]
  by_cases hc : i + 1 = j
  · subst hc
    omega
  · have h3 := h (i + 1) j (by omega) hj (by omega)
    rw [elt_iff] at h3
    omega
/-- the first law: the sorted row is the model -/
theorem law_exact {d R : Array En} {L M : List En} (hp : PermIn 0 d.size d R) (hs : SortedIn klt 0 d.size R) (hd : d.toList.Nodup) (hm : DD L M) (hmem : ∀ e, e ∈ d.toList ↔ e ∈ L) (hn : ∀ k (hk : k + 1 < M.length), ¬ (M[k + 1].s = M[k].s ∧ M[k + 1].inn = M[k].inn)) : R.toList = M := by
  have hsz : R.size = d.size := hp.1
  rw [← hsz] at hs
  refine same_of_sorted ((permIn_perm hp).trans (perm_of_mem hd hm.nodup (fun e => by rw [hmem, hm.mem]))) (sortedIn_pairwise hs) (keys_rise hm.ord hn)
/-- the second law: it is as long, in order, and has the same members once each -/
theorem law_set {d R : Array En} {L M : List En} (hp : PermIn 0 d.size d R) (hd : d.toList.Nodup) (hm : DD L M) (hmem : ∀ e, e ∈ d.toList ↔ e ∈ L) : R.toList.length = M.length ∧ R.toList.Nodup ∧ ∀ e, e ∈ R.toList ↔ e ∈ L := by
  have h1 := permIn_perm hp
  exact ⟨(h1.trans (perm_of_mem hd hm.nodup (fun e => by rw [hmem, hm.mem]))).length_eq, h1.nodup_iff.2 hd, fun e => by rw [h1.mem_iff, hmem]⟩
end Go.Proofs.Ytbnkhpbgibgahaa.ms
