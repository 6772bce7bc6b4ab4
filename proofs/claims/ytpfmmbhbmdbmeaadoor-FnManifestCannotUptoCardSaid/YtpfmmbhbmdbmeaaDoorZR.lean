/- Manifests: what the laws over them share. -/
import Derived.Test.YtpfmmbhbmdbmeaaDoorZL
import Derived.Test.YtpfmmbhbmdbmeaaDoorYD
namespace Go.Proofs.YtpfmmbhbmdbmeaaDoor
open Go.RowKit
set_option linter.unusedVariables false
set_option linter.unusedSimpArgs false
theorem whole (mark : Int) (A : Option Addr) (n c : Nat) (l : List Int) (ls : List (List Chg)) (M : MF) (ae au : Addr) (w : World) (hs : Sl w A n (nums .u8 l)) (hc : n ≤ c) (hn : n ≤ 1000000) (hl : l = manB mark ls) (hm : 0 ≤ mark ∧ mark ≤ 65535) (hg : ErrG w ae au) (hok : ∀ x ∈ ls.flatten, Chg.ok x) (hck : ∀ x ∈ ls.flatten, ChOk x) (hal : allM ⟨[], 0, 0⟩ ls.flatten = some M) (hN : ls.flatten.length ≤ 1000) :
    Calls Tryd.prog 30 #[.slice A n c, .int .u16 mark] w (RepOk M n w) := by
  have hln : l.length = n := by have h := hs.1; rwa [nums_length] at h
  have h := replay_cut mark A n c l [] ls M ae au w hs hc hn (by rw [List.append_nil]; exact hl) hm hg hok hck hal hN [] 0 (by simp) (by rw [setB_len]; omega) (fun h => by omega) (fun y hy => by cases hy) (Nat.zero_le _)
  rw [← hl, hln] at h
  exact h
theorem wrap64_le (n : Nat) (h : n ≤ 1000000) : wrap64 (n : Int) = (n : Int) := by unfold wrap64; omega
theorem sets_take {w : World} {A : Option Addr} {n m : Nat} {ls : List (List Chg)} (h : Sets w A n ls) (hm : m ≤ n) : Sets w A m (ls.take m) :=
  ⟨by rw [List.length_take, h.1]; exact Nat.min_eq_left hm, fun j hj => by
    obtain ⟨g, o, l, B, c, e, hl, hc, hs⟩ := h.2 j (by omega)
    exact ⟨g, o, l, B, c, e, by rw [List.getElem?_take_of_lt hj]; exact hl, hc, hs⟩⟩
theorem last_split {ls : List (List Chg)} {m : Nat} {x : List Chg} (h : ls[m]? = some x) (hm : ls.length = m + 1) : ls = ls.take m ++ [x] := by
  have h1 := take_snocZ ls m x h
  rw [List.take_of_length_le (by omega)] at h1
  exact h1
theorem manB_last (mark : Int) {ls : List (List Chg)} {m : Nat} {x : List Chg} (h : ls[m]? = some x) (hm : ls.length = m + 1) : manB mark ls = manB mark (ls.take m) ++ setB x := by
  have h1 := manB_snoc mark ls m x h
  rw [List.take_of_length_le (by omega)] at h1
  exact h1
theorem allM_init {ls : List (List Chg)} {m : Nat} {x : List Chg} {a M : MF} (h : ls[m]? = some x) (hm : ls.length = m + 1) (ha : allM a ls.flatten = some M) : ∃ M0, allM a (ls.take m).flatten = some M0 := by
  rw [last_split h hm, List.flatten_append, allM_append] at ha
  cases hx : allM a (ls.take m).flatten with
  | none => rw [hx] at ha; cases ha
  | some M0 => exact ⟨M0, rfl⟩
theorem take_mem {ls : List (List Chg)} {m : Nat} {x : Chg} (h : x ∈ (ls.take m).flatten) : x ∈ ls.flatten := by
  obtain ⟨s, hs, hx⟩ := List.mem_flatten.1 h
  exact List.mem_flatten.2 ⟨s, List.mem_of_mem_take hs, hx⟩
theorem part_mem {ls : List (List Chg)} {m : Nat} {x : List Chg} (h : ls[m]? = some x) {y : Chg} (hy : y ∈ x) : y ∈ ls.flatten := List.mem_flatten.2 ⟨x, List.mem_of_getElem? h, hy⟩
theorem part_le {ls : List (List Chg)} {m N : Nat} {x : List Chg} (h : ls[m]? = some x) (hN : ls.flatten.length ≤ N) : x.length ≤ N := by
  obtain ⟨a, b, hab⟩ := List.append_of_mem (List.mem_of_getElem? h)
  rw [hab, List.flatten_append, List.flatten_cons, List.length_append, List.length_append] at hN
  omega
theorem chgsB_pos (x : List Chg) (h : 0 < x.length) : 0 < (chgsB x).length := by
  cases x with
  | nil => cases h
  | cons a r =>
    have := chgsB_drop (a :: r) 0 a rfl
    rw [List.drop_zero] at this
    rw [this, List.length_cons]
    omega
theorem set_right (p q : List Int) (k : Nat) (v : Int) : (p ++ q).set (p.length + k) v = p ++ q.set k v := by
  rw [List.set_append_right _ _ (by omega)]
  congr 2
  omega
section
open Go.Proofs.YtpfmmbhbmdbmeaaDoorQ.QT Go.Proofs.YtpfmmbhbmdbmeaaDoorQ.Ext Go.Proofs.YtpfmmbhbmdbmeaaDoorW.PrintWords
theorem sets_ok {l : List (List S45)} (hw : ∀ x ∈ l, ∀ y ∈ x, chgWf y) : ∀ x ∈ (toSets l).flatten, Chg.ok x := fun x hx => by
  obtain ⟨s, hs, hxs⟩ := List.mem_flatten.1 hx
  obtain ⟨y, hy, rfl⟩ := List.mem_map.1 hs
  obtain ⟨z, hz, rfl⟩ := List.mem_map.1 hxs
  have hwz := hw y hy z hz
  exact ⟨bounds_u64 hwz.1, bounds_u32 hwz.2.2.1, bounds_u64 hwz.2.2.2.1, bounds_u32 hwz.2.2.2.2⟩
theorem manB_in (mark : Int) (l : List (List S45)) (h1 : l.length ≤ 20) (h2 : (toSets l).flatten.length ≤ 400) : (manB mark (toSets l)).length ≤ 100000 ∧ 8 ≤ (manB mark (toSets l)).length := by
  have h := manB_le mark (toSets l)
  rw [sets_len] at h
  refine ⟨by omega, ?_⟩
  unfold manB
  rw [List.length_append]
  have : (headM mark).length = 8 := rfl
  omega
end
end Go.Proofs.YtpfmmbhbmdbmeaaDoor
