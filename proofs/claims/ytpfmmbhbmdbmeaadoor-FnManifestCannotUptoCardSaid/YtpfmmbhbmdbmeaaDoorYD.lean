/- Changes, made set by set, leave what a manifest with them tells: the law's walk. -/
import Derived.Test.YtpfmmbhbmdbmeaaDoorYB
import Derived.Test.YtpfmmbhbmdbmeaaDoorYC
import Derived.Test.YtpfmmbhbmdbmeaaDoorF7
namespace Go.Proofs.YtpfmmbhbmdbmeaaDoor
open Go.RowKit
set_option linter.unusedVariables false
set_option linter.unusedSimpArgs false
set_option maxRecDepth 100000 in
theorem sameManifest_any (A B : Option Addr) (n c d : Nat) (come gone : Int) (l : List Chg) (w : World) (h : Slc w A n l) (k : Slc w B n l) (hn : n ≤ 1000000) :
    Calls Tryd.prog 13 #[.agg #[.slice A n c, .int .i64 come, .int .i64 gone], .agg #[.slice B n d, .int .i64 come, .int .i64 gone]] w (fun E w' => E = .returned (.bool true) ∧ Below w.heap.size w w') := by
  have H : Hid (Slc ((w.alloc (.cells #[.slice A n c, .int .i64 come, .int .i64 gone] 27)).alloc (.cells #[.slice B n d, .int .i64 come, .int .i64 gone] 27)) A n l) := h.below (((Below.refl _ _).alloc (Nat.le_refl _) _).alloc (by simp) _)
  have K2 : Hid (Slc ((w.alloc (.cells #[.slice A n c, .int .i64 come, .int .i64 gone] 27)).alloc (.cells #[.slice B n d, .int .i64 come, .int .i64 gone] 27)) B n l) := k.below (((Below.refl _ _).alloc (Nat.le_refl _) _).alloc (by simp) _)
  have HU : Hid (Below w.heap.size w ((w.alloc (.cells #[.slice A n c, .int .i64 come, .int .i64 gone] 27)).alloc (.cells #[.slice B n d, .int .i64 come, .int .i64 gone] 27))) := ((Below.refl _ _).alloc (Nat.le_refl _) _).alloc (by simp) _
  clear h k
  go_enter Tryd.func13, Tryd.ntmps13
  go_wp2_with fail
  refine (sameChanges_any A B n c d l _ H.out K2.out hn).mono ?_
  rintro E w2 ⟨rfl, hb2⟩
  have HR : Hid (Below w.heap.size w w2) := HU.out.trans (hb2.mono HU.out.size)
  clear hb2 H K2 HU
  go_wp2
  go_ret
  exact ⟨rfl, HR.out⟩
section
open Go.Proofs.YtpfmmbhbmdbmeaaDoorQ.QT Go.Proofs.YtpfmmbhbmdbmeaaDoorQ.Ext Go.Proofs.YtpfmmbhbmdbmeaaDoorW.PrintWords
theorem sets_len (l : List (List S45)) : (toSets l).length = l.length := by unfold toSets; rw [List.length_map]
theorem set_le {l : List (List S45)} {N : Nat} (h : (toSets l).flatten.length ≤ N) : ∀ x ∈ l, x.length ≤ N := fun x hx => by
  have h1 : (x.map toChg).length ≤ (toSets l).flatten.length := by
    have hm : x.map toChg ∈ toSets l := List.mem_map.2 ⟨x, hx, rfl⟩
    obtain ⟨a, b, hab⟩ := List.append_of_mem hm
    rw [hab, List.flatten_append, List.flatten_cons, List.length_append, List.length_append]
    omega
  rw [List.length_map] at h1
  omega
theorem flat_le (ls : List (List Chg)) (N : Nat) (h : ∀ x ∈ ls, x.length ≤ N) : ls.flatten.length ≤ ls.length * N := by
  induction ls with
  | nil => simp
  | cons a r ih =>
    have h1 := ih (fun x hx => h x (List.mem_cons_of_mem _ hx))
    have h2 := h a (List.mem_cons_self ..)
    rw [List.flatten_cons, List.length_append, List.length_cons, Nat.succ_mul]
    omega
/-- What setsOk lets in. -/
theorem sets_in {l : List (List S45)} (hw : ∀ x ∈ l, ∀ y ∈ x, chgWf y) (h1 : l.length ≤ 20) (h2 : ∀ x ∈ l, x.length ≤ 20 ∧ ∀ y ∈ x, y.f2 ≤ 6) : (toSets l).flatten.length ≤ 400 ∧ ∀ x ∈ (toSets l).flatten, ChOk x := by
  refine ⟨?_, fun x hx => ?_⟩
  · have h3 := flat_le (toSets l) 20 (fun x hx => by
      obtain ⟨y, hy, rfl⟩ := List.mem_map.1 hx
      rw [List.length_map]
      exact (h2 y hy).1)
    rw [sets_len] at h3
    have : l.length * 20 ≤ 20 * 20 := Nat.mul_le_mul_right 20 h1
    omega
  · obtain ⟨s, hs, hxs⟩ := List.mem_flatten.1 hx
    obtain ⟨y, hy, rfl⟩ := List.mem_map.1 hs
    obtain ⟨z, hz, rfl⟩ := List.mem_map.1 hxs
    have hwz := hw y hy z hz
    have hb := bounds_u32 hwz.2.2.1
    exact ⟨hb.1, (h2 y hy).2 z hz, hwz.1⟩
end
end Go.Proofs.YtpfmmbhbmdbmeaaDoor
