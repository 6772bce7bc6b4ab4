/- impl.RunListOne: an iterator of one direction over a skip list takes steps. -/
import Derived.Test.YtanmgkpgfmkobaaK4
namespace Go.Proofs.Ytanmgkpgfmkobaa
open Go.RowKit
set_option linter.unusedVariables false
set_option linter.unusedSimpArgs false
def RunLP1 (l : List Ent) (ats : List Int) (w : World) (E : Ending) (w' : World) : Prop := ∃ A c ps, E = .returned (.slice A ps.length c) ∧ Prs w' A ps ∧ ps.map PR.pl = ats.map (plE l) ∧ ps.length ≤ c ∧ Below w.heap.size w w'
set_option maxRecDepth 100000 in
theorem runListOne_any (A P AS : Option Addr) (n c m d ns cs : Nat) (back : Bool) (hs : List Int) (l : List Ent) (ss : List SR) (atz : List Int) (w : World) (ha : Sl w A n (nums .u32 hs)) (hn1 : 1 ≤ n) (hn2 : n ≤ 1000000) (hp : Sle w P m l) (hm : m ≤ 80) (hok : ∀ e ∈ l, EntOk e)
    (hS : Srs w AS ss) (hsl : ss.length = ns) (hns : ns ≤ 1000000) (hsk : ∀ s ∈ ss, StOk s) (hw : walkE (putsE l) (-1) (ss.map fun s => uniE back s.s) = some atz) :
    Calls Try.prog 28 #[.slice A n c, .slice P m d, .bool back, .slice AS ns cs] w (RunLP1 (putsE l) atz w) := by
  have HS := Lib.hid hS
  have HSL := Lib.hid hsl
  have HSK := Lib.hid hsk
  have HW := Lib.hid hw
  have HA := Lib.hid ha
  have HP := Lib.hid hp
  have HOK := Lib.hid hok
  clear hS hsl hsk hw ha hp hok
  go_enter Try.func28, Try.ntmps28
  go_wp2_with fail
  refine (skips_any A P n c m d hs l w HA.out hn1 hn2 HP.out hm HOK.out).mono ?_
  rintro E w1 ⟨g, s, rfl, hst, hokk, hfull, hns1, href, hbel⟩
  have HR := Lib.hid (And.intro hst (And.intro hokk (And.intro hfull (And.intro hns1 (And.intro href hbel)))))
  clear hst hokk hfull hns1 href hbel HA HP HOK
  go_wp2_with fail
  refine (newUni_skl g _ s back w1 HR.out.1 HR.out.2.1 HR.out.2.2.2.2.1).mono ?_
  rintro E w2 ⟨gu, rfl, hit, hf⟩
  have HIT : Hid (UniS w2 gu g w1.heap.size (s.at_ref 2) (itV (s.at_ref 2) (-1)) back) := hit
  have HG : Hid (w.heap.size ≤ g) := HR.out.2.1.base _ (by simp)
  have HB2 : Hid (Below w.heap.size w w2) := HR.out.2.2.2.2.2.trans (hf.below HR.out.2.2.2.2.2.size (fun i hi => by rw [List.mem_singleton] at hi; subst hi; exact HG.out))
  have HGI : Hid (w.heap.size ≤ w1.heap.size) := HR.out.2.2.2.2.2.size
  clear hit hf
  go_wp2_with fail
  refine (run_uni gu g w1.heap.size w.heap.size ns cs AS (s.at_ref 2) back (putsE l) ss atz w w2 HIT.out (HR.out.2.1.reref 2) HR.out.2.2.1 HR.out.2.2.2.1 rfl HS.out HB2.out HGI.out HSL.out hns HSK.out HW.out).mono ?_
  rintro E w3 ⟨A3, c3, ps, rfl, hP, hpm, hpc, hf3⟩
  have HPF : Hid (RunLP1 (putsE l) atz w (.returned (.slice A3 ps.length c3)) w3) := ⟨A3, c3, ps, rfl, hP, hpm, hpc, HB2.out.trans (hf3.below HB2.out.size (fun i hi => by
    rcases List.mem_cons.1 hi with rfl | h
    · exact HGI.out
    · rw [List.mem_singleton] at h
      subst h
      exact HG.out))⟩
  clear hP hpm hpc hf3
  go_wp2
  go_ret
  exact HPF.out
theorem walkE_len (l : List Ent) (S : List StE) (a : Int) (m : List Int) (h : walkE l a S = some m) : m.length = S.length := by
  induction S generalizing a m with
  | nil => injection h with h; rw [← h]; rfl
  | cons s r ih =>
    change ((moveE l a s).bind fun b => (walkE l b r).map fun m => b :: m) = some m at h
    cases hm : moveE l a s with
    | none => rw [hm] at h; cases h
    | some b =>
      rw [hm, Option.bind_some] at h
      cases hw : walkE l b r with
      | none => rw [hw] at h; cases h
      | some m' =>
        rw [hw] at h
        injection h with h
        rw [← h, List.length_cons, List.length_cons, ih b m' hw]
end Go.Proofs.Ytanmgkpgfmkobaa
