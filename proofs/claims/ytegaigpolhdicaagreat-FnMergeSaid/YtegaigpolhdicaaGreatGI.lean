/- Texts that this claim shares with others, put together: I1 I2 I3 I4 I5 I6 I7. -/
import Derived.Test.YtegaigpolhdicaaGreatTB
import Derived.Test.YtegaigpolhdicaaGreatPB
/- An iterator over a skip list: where it stands. -/
namespace Go.Proofs.YtegaigpolhdicaaGreat
open Go.RowKit
set_option linter.unusedVariables false
set_option linter.unusedSimpArgs false
end Go.Proofs.YtegaigpolhdicaaGreat

/- An iterator over a skip list goes to the first node, and on. -/
namespace Go.Proofs.YtegaigpolhdicaaGreat
open Go.RowKit
set_option linter.unusedVariables false
set_option linter.unusedSimpArgs false
end Go.Proofs.YtegaigpolhdicaaGreat

/- An iterator over a skip list: to the last node, to a key, back; what it stands at. -/
namespace Go.Proofs.YtegaigpolhdicaaGreat
open Go.RowKit
set_option linter.unusedVariables false
set_option linter.unusedSimpArgs false
end Go.Proofs.YtegaigpolhdicaaGreat

/- An iterator over a skip list goes back; its value; its end. -/
namespace Go.Proofs.YtegaigpolhdicaaGreat
open Go.RowKit
set_option linter.unusedVariables false
set_option linter.unusedSimpArgs false
end Go.Proofs.YtegaigpolhdicaaGreat

/- spec.seek: the nearest entry. -/
namespace Go.Proofs.YtegaigpolhdicaaGreat
open Go.Proofs.YtegaigpolhdicaaGreatW.PrintLast
open Go.RowKit
set_option linter.unusedVariables false
set_option linter.unusedSimpArgs false
/-- An entry of a list (its key and version), and a step in a block. -/
def Sk (ga o gq : Nat) (r : ER) (KS : Option Addr) (nk ck : Nat) (v : Int) (w' : World) : Prop := w'.cell? ⟨ga, o, none⟩ = some (.slice r.Ak r.nk r.ck) ∧ w'.cell? ⟨ga, o + 1, none⟩ = some (.int .u64 r.e.v) ∧ w'.cell? ⟨gq, 1, none⟩ = some (.slice KS nk ck) ∧ w'.cell? ⟨gq, 2, none⟩ = some (.int .u64 v)
set_option maxRecDepth 100000 in
set_option maxHeartbeats 4000000 in
theorem seekF_any (ga oa m c nk ck : Nat) (KS : Option Addr) (kd v : Int) (k : List Int) (rs : List ER) (w : World) (hm : rs.length = m) (hm2 : m ≤ 4000000000) (hA : Ers w (some ⟨ga, oa, none⟩) rs) (hk : Sl w KS nk (nums .u8 k)) (hnk : nk ≤ 4000000000) (hl : ∀ r ∈ rs, r.nk ≤ 4000000000) :
    Calls Tryz.prog 15 #[.slice (some ⟨ga, oa, none⟩) m c, .bool false, .agg #[.int .i64 kd, .slice KS nk ck, .int .u64 v]] w fun E w' => E = .returned (.int .i64 ((posE (rs.map ER.e) k v : Nat) : Int)) ∧ Below w.heap.size w w' := by
  have hA := Lib.hid (hA.alloc (.cells #[.int .i64 kd, .slice KS nk ck, .int .u64 v] 39))
  have hk := Lib.hid (hk.alloc (.cells #[.int .i64 kd, .slice KS nk ck, .int .u64 v] 39))
  have hX : Hid (Blk (w.alloc (.cells #[.int .i64 kd, .slice KS nk ck, .int .u64 v] 39)) w.heap.size 39 [.int .i64 kd, .slice KS nk ck, .int .u64 v]) := Blk.new w _ _
  have hB : Hid (Below w.heap.size w (w.alloc (.cells #[.int .i64 kd, .slice KS nk ck, .int .u64 v] 39))) := (Below.refl _ _).alloc (Nat.le_refl _) _
  have HL := Lib.hid hl
  have HM := Lib.hid hm
  have hpm : posE (rs.map ER.e) k v ≤ m := by have := posE_le (rs.map ER.e) k v; rw [List.length_map] at this; omega
  rename_i hA0 hk0
  clear hl hm hA0 hk0
  go_enter Tryz.func15, Tryz.ntmps15
  go_wp2_with fail
  generalize w.alloc (.cells #[.int .i64 kd, .slice KS nk ck, .int .u64 v] 39) = w0 at *
  generalize hgq : w.heap.size = gq at *
  have HGQ := Lib.hid hgq
  clear hgq
  obtain ⟨p, hp⟩ : ∃ p, p = posE (rs.map ER.e) k v := ⟨_, rfl⟩
  rw [← hp] at hpm
  have HP := Lib.hid hp
  clear hp
  go_loopg [8] m (fun f v8 wr => ∃ i : Nat, v8 = .int .i64 i ∧ i ≤ p ∧ Hid (i + f = m) ∧ Hid (Ers wr (some ⟨ga, oa, none⟩) rs) ∧ Hid (Sl wr KS nk (nums .u8 k)) ∧ Hid (Blk wr gq 39 [.int .i64 kd, .slice KS nk ck, .int .u64 v]) ∧ Hid (Below gq w wr))
  case atStart => exact ⟨0, rfl, Nat.zero_le _, by simp [Hid], hA.out, hk.out, hX.out, hB.out⟩
  case round =>
    clear hA hk hX hB
    obtain ⟨i, rfl, hip, hf, hA, hk, hX, hB⟩ := hrel
    by_cases hlt : i < m
    · obtain ⟨r, hr⟩ : ∃ r, rs[i]? = some r := ⟨_, List.getElem?_eq_getElem (by have := HM.out; omega)⟩
      have HR := Lib.hid hr
      have hrn : r.nk ≤ 4000000000 := HL.out r (List.mem_of_getElem? hr)
      have b0 := hA.out.at_ hr (j := 0) rfl
      have b1 := hA.out.at_ hr (j := 1) rfl
      rw [Nat.add_zero] at b0
      have hil : ((i : Int)) < (m : Int) := by omega
      clear hr
      go_wp2
      refine start_ (n := 22) (S := Sk ga (oa + i * 6) gq r KS nk ck v) (ds := []) #[ff,ff,ff,ff,ff,ff,ff,ff,ff,ff,ff,ff,ff,ff,ff,ff,ff,ff,ff,ff,ff,ff] (by kernel_rfl) rfl rfl (⟨b0, b1, hX.out.at_ rfl, hX.out.at_ rfl⟩) (fun hHeld => ?_)
      have hkd : Hid (Sl wr.drew KS nk (nums .u8 k)) := hk.out
      have hAd : Hid (Ers wr.drew (some ⟨ga, oa, none⟩) rs) := ⟨hA.out.sl, fun r hr => (hA.out.each r hr).drewN 1⟩
      have hXd : Hid (Blk wr.drew gq 39 [.int .i64 kd, .slice KS nk ck, .int .u64 v]) := hX.out
      have hBd : Hid (Below gq w wr.drew) := hB.out.drew
      have hrin : Hid (r.In wr.drew) := (hA.out.each r (List.mem_of_getElem? HR.out)).drewN 1
      clear b0 b1 hk hA hX hB
      generalize wr.drew = wd at *
      refine pure_ (i := 0) (N := some 36) (v := ?_) (a' := ?_) #[tt,ff,ff,ff,ff,ff,ff,ff,ff,ff,ff,ff,ff,ff,ff,ff,ff,ff,ff,ff,ff,ff] rfl rfl (by kernel_rfl) (fun _ _ _ h => h) (Or.inl ⟨by rfl, ?_⟩) ?_ ?_; rotate_left; (intro w'; go_simp; with_reducible rfl); rotate_left; (simp only [Act.put, List.setIfInBounds_toArray, List.set_cons_zero, List.set_cons_succ, i64_w, i32_w]; rfl)
      refine pure_ (i := 1) (N := some 37) (v := ?_) (a' := ?_) #[tt,tt,ff,ff,ff,ff,ff,ff,ff,ff,ff,ff,ff,ff,ff,ff,ff,ff,ff,ff,ff,ff] rfl rfl (by kernel_rfl) (fun _ _ _ h => h) (Or.inl ⟨by rfl, ?_⟩) ?_ ?_; rotate_left; (intro w'; go_simp; with_reducible rfl); rotate_left; (simp only [Act.put, List.setIfInBounds_toArray, List.set_cons_zero, List.set_cons_succ, i64_w, i32_w]; rfl)
      refine pure_ (i := 2) (N := some 38) (v := ?_) (a' := ?_) #[tt,tt,tt,ff,ff,ff,ff,ff,ff,ff,ff,ff,ff,ff,ff,ff,ff,ff,ff,ff,ff,ff] rfl rfl (by kernel_rfl) (fun _ _ _ h => h) (Or.inl ⟨by rfl, ?_⟩) ?_ ?_; rotate_left; (intro w'; go_simp; with_reducible rfl); rotate_left; (simp only [Act.put, List.setIfInBounds_toArray, List.set_cons_zero, List.set_cons_succ, i64_w, i32_w]; rfl)
      refine pure_ (i := 3) (N := some 39) (v := ?_) (a' := ?_) #[tt,tt,tt,tt,ff,ff,ff,ff,ff,ff,ff,ff,ff,ff,ff,ff,ff,ff,ff,ff,ff,ff] rfl rfl (by kernel_rfl) (fun _ _ _ h => h) (Or.inl ⟨by rfl, ?_⟩) ?_ ?_; rotate_left; (intro w'; go_simp; with_reducible rfl); rotate_left; (simp only [Act.put, List.setIfInBounds_toArray, List.set_cons_zero, List.set_cons_succ, i64_w, i32_w]; rfl)
      refine pure_ (i := 4) (N := some 40) (v := ?_) (a' := ?_) #[tt,tt,tt,tt,tt,ff,ff,ff,ff,ff,ff,ff,ff,ff,ff,ff,ff,ff,ff,ff,ff,ff] rfl rfl (by kernel_rfl) (fun _ _ _ h => h) (Or.inl ⟨by rfl, ?_⟩) ?_ ?_; rotate_left; (intro w'; go_simp; with_reducible rfl); rotate_left; (simp only [Act.put, List.setIfInBounds_toArray, List.set_cons_zero, List.set_cons_succ, i64_w, i32_w]; rfl)
      refine pure_ (i := 5) (N := some 41) (v := ?_) (a' := ?_) #[tt,tt,tt,tt,tt,tt,ff,ff,ff,ff,ff,ff,ff,ff,ff,ff,ff,ff,ff,ff,ff,ff] rfl rfl (by kernel_rfl) (fun _ _ _ h => h) (Or.inl ⟨by rfl, ?_⟩) ?_ ?_; rotate_left; (intro w'; go_simp; with_reducible rfl); rotate_left; (simp only [Act.put, List.setIfInBounds_toArray, List.set_cons_zero, List.set_cons_succ, i64_w, i32_w]; rfl)
      refine pure_ (i := 6) (N := some 42) (v := ?_) (a' := ?_) #[tt,tt,tt,tt,tt,tt,tt,ff,ff,ff,ff,ff,ff,ff,ff,ff,ff,ff,ff,ff,ff,ff] rfl rfl (by kernel_rfl) (fun _ _ _ h => h) (Or.inl ⟨by rfl, ?_⟩) ?_ ?_; rotate_left; (intro w'; go_simp; with_reducible rfl); rotate_left; (simp only [Act.put, List.setIfInBounds_toArray, List.set_cons_zero, List.set_cons_succ, i64_w, i32_w]; rfl)
      refine pure_ (i := 7) (N := some 43) (v := ?_) (a' := ?_) #[tt,tt,tt,tt,tt,tt,tt,tt,ff,ff,ff,ff,ff,ff,ff,ff,ff,ff,ff,ff,ff,ff] rfl rfl (by kernel_rfl) (fun _ _ _ h => h) (Or.inl ⟨by rfl, ?_⟩) ?_ ?_; rotate_left; (intro w'; go_simp; with_reducible rfl); rotate_left; (simp only [Act.put, List.setIfInBounds_toArray, List.set_cons_zero, List.set_cons_succ, i64_w, i32_w]; rfl)
      refine pure_ (i := 8) (N := some 44) (v := ?_) (a' := ?_) #[tt,tt,tt,tt,tt,tt,tt,tt,tt,ff,ff,ff,ff,ff,ff,ff,ff,ff,ff,ff,ff,ff] rfl rfl (by kernel_rfl) (fun _ _ _ h => h) (Or.inl ⟨by rfl, ?_⟩) ?_ ?_; rotate_left; (intro w'; go_simp; with_reducible rfl); rotate_left; (simp only [Act.put, List.setIfInBounds_toArray, List.set_cons_zero, List.set_cons_succ, i64_w, i32_w]; rfl)
      refine take_ (i := 9) (N := some 45) (v := ?_) (a' := ?_) #[tt,tt,tt,tt,tt,tt,tt,tt,tt,tt,ff,ff,ff,ff,ff,ff,ff,ff,ff,ff,ff,ff] rfl rfl (by kernel_rfl) (fun _ _ _ h => h) (Or.inl ⟨by rfl, ?_⟩) hHeld ?_ ?_; rotate_left; (rintro w' ⟨h0, h1, h2, h3⟩; go_simp; with_reducible rfl); rotate_left; (simp only [Act.put, List.setIfInBounds_toArray, List.set_cons_zero, List.set_cons_succ, i64_w, i32_w]; rfl)
      refine pure_ (i := 10) (N := some 46) (v := ?_) (a' := ?_) #[tt,tt,tt,tt,tt,tt,tt,tt,tt,tt,tt,ff,ff,ff,ff,ff,ff,ff,ff,ff,ff,ff] rfl rfl (by kernel_rfl) (fun _ _ _ h => h) (Or.inl ⟨by rfl, ?_⟩) ?_ ?_; rotate_left; (intro w'; go_simp; with_reducible rfl); rotate_left; (simp only [Act.put, List.setIfInBounds_toArray, List.set_cons_zero, List.set_cons_succ, i64_w, i32_w]; rfl)
      refine pure_ (i := 11) (N := some 47) (v := ?_) (a' := ?_) #[tt,tt,tt,tt,tt,tt,tt,tt,tt,tt,tt,tt,ff,ff,ff,ff,ff,ff,ff,ff,ff,ff] rfl rfl (by kernel_rfl) (fun _ _ _ h => h) (Or.inl ⟨by rfl, ?_⟩) ?_ ?_; rotate_left; (intro w'; go_simp; with_reducible rfl); rotate_left; (simp only [Act.put, List.setIfInBounds_toArray, List.set_cons_zero, List.set_cons_succ, i64_w, i32_w]; rfl)
      refine pure_ (i := 12) (N := some 48) (v := ?_) (a' := ?_) #[tt,tt,tt,tt,tt,tt,tt,tt,tt,tt,tt,tt,tt,ff,ff,ff,ff,ff,ff,ff,ff,ff] rfl rfl (by kernel_rfl) (fun _ _ _ h => h) (Or.inl ⟨by rfl, ?_⟩) ?_ ?_; rotate_left; (intro w'; go_simp; with_reducible rfl); rotate_left; (simp only [Act.put, List.setIfInBounds_toArray, List.set_cons_zero, List.set_cons_succ, i64_w, i32_w]; rfl)
      refine pure_ (i := 13) (N := some 49) (v := ?_) (a' := ?_) #[tt,tt,tt,tt,tt,tt,tt,tt,tt,tt,tt,tt,tt,tt,ff,ff,ff,ff,ff,ff,ff,ff] rfl rfl (by kernel_rfl) (fun _ _ _ h => h) (Or.inl ⟨by rfl, ?_⟩) ?_ ?_; rotate_left; (intro w'; go_simp; with_reducible rfl); rotate_left; (simp only [Act.put, List.setIfInBounds_toArray, List.set_cons_zero, List.set_cons_succ, i64_w, i32_w]; rfl)
      refine take_ (i := 14) (N := some 50) (v := ?_) (a' := ?_) #[tt,tt,tt,tt,tt,tt,tt,tt,tt,tt,tt,tt,tt,tt,tt,ff,ff,ff,ff,ff,ff,ff] rfl rfl (by kernel_rfl) (fun _ _ _ h => h) (Or.inl ⟨by rfl, ?_⟩) hHeld ?_ ?_; rotate_left; (rintro w' ⟨h0, h1, h2, h3⟩; go_simp; with_reducible rfl); rotate_left; (simp only [Act.put, List.setIfInBounds_toArray, List.set_cons_zero, List.set_cons_succ, i64_w, i32_w]; rfl)
      refine pure_ (i := 15) (N := some 51) (v := ?_) (a' := ?_) #[tt,tt,tt,tt,tt,tt,tt,tt,tt,tt,tt,tt,tt,tt,tt,tt,ff,ff,ff,ff,ff,ff] rfl rfl (by kernel_rfl) (fun _ _ _ h => h) (Or.inl ⟨by rfl, ?_⟩) ?_ ?_; rotate_left; (intro w'; go_simp; with_reducible rfl); rotate_left; (simp only [Act.put, List.setIfInBounds_toArray, List.set_cons_zero, List.set_cons_succ, i64_w, i32_w]; rfl)
      refine take_ (i := 16) (N := some 52) (v := ?_) (a' := ?_) #[tt,tt,tt,tt,tt,tt,tt,tt,tt,tt,tt,tt,tt,tt,tt,tt,tt,ff,ff,ff,ff,ff] rfl rfl (by kernel_rfl) (fun _ _ _ h => h) (Or.inl ⟨by rfl, ?_⟩) hHeld ?_ ?_; rotate_left; (rintro w' ⟨h0, h1, h2, h3⟩; go_simp; with_reducible rfl); rotate_left; (simp only [Act.put, List.setIfInBounds_toArray, List.set_cons_zero, List.set_cons_succ, i64_w, i32_w]; rfl)
      refine pure_ (i := 17) (N := some 53) (v := ?_) (a' := ?_) #[tt,tt,tt,tt,tt,tt,tt,tt,tt,tt,tt,tt,tt,tt,tt,tt,tt,tt,ff,ff,ff,ff] rfl rfl (by kernel_rfl) (fun _ _ _ h => h) (Or.inl ⟨by rfl, ?_⟩) ?_ ?_; rotate_left; (intro w'; go_simp; with_reducible rfl); rotate_left; (simp only [Act.put, List.setIfInBounds_toArray, List.set_cons_zero, List.set_cons_succ, i64_w, i32_w]; rfl)
      refine take_ (i := 18) (N := some 54) (v := ?_) (a' := ?_) #[tt,tt,tt,tt,tt,tt,tt,tt,tt,tt,tt,tt,tt,tt,tt,tt,tt,tt,tt,ff,ff,ff] rfl rfl (by kernel_rfl) (fun _ _ _ h => h) (Or.inl ⟨by rfl, ?_⟩) hHeld ?_ ?_; rotate_left; (rintro w' ⟨h0, h1, h2, h3⟩; go_simp; with_reducible rfl); rotate_left; (simp only [Act.put, List.setIfInBounds_toArray, List.set_cons_zero, List.set_cons_succ, i64_w, i32_w]; rfl)
      refine one_ (i := 19) (N := some 55) #[tt,tt,tt,tt,tt,tt,tt,tt,tt,tt,tt,tt,tt,tt,tt,tt,tt,tt,tt,tt,ff,ff] rfl rfl (by kernel_rfl) (by decide) (fun K hK => ?_); refine goes_ Tryz.func22 (by kernel_rfl) rfl #[.slice r.Ak r.nk r.ck, .int .u64 r.e.v, .slice KS nk ck, .int .u64 v] (by rfl) rfl rfl (by (try simp only [List.map_toArray, List.map_cons, List.map_nil]); first | done | rfl) ?_
      refine (order_big r.Ak KS r.nk nk r.ck ck r.e.k k r.e.v v wd hrin.out.key hkd.out (by omega) (by omega)).mono ?_
      rintro E wx ⟨rfl, nx, rfl⟩; refine ⟨_, rfl, ?_⟩
      refine hK.out _ _ (hHeld) (fun hHeld => ?_); clear hK K; refine norm_ (a' := ?_) ?_ ?_; rotate_left; (show Act.put _ (some 55) _ = _; simp only [Act.put, List.setIfInBounds_toArray, List.set_cons_zero, List.set_cons_succ, i64_w, i32_w]; rfl)
      replace hkd : Hid (Sl (wd.drewN nx) KS nk (nums .u8 k)) := hkd.out
      replace hAd : Hid (Ers (wd.drewN nx) (some ⟨ga, oa, none⟩) rs) := ⟨hAd.out.sl, fun r hr => (hAd.out.each r hr).drewN nx⟩
      replace hXd : Hid (Blk (wd.drewN nx) gq 39 [.int .i64 kd, .slice KS nk ck, .int .u64 v]) := hXd.out
      replace hBd : Hid (Below gq w (wd.drewN nx)) := bel_drewN hBd.out nx
      clear hrin hHeld
      generalize wd.drewN nx = we at *
      rcases orderL_three r.e.k k r.e.v v with h3 | h3 | h3
      · rw [h3]
        refine pure_ (i := 20) (N := some 56) (v := ?_) (a' := ?_) #[tt,tt,tt,tt,tt,tt,tt,tt,tt,tt,tt,tt,tt,tt,tt,tt,tt,tt,tt,tt,tt,ff] rfl rfl (by kernel_rfl) (fun _ _ _ h => h) (Or.inl ⟨by rfl, ?_⟩) ?_ ?_; rotate_left; (intro w'; go_simp; with_reducible rfl); rotate_left; (simp only [Act.put, List.setIfInBounds_toArray, List.set_cons_zero, List.set_cons_succ, i64_w, i32_w]; rfl)
        refine pure_ (i := 21) (N := some 57) (v := ?_) (a' := ?_) #[tt,tt,tt,tt,tt,tt,tt,tt,tt,tt,tt,tt,tt,tt,tt,tt,tt,tt,tt,tt,tt,tt] rfl rfl (by kernel_rfl) (fun _ _ _ h => h) (Or.inl ⟨by rfl, ?_⟩) ?_ ?_; rotate_left; (intro w'; go_simp; with_reducible rfl); rotate_left; (simp only [Act.put, List.setIfInBounds_toArray, List.set_cons_zero, List.set_cons_succ, i64_w, i32_w]; rfl)
        refine done_ (by kernel_rfl) ?_
        have hnx : i < p := by rw [HP.out] at hip ⊢; exact pos_lt_of _ _ _ i r.e hip (by rw [List.getElem?_map, HR.out]; rfl) h3
        clear h3
        go_wp2
        obtain ⟨gkO, rfl⟩ : ∃ q, gk = q + 1 := ⟨gk - 1, by have := hf.out; omega⟩
        go_roundg gkO
        case measure => omega
        case rel => exact ⟨i + 1, by go_num, by omega, by have := hf.out; show _ = _; omega, hAd.out, hkd.out, hXd.out, hBd.out⟩
      · rw [h3]
        refine pure_ (i := 20) (N := some 56) (v := ?_) (a' := ?_) #[tt,tt,tt,tt,tt,tt,tt,tt,tt,tt,tt,tt,tt,tt,tt,tt,tt,tt,tt,tt,tt,ff] rfl rfl (by kernel_rfl) (fun _ _ _ h => h) (Or.inl ⟨by rfl, ?_⟩) ?_ ?_; rotate_left; (intro w'; go_simp; with_reducible rfl); rotate_left; (simp only [Act.put, List.setIfInBounds_toArray, List.set_cons_zero, List.set_cons_succ, i64_w, i32_w]; rfl)
        refine pure_ (i := 21) (N := some 57) (v := ?_) (a' := ?_) #[tt,tt,tt,tt,tt,tt,tt,tt,tt,tt,tt,tt,tt,tt,tt,tt,tt,tt,tt,tt,tt,tt] rfl rfl (by kernel_rfl) (fun _ _ _ h => h) (Or.inl ⟨by rfl, ?_⟩) ?_ ?_; rotate_left; (intro w'; go_simp; with_reducible rfl); rotate_left; (simp only [Act.put, List.setIfInBounds_toArray, List.set_cons_zero, List.set_cons_succ, i64_w, i32_w]; rfl)
        refine done_ (by kernel_rfl) ?_
        have hpi : i = p := by
          rcases Nat.lt_or_eq_of_le hip with h4 | h4
          · exfalso
            rw [HP.out] at h4
            have := posE_lt _ _ _ i r.e h4 (by rw [List.getElem?_map, HR.out]; rfl)
            omega
          · exact h4
        subst hpi
        clear h3
        go_wp2
        go_ret
        exact ⟨by show Ending.returned (.int .i64 (i : Int)) = _; rw [← HP.out], by rw [HGQ.out]; exact hBd.out⟩
      · rw [h3]
        refine pure_ (i := 20) (N := some 56) (v := ?_) (a' := ?_) #[tt,tt,tt,tt,tt,tt,tt,tt,tt,tt,tt,tt,tt,tt,tt,tt,tt,tt,tt,tt,tt,ff] rfl rfl (by kernel_rfl) (fun _ _ _ h => h) (Or.inl ⟨by rfl, ?_⟩) ?_ ?_; rotate_left; (intro w'; go_simp; with_reducible rfl); rotate_left; (simp only [Act.put, List.setIfInBounds_toArray, List.set_cons_zero, List.set_cons_succ, i64_w, i32_w]; rfl)
        refine pure_ (i := 21) (N := some 57) (v := ?_) (a' := ?_) #[tt,tt,tt,tt,tt,tt,tt,tt,tt,tt,tt,tt,tt,tt,tt,tt,tt,tt,tt,tt,tt,tt] rfl rfl (by kernel_rfl) (fun _ _ _ h => h) (Or.inl ⟨by rfl, ?_⟩) ?_ ?_; rotate_left; (intro w'; go_simp; with_reducible rfl); rotate_left; (simp only [Act.put, List.setIfInBounds_toArray, List.set_cons_zero, List.set_cons_succ, i64_w, i32_w]; rfl)
        refine done_ (by kernel_rfl) ?_
        have hpi : i = p := by
          rcases Nat.lt_or_eq_of_le hip with h4 | h4
          · exfalso
            rw [HP.out] at h4
            have := posE_lt _ _ _ i r.e h4 (by rw [List.getElem?_map, HR.out]; rfl)
            omega
          · exact h4
        subst hpi
        clear h3
        go_wp2
        go_ret
        exact ⟨by show Ending.returned (.int .i64 (i : Int)) = _; rw [← HP.out], by rw [HGQ.out]; exact hBd.out⟩
    · have hpi : i = p := by omega
      subst hpi
      have hge : ¬ ((i : Int) < (m : Int)) := by omega
      have him : Hid (i = m) := by show _ = _; omega
      go_wp2
      go_quiet (fail)
      go_wp2
      go_ret
      exact ⟨by show Ending.returned (.int .i64 (i : Int)) = _; rw [← HP.out], by rw [HGQ.out]; exact bel_drewN hB.out _⟩
/-- The last entry that is not behind a key with a version; -1 if there is none. -/
def backE (l : List Ent) (k : List Int) (v : Int) : Int := if hitE l k v = true then (posE l k v : Int) else (posE l k v : Int) - 1
theorem backE_of {l : List Ent} (hs : SortedE l) {k : List Int} {v : Int} {i : Nat} (hi : i ≤ l.length) (hb : ∀ (j : Nat) (a : Ent), i ≤ j → l[j]? = some a → orderL a.k a.v k v = 1) (ha : ∀ a, 0 < i → l[i - 1]? = some a → orderL a.k a.v k v ≠ 1) : backE l k v = (i : Int) - 1 := by
  have hpl := posE_le l k v
  have hpi : posE l k v ≤ i := by
    rcases Nat.lt_or_ge i (posE l k v) with h | h
    · exfalso
      obtain ⟨a, hl⟩ : ∃ a, l[i]? = some a := ⟨_, List.getElem?_eq_getElem (by omega)⟩
      have h1 := posE_lt l k v i a h hl
      have h2 := hb i a (Nat.le_refl _) hl
      omega
    · exact h
  have hit_no : ∀ a, l[posE l k v]? = some a → orderL a.k a.v k v ≠ 0 → hitE l k v = false := fun a hl h0 => by
    unfold hitE
    rw [hl]
    simpa using h0
  rcases Nat.eq_zero_or_pos i with h0 | h0
  · have hp0 : posE l k v = 0 := by omega
    have hh : hitE l k v = false := by
      cases hl : l[posE l k v]? with
      | none => unfold hitE; rw [hl]
      | some a =>
        refine hit_no a hl ?_
        have := hb (posE l k v) a (by omega) hl
        omega
    unfold backE
    rw [hh, if_neg (by simp)]
    omega
  · obtain ⟨a, hl⟩ : ∃ a, l[i - 1]? = some a := ⟨_, List.getElem?_eq_getElem (by omega)⟩
    have hne := ha a h0 hl
    rcases Nat.lt_trichotomy (i - 1) (posE l k v) with h1 | h1 | h1
    · have hpe : posE l k v = i := by omega
      have hh : hitE l k v = false := by
        cases hl2 : l[posE l k v]? with
        | none => unfold hitE; rw [hl2]
        | some b =>
          refine hit_no b hl2 ?_
          have := hb (posE l k v) b (by omega) hl2
          omega
      unfold backE
      rw [hh, if_neg (by simp)]
      omega
    · have h2 := posE_at l k v a (by rw [← h1]; exact hl)
      have h3 : orderL a.k a.v k v = 0 := by
        rcases orderL_three a.k k a.v v with h | h | h
        · exact absurd h h2
        · exact h
        · exact absurd h hne
      have hh : hitE l k v = true := by
        unfold hitE
        rw [← h1, hl]
        simpa using h3
      unfold backE
      rw [hh, if_pos rfl]
      omega
    · exact absurd (posE_gt l hs k v (i - 1) a h1 hl) hne
set_option maxRecDepth 100000 in
set_option maxHeartbeats 4000000 in
theorem seekB_any (ga oa m c nk ck : Nat) (KS : Option Addr) (kd v : Int) (k : List Int) (rs : List ER) (w : World) (hm : rs.length = m) (hm2 : m ≤ 4000000000) (hso : SortedE (rs.map ER.e)) (hA : Ers w (some ⟨ga, oa, none⟩) rs) (hk : Sl w KS nk (nums .u8 k)) (hnk : nk ≤ 4000000000) (hl : ∀ r ∈ rs, r.nk ≤ 4000000000) :
    Calls Tryz.prog 15 #[.slice (some ⟨ga, oa, none⟩) m c, .bool true, .agg #[.int .i64 kd, .slice KS nk ck, .int .u64 v]] w fun E w' => E = .returned (.int .i64 (backE (rs.map ER.e) k v)) ∧ Below w.heap.size w w' := by
  have hA := Lib.hid (hA.alloc (.cells #[.int .i64 kd, .slice KS nk ck, .int .u64 v] 39))
  have hk := Lib.hid (hk.alloc (.cells #[.int .i64 kd, .slice KS nk ck, .int .u64 v] 39))
  have hX : Hid (Blk (w.alloc (.cells #[.int .i64 kd, .slice KS nk ck, .int .u64 v] 39)) w.heap.size 39 [.int .i64 kd, .slice KS nk ck, .int .u64 v]) := Blk.new w _ _
  have hB : Hid (Below w.heap.size w (w.alloc (.cells #[.int .i64 kd, .slice KS nk ck, .int .u64 v] 39))) := (Below.refl _ _).alloc (Nat.le_refl _) _
  have HL := Lib.hid hl
  have HM := Lib.hid hm
  have HSO := Lib.hid hso
  rename_i hA0 hk0
  clear hl hm hA0 hk0 hso
  go_enter Tryz.func15, Tryz.ntmps15
  go_wp2_with fail
  generalize w.alloc (.cells #[.int .i64 kd, .slice KS nk ck, .int .u64 v] 39) = w0 at *
  generalize hgq : w.heap.size = gq at *
  have HGQ := Lib.hid hgq
  clear hgq
  go_loopg [7] m (fun f v7 wr => ∃ (i : Nat) (a : Int), v7 = .int .i64 a ∧ Hid (a = (i : Int) - 1) ∧ i ≤ m ∧ Hid (i ≤ f) ∧ Hid (∀ (j : Nat) (b : Ent), i ≤ j → (rs.map ER.e)[j]? = some b → orderL b.k b.v k v = 1) ∧ Hid (Ers wr (some ⟨ga, oa, none⟩) rs) ∧ Hid (Sl wr KS nk (nums .u8 k)) ∧ Hid (Blk wr gq 39 [.int .i64 kd, .slice KS nk ck, .int .u64 v]) ∧ Hid (Below gq w wr))
  case atStart => exact ⟨m, (m : Int) - 1, rfl, rfl, Nat.le_refl _, Nat.le_refl _, fun j b hj hb => absurd (List.getElem?_eq_some_iff.1 hb).1 (by rw [List.length_map, HM.out]; omega), hA.out, hk.out, hX.out, hB.out⟩
  case round =>
    clear hA hk hX hB
    obtain ⟨i0, a, rfl, ha, hi0, hf, hbh, hA, hk, hX, hB⟩ := hrel
    rcases Nat.eq_zero_or_pos i0 with h00 | h00
    · have hfin : Hid (backE (rs.map ER.e) k v = a) := by
        show _ = _
        rw [ha.out]
        exact backE_of HSO.out (by omega) hbh.out (fun b hb => absurd hb (by omega))
      obtain rfl : a = -1 := by rw [ha.out, h00]; rfl
      go_wp2
      go_quiet (fail)
      go_wp2
      go_ret
      exact ⟨by rw [hfin.out]; rfl, by rw [HGQ.out]; exact bel_drewN hB.out _⟩
    · obtain ⟨i, rfl⟩ : ∃ i, i0 = i + 1 := ⟨i0 - 1, by omega⟩
      obtain rfl : a = (i : Int) := by have := ha.out; omega
      obtain ⟨r, hr⟩ : ∃ r, rs[i]? = some r := ⟨_, List.getElem?_eq_getElem (by have := HM.out; omega)⟩
      have HR := Lib.hid hr
      have hrn : r.nk ≤ 4000000000 := HL.out r (List.mem_of_getElem? hr)
      have b0 := hA.out.at_ hr (j := 0) rfl
      have b1 := hA.out.at_ hr (j := 1) rfl
      rw [Nat.add_zero] at b0
      have hil : ((i : Int)) < (m : Int) := by omega
      have hig : (0 : Int) ≤ (i : Int) := by omega
      have hil2 : i < m := by omega
      clear hr ha h00
      go_wp2
      refine start_ (n := 20) (S := Sk ga (oa + i * 6) gq r KS nk ck v) (ds := []) #[ff,ff,ff,ff,ff,ff,ff,ff,ff,ff,ff,ff,ff,ff,ff,ff,ff,ff,ff,ff] (by kernel_rfl) rfl rfl (⟨b0, b1, hX.out.at_ rfl, hX.out.at_ rfl⟩) (fun hHeld => ?_)
      have hkd : Hid (Sl wr.drew KS nk (nums .u8 k)) := hk.out
      have hAd : Hid (Ers wr.drew (some ⟨ga, oa, none⟩) rs) := ⟨hA.out.sl, fun r hr => (hA.out.each r hr).drewN 1⟩
      have hXd : Hid (Blk wr.drew gq 39 [.int .i64 kd, .slice KS nk ck, .int .u64 v]) := hX.out
      have hBd : Hid (Below gq w wr.drew) := hB.out.drew
      have hrin : Hid (r.In wr.drew) := (hA.out.each r (List.mem_of_getElem? HR.out)).drewN 1
      clear b0 b1 hk hA hX hB
      generalize wr.drew = wd at *
      refine pure_ (i := 0) (N := some 13) (v := ?_) (a' := ?_) #[tt,ff,ff,ff,ff,ff,ff,ff,ff,ff,ff,ff,ff,ff,ff,ff,ff,ff,ff,ff] rfl rfl (by kernel_rfl) (fun _ _ _ h => h) (Or.inl ⟨by rfl, ?_⟩) ?_ ?_; rotate_left; (intro w'; go_simp; with_reducible rfl); rotate_left; (simp only [Act.put, List.setIfInBounds_toArray, List.set_cons_zero, List.set_cons_succ, i64_w, i32_w]; rfl)
      refine pure_ (i := 1) (N := some 14) (v := ?_) (a' := ?_) #[tt,tt,ff,ff,ff,ff,ff,ff,ff,ff,ff,ff,ff,ff,ff,ff,ff,ff,ff,ff] rfl rfl (by kernel_rfl) (fun _ _ _ h => h) (Or.inl ⟨by rfl, ?_⟩) ?_ ?_; rotate_left; (intro w'; go_simp; with_reducible rfl); rotate_left; (simp only [Act.put, List.setIfInBounds_toArray, List.set_cons_zero, List.set_cons_succ, i64_w, i32_w]; rfl)
      refine pure_ (i := 2) (N := some 15) (v := ?_) (a' := ?_) #[tt,tt,tt,ff,ff,ff,ff,ff,ff,ff,ff,ff,ff,ff,ff,ff,ff,ff,ff,ff] rfl rfl (by kernel_rfl) (fun _ _ _ h => h) (Or.inl ⟨by rfl, ?_⟩) ?_ ?_; rotate_left; (intro w'; go_simp; with_reducible rfl); rotate_left; (simp only [Act.put, List.setIfInBounds_toArray, List.set_cons_zero, List.set_cons_succ, i64_w, i32_w]; rfl)
      refine pure_ (i := 3) (N := some 16) (v := ?_) (a' := ?_) #[tt,tt,tt,tt,ff,ff,ff,ff,ff,ff,ff,ff,ff,ff,ff,ff,ff,ff,ff,ff] rfl rfl (by kernel_rfl) (fun _ _ _ h => h) (Or.inl ⟨by rfl, ?_⟩) ?_ ?_; rotate_left; (intro w'; go_simp; with_reducible rfl); rotate_left; (simp only [Act.put, List.setIfInBounds_toArray, List.set_cons_zero, List.set_cons_succ, i64_w, i32_w]; rfl)
      refine pure_ (i := 4) (N := some 17) (v := ?_) (a' := ?_) #[tt,tt,tt,tt,tt,ff,ff,ff,ff,ff,ff,ff,ff,ff,ff,ff,ff,ff,ff,ff] rfl rfl (by kernel_rfl) (fun _ _ _ h => h) (Or.inl ⟨by rfl, ?_⟩) ?_ ?_; rotate_left; (intro w'; go_simp; with_reducible rfl); rotate_left; (simp only [Act.put, List.setIfInBounds_toArray, List.set_cons_zero, List.set_cons_succ, i64_w, i32_w]; rfl)
      refine pure_ (i := 5) (N := some 18) (v := ?_) (a' := ?_) #[tt,tt,tt,tt,tt,tt,ff,ff,ff,ff,ff,ff,ff,ff,ff,ff,ff,ff,ff,ff] rfl rfl (by kernel_rfl) (fun _ _ _ h => h) (Or.inl ⟨by rfl, ?_⟩) ?_ ?_; rotate_left; (intro w'; go_simp; with_reducible rfl); rotate_left; (simp only [Act.put, List.setIfInBounds_toArray, List.set_cons_zero, List.set_cons_succ, i64_w, i32_w]; rfl)
      refine pure_ (i := 6) (N := some 19) (v := ?_) (a' := ?_) #[tt,tt,tt,tt,tt,tt,tt,ff,ff,ff,ff,ff,ff,ff,ff,ff,ff,ff,ff,ff] rfl rfl (by kernel_rfl) (fun _ _ _ h => h) (Or.inl ⟨by rfl, ?_⟩) ?_ ?_; rotate_left; (intro w'; go_simp; with_reducible rfl); rotate_left; (simp only [Act.put, List.setIfInBounds_toArray, List.set_cons_zero, List.set_cons_succ, i64_w, i32_w]; rfl)
      refine take_ (i := 7) (N := some 20) (v := ?_) (a' := ?_) #[tt,tt,tt,tt,tt,tt,tt,tt,ff,ff,ff,ff,ff,ff,ff,ff,ff,ff,ff,ff] rfl rfl (by kernel_rfl) (fun _ _ _ h => h) (Or.inl ⟨by rfl, ?_⟩) hHeld ?_ ?_; rotate_left; (rintro w' ⟨h0, h1, h2, h3⟩; go_simp; with_reducible rfl); rotate_left; (simp only [Act.put, List.setIfInBounds_toArray, List.set_cons_zero, List.set_cons_succ, i64_w, i32_w]; rfl)
      refine pure_ (i := 8) (N := some 21) (v := ?_) (a' := ?_) #[tt,tt,tt,tt,tt,tt,tt,tt,tt,ff,ff,ff,ff,ff,ff,ff,ff,ff,ff,ff] rfl rfl (by kernel_rfl) (fun _ _ _ h => h) (Or.inl ⟨by rfl, ?_⟩) ?_ ?_; rotate_left; (intro w'; go_simp; with_reducible rfl); rotate_left; (simp only [Act.put, List.setIfInBounds_toArray, List.set_cons_zero, List.set_cons_succ, i64_w, i32_w]; rfl)
      refine pure_ (i := 9) (N := some 22) (v := ?_) (a' := ?_) #[tt,tt,tt,tt,tt,tt,tt,tt,tt,tt,ff,ff,ff,ff,ff,ff,ff,ff,ff,ff] rfl rfl (by kernel_rfl) (fun _ _ _ h => h) (Or.inl ⟨by rfl, ?_⟩) ?_ ?_; rotate_left; (intro w'; go_simp; with_reducible rfl); rotate_left; (simp only [Act.put, List.setIfInBounds_toArray, List.set_cons_zero, List.set_cons_succ, i64_w, i32_w]; rfl)
      refine pure_ (i := 10) (N := some 23) (v := ?_) (a' := ?_) #[tt,tt,tt,tt,tt,tt,tt,tt,tt,tt,tt,ff,ff,ff,ff,ff,ff,ff,ff,ff] rfl rfl (by kernel_rfl) (fun _ _ _ h => h) (Or.inl ⟨by rfl, ?_⟩) ?_ ?_; rotate_left; (intro w'; go_simp; with_reducible rfl); rotate_left; (simp only [Act.put, List.setIfInBounds_toArray, List.set_cons_zero, List.set_cons_succ, i64_w, i32_w]; rfl)
      refine pure_ (i := 11) (N := some 24) (v := ?_) (a' := ?_) #[tt,tt,tt,tt,tt,tt,tt,tt,tt,tt,tt,tt,ff,ff,ff,ff,ff,ff,ff,ff] rfl rfl (by kernel_rfl) (fun _ _ _ h => h) (Or.inl ⟨by rfl, ?_⟩) ?_ ?_; rotate_left; (intro w'; go_simp; with_reducible rfl); rotate_left; (simp only [Act.put, List.setIfInBounds_toArray, List.set_cons_zero, List.set_cons_succ, i64_w, i32_w]; rfl)
      refine take_ (i := 12) (N := some 25) (v := ?_) (a' := ?_) #[tt,tt,tt,tt,tt,tt,tt,tt,tt,tt,tt,tt,tt,ff,ff,ff,ff,ff,ff,ff] rfl rfl (by kernel_rfl) (fun _ _ _ h => h) (Or.inl ⟨by rfl, ?_⟩) hHeld ?_ ?_; rotate_left; (rintro w' ⟨h0, h1, h2, h3⟩; go_simp; with_reducible rfl); rotate_left; (simp only [Act.put, List.setIfInBounds_toArray, List.set_cons_zero, List.set_cons_succ, i64_w, i32_w]; rfl)
      refine pure_ (i := 13) (N := some 26) (v := ?_) (a' := ?_) #[tt,tt,tt,tt,tt,tt,tt,tt,tt,tt,tt,tt,tt,tt,ff,ff,ff,ff,ff,ff] rfl rfl (by kernel_rfl) (fun _ _ _ h => h) (Or.inl ⟨by rfl, ?_⟩) ?_ ?_; rotate_left; (intro w'; go_simp; with_reducible rfl); rotate_left; (simp only [Act.put, List.setIfInBounds_toArray, List.set_cons_zero, List.set_cons_succ, i64_w, i32_w]; rfl)
      refine take_ (i := 14) (N := some 27) (v := ?_) (a' := ?_) #[tt,tt,tt,tt,tt,tt,tt,tt,tt,tt,tt,tt,tt,tt,tt,ff,ff,ff,ff,ff] rfl rfl (by kernel_rfl) (fun _ _ _ h => h) (Or.inl ⟨by rfl, ?_⟩) hHeld ?_ ?_; rotate_left; (rintro w' ⟨h0, h1, h2, h3⟩; go_simp; with_reducible rfl); rotate_left; (simp only [Act.put, List.setIfInBounds_toArray, List.set_cons_zero, List.set_cons_succ, i64_w, i32_w]; rfl)
      refine pure_ (i := 15) (N := some 28) (v := ?_) (a' := ?_) #[tt,tt,tt,tt,tt,tt,tt,tt,tt,tt,tt,tt,tt,tt,tt,tt,ff,ff,ff,ff] rfl rfl (by kernel_rfl) (fun _ _ _ h => h) (Or.inl ⟨by rfl, ?_⟩) ?_ ?_; rotate_left; (intro w'; go_simp; with_reducible rfl); rotate_left; (simp only [Act.put, List.setIfInBounds_toArray, List.set_cons_zero, List.set_cons_succ, i64_w, i32_w]; rfl)
      refine take_ (i := 16) (N := some 29) (v := ?_) (a' := ?_) #[tt,tt,tt,tt,tt,tt,tt,tt,tt,tt,tt,tt,tt,tt,tt,tt,tt,ff,ff,ff] rfl rfl (by kernel_rfl) (fun _ _ _ h => h) (Or.inl ⟨by rfl, ?_⟩) hHeld ?_ ?_; rotate_left; (rintro w' ⟨h0, h1, h2, h3⟩; go_simp; with_reducible rfl); rotate_left; (simp only [Act.put, List.setIfInBounds_toArray, List.set_cons_zero, List.set_cons_succ, i64_w, i32_w]; rfl)
      refine one_ (i := 17) (N := some 30) #[tt,tt,tt,tt,tt,tt,tt,tt,tt,tt,tt,tt,tt,tt,tt,tt,tt,tt,ff,ff] rfl rfl (by kernel_rfl) (by decide) (fun K hK => ?_); refine goes_ Tryz.func22 (by kernel_rfl) rfl #[.slice r.Ak r.nk r.ck, .int .u64 r.e.v, .slice KS nk ck, .int .u64 v] (by rfl) rfl rfl (by (try simp only [List.map_toArray, List.map_cons, List.map_nil]); first | done | rfl) ?_
      refine (order_big r.Ak KS r.nk nk r.ck ck r.e.k k r.e.v v wd hrin.out.key hkd.out (by omega) (by omega)).mono ?_
      rintro E wx ⟨rfl, nx, rfl⟩; refine ⟨_, rfl, ?_⟩
      refine hK.out _ _ (hHeld) (fun hHeld => ?_); clear hK K; refine norm_ (a' := ?_) ?_ ?_; rotate_left; (show Act.put _ (some 30) _ = _; simp only [Act.put, List.setIfInBounds_toArray, List.set_cons_zero, List.set_cons_succ, i64_w, i32_w]; rfl)
      replace hkd : Hid (Sl (wd.drewN nx) KS nk (nums .u8 k)) := hkd.out
      replace hAd : Hid (Ers (wd.drewN nx) (some ⟨ga, oa, none⟩) rs) := ⟨hAd.out.sl, fun r hr => (hAd.out.each r hr).drewN nx⟩
      replace hXd : Hid (Blk (wd.drewN nx) gq 39 [.int .i64 kd, .slice KS nk ck, .int .u64 v]) := hXd.out
      replace hBd : Hid (Below gq w (wd.drewN nx)) := bel_drewN hBd.out nx
      clear hrin hHeld
      generalize wd.drewN nx = we at *
      rcases orderL_three r.e.k k r.e.v v with h3 | h3 | h3
      · rw [h3]
        refine pure_ (i := 18) (N := some 31) (v := ?_) (a' := ?_) #[tt,tt,tt,tt,tt,tt,tt,tt,tt,tt,tt,tt,tt,tt,tt,tt,tt,tt,tt,ff] rfl rfl (by kernel_rfl) (fun _ _ _ h => h) (Or.inl ⟨by rfl, ?_⟩) ?_ ?_; rotate_left; (intro w'; go_simp; with_reducible rfl); rotate_left; (simp only [Act.put, List.setIfInBounds_toArray, List.set_cons_zero, List.set_cons_succ, i64_w, i32_w]; rfl)
        refine pure_ (i := 19) (N := some 32) (v := ?_) (a' := ?_) #[tt,tt,tt,tt,tt,tt,tt,tt,tt,tt,tt,tt,tt,tt,tt,tt,tt,tt,tt,tt] rfl rfl (by kernel_rfl) (fun _ _ _ h => h) (Or.inl ⟨by rfl, ?_⟩) ?_ ?_; rotate_left; (intro w'; go_simp; with_reducible rfl); rotate_left; (simp only [Act.put, List.setIfInBounds_toArray, List.set_cons_zero, List.set_cons_succ, i64_w, i32_w]; rfl)
        refine done_ (by kernel_rfl) ?_
        have hfin : Hid (backE (rs.map ER.e) k v = (i : Int)) := by
          show _ = _
          have := backE_of HSO.out (i := i + 1) (by rw [List.length_map, HM.out]; omega) hbh.out (fun b _ hb => by
            rw [Nat.add_sub_cancel, List.getElem?_map, HR.out] at hb
            injection hb with hb
            rw [← hb]
            omega)
          rw [this]
          omega
        clear h3
        go_wp2
        go_ret
        exact ⟨by rw [hfin.out]; rfl, by rw [HGQ.out]; exact hBd.out⟩
      · rw [h3]
        refine pure_ (i := 18) (N := some 31) (v := ?_) (a' := ?_) #[tt,tt,tt,tt,tt,tt,tt,tt,tt,tt,tt,tt,tt,tt,tt,tt,tt,tt,tt,ff] rfl rfl (by kernel_rfl) (fun _ _ _ h => h) (Or.inl ⟨by rfl, ?_⟩) ?_ ?_; rotate_left; (intro w'; go_simp; with_reducible rfl); rotate_left; (simp only [Act.put, List.setIfInBounds_toArray, List.set_cons_zero, List.set_cons_succ, i64_w, i32_w]; rfl)
        refine pure_ (i := 19) (N := some 32) (v := ?_) (a' := ?_) #[tt,tt,tt,tt,tt,tt,tt,tt,tt,tt,tt,tt,tt,tt,tt,tt,tt,tt,tt,tt] rfl rfl (by kernel_rfl) (fun _ _ _ h => h) (Or.inl ⟨by rfl, ?_⟩) ?_ ?_; rotate_left; (intro w'; go_simp; with_reducible rfl); rotate_left; (simp only [Act.put, List.setIfInBounds_toArray, List.set_cons_zero, List.set_cons_succ, i64_w, i32_w]; rfl)
        refine done_ (by kernel_rfl) ?_
        have hfin : Hid (backE (rs.map ER.e) k v = (i : Int)) := by
          show _ = _
          have := backE_of HSO.out (i := i + 1) (by rw [List.length_map, HM.out]; omega) hbh.out (fun b _ hb => by
            rw [Nat.add_sub_cancel, List.getElem?_map, HR.out] at hb
            injection hb with hb
            rw [← hb]
            omega)
          rw [this]
          omega
        clear h3
        go_wp2
        go_ret
        exact ⟨by rw [hfin.out]; rfl, by rw [HGQ.out]; exact hBd.out⟩
      · rw [h3]
        refine pure_ (i := 18) (N := some 31) (v := ?_) (a' := ?_) #[tt,tt,tt,tt,tt,tt,tt,tt,tt,tt,tt,tt,tt,tt,tt,tt,tt,tt,tt,ff] rfl rfl (by kernel_rfl) (fun _ _ _ h => h) (Or.inl ⟨by rfl, ?_⟩) ?_ ?_; rotate_left; (intro w'; go_simp; with_reducible rfl); rotate_left; (simp only [Act.put, List.setIfInBounds_toArray, List.set_cons_zero, List.set_cons_succ, i64_w, i32_w]; rfl)
        refine pure_ (i := 19) (N := some 32) (v := ?_) (a' := ?_) #[tt,tt,tt,tt,tt,tt,tt,tt,tt,tt,tt,tt,tt,tt,tt,tt,tt,tt,tt,tt] rfl rfl (by kernel_rfl) (fun _ _ _ h => h) (Or.inl ⟨by rfl, ?_⟩) ?_ ?_; rotate_left; (intro w'; go_simp; with_reducible rfl); rotate_left; (simp only [Act.put, List.setIfInBounds_toArray, List.set_cons_zero, List.set_cons_succ, i64_w, i32_w]; rfl)
        refine done_ (by kernel_rfl) ?_
        have hnx : Hid (∀ (j : Nat) (b : Ent), i ≤ j → (rs.map ER.e)[j]? = some b → orderL b.k b.v k v = 1) := fun j b hj hb => by
          rcases Nat.lt_or_eq_of_le hj with h4 | h4
          · exact hbh.out j b h4 hb
          · rw [← h4, List.getElem?_map, HR.out] at hb
            injection hb with hb
            rw [← hb]
            exact h3
        clear h3
        go_wp2
        obtain ⟨gkO, rfl⟩ : ∃ q, gk = q + 1 := ⟨gk - 1, by have := hf.out; omega⟩
        go_roundg gkO
        case measure => omega
        case rel => exact ⟨i, (i : Int) - 1, by go_num, rfl, by omega, by have := hf.out; show _ ≤ _; omega, hnx.out, hAd.out, hkd.out, hXd.out, hBd.out⟩
end Go.Proofs.YtegaigpolhdicaaGreat

/- Lists of places, cell by cell. -/
namespace Go.Proofs.YtegaigpolhdicaaGreat
open Go.RowKit
set_option linter.unusedVariables false
set_option linter.unusedSimpArgs false
/-- A place as it lies: whether there is an entry, and the entry. -/
structure PR where
  ok : Bool
  r : ER
def PR.cells (p : PR) : List Value := .bool p.ok :: p.r.cells
def flatP (l : List PR) : List Value := l.flatMap PR.cells
theorem flatP_cons (a : PR) (l : List PR) : flatP (a :: l) = a.cells ++ flatP l := List.flatMap_cons ..
theorem flatP_append (a b : List PR) : flatP (a ++ b) = flatP a ++ flatP b := List.flatMap_append ..
theorem flatP_at : ∀ (l : List PR) (i j : Nat) (r : PR), l[i]? = some r → j < 7 → (flatP l)[i * 7 + j]? = r.cells[j]? := by
  intro l
  induction l with
  | nil => intro i j r h; simp at h
  | cons a l ih =>
    intro i j r h hj
    have hl : a.cells.length = 7 := rfl
    rw [flatP_cons]
    cases i with
    | zero =>
      simp only [List.getElem?_cons_zero, Option.some.injEq] at h
      subst h
      rw [List.getElem?_append_left (by omega), Nat.zero_mul, Nat.zero_add]
    | succ i =>
      rw [List.getElem?_append_right (by omega), show (i + 1) * 7 + j - a.cells.length = i * 7 + j by omega]
      exact ih i j r (by simpa using h) hj
theorem flatP_one (l : List PR) : ∀ u ∈ flatP l, u.oneCell' = true := by
  intro u hu
  obtain ⟨r, _, hr⟩ := List.mem_flatMap.1 hu
  unfold PR.cells at hr
  rcases List.mem_cons.1 hr with rfl | h
  · rfl
  · exact cells_one r.r u h
/-- A slice that reads as a list of places. -/
structure Prs (w : World) (A : Option Addr) (l : List PR) : Prop where
  sl : Sl w A (l.length * 7) (flatP l)
  each : ∀ p ∈ l, p.r.In w
theorem Prs.below {w w' : World} {A : Option Addr} {l : List PR} (h : Prs w A l) (hb : Below w.heap.size w w') : Prs w' A l := ⟨h.sl.below hb, fun r hr => (h.each r hr).below hb⟩
theorem Prs.nil (w : World) (A : Option Addr) : Prs w A [] := ⟨Sl.nil w A, fun r hr => by cases hr⟩
theorem infoPl : (Tryz.prog.info? 47).map (fun i => (i.zero, i.size, i.bytes)) = some (some (.agg #[.bool false, .slice none 0 0, .int .u64 0, .int .u8 0, .int .u8 0, .int .u64 0, .slice none 0 0]), 7, 80) := by kernel_rfl
/-- append of whatever slice of places. -/
theorem run_append_pl (w : World) (base ty : Nat) (v : Value) (n : Nat) (xs : List Value) (hown : w.ownsRow base 47 7 v n xs)
    (A : Option Addr) (m c : Nat) (news : List Value) (hr : Sl w A (m * 7) news) (h1 : ∀ u ∈ news, u.oneCell' = true) (hb : n + m ≤ 10000000000) (hbase : base ≤ w.heap.size) :
    ∃ v' w', (Builtin.append_ #[27, 27] ty #[v, .slice A m c]).run Tryz.prog w = .ok v' w' ∧ w'.ownsRow base 47 7 v' (n + m) (xs ++ news) ∧ w.grownBy w' v.ownBlock ∧ (v'.ownBlock = v.ownBlock ∨ v'.ownBlock = some w.heap.size) := by
  obtain ⟨i, hi, hz0, hz1, hz2⟩ := info_parts infoPl
  rcases Nat.eq_zero_or_pos m with h0 | h0
  · subst h0
    have hn : news = [] := List.eq_nil_of_length_eq_zero (by have := hr.1; omega)
    subst hn
    exact ⟨v, w, run_append_nothing w base 27 ty 47 i 7 Tryz.underlying27 hi v n xs hown A c (by cases A <;> simp), by simpa using hown, World.grownBy.refl w _, .inl rfl⟩
  · obtain ⟨g, o, rfl, hc⟩ := hr.2 (by omega)
    obtain ⟨v', w', hrun, h2, h3, _, h5⟩ := run_append_own_at (P := Tryz.prog) w base 27 ty 47 i _ 7 80 Tryz.underlying27 hi hz0 hz1 hz2 rfl (by omega) v n xs hown ⟨g, o, none⟩ m c news (by rw [hr.1])
      (Sl.adds ⟨hr.1, fun _ => ⟨g, o, rfl, hc⟩⟩) h1 (by simp only [maxLen]; omega) (by omega) hbase
    exact ⟨v', w', hrun, h2, h3, h5⟩
theorem wpList_append_pl {w : World} {ops : Array Oper} {rest : List Oper} {o : Oper} {a : Act} {Q : Exit → Act → World → Prop} (hgd : o.guard = none) (s x : Operand)
    (ho : o.op = .call { callee := .builtin .append, args := #[s, x], argTypes := #[27, 27] })
    (base : Nat) (v : Value) (n : Nat) (xs : List Value) (hs : a.eval s = v) (hown : w.ownsRow base 47 7 v n xs)
    (A : Option Addr) (m c : Nat) (news : List Value) (hx : a.eval x = .slice A m c) (hr : Sl w A (m * 7) news) (h1 : ∀ u ∈ news, u.oneCell' = true) (hb : n + m ≤ 10000000000) (hbase : base ≤ w.heap.size)
    (h : ∀ v' w', w'.ownsRow base 47 7 v' (n + m) (xs ++ news) → w.grownBy w' v.ownBlock → (v'.ownBlock = v.ownBlock ∨ v'.ownBlock = some w.heap.size) → wpList Tryz.prog ops Q rest (a.put o.dst v') w') : wpList Tryz.prog ops Q (o :: rest) a w := by
  refine wpList_plain hgd fun K hK => ?_
  obtain ⟨v', w', hrun, h2, h3, h4⟩ := run_append_pl w base o.type v n xs hown A m c news hr h1 hb hbase
  unfold Oper.wp execOp
  simp only [ho, resolve, invoke, builtin, Sem.run_bind, Sem.run_pure, Result.andThen_ok, List.map_toArray, List.map_cons, List.map_nil, hs, hx, hrun]
  exact hK _ _ (h v' w' h2 h3 h4)
theorem own_pl {w : World} {base n : Nat} {v : Value} {xs : List Value} (h : w.ownsRow base 47 7 v n xs) : ∃ A c, v = .slice A n c ∧ n ≤ c ∧ Sl w A (n * 7) xs ∧ ∀ b o, A = some ⟨b, o, none⟩ → base ≤ b ∧ b < w.heap.size := by
  have hlt := h.lt
  obtain ⟨hl, h2⟩ := h
  rcases h2 with ⟨rfl, rfl⟩ | ⟨g, cap, cur, rfl, hg, hh, hnc, hcm, hcs, ht⟩
  · exact ⟨none, 0, rfl, Nat.le_refl _, ⟨by simpa using hl, fun h => absurd h (by omega)⟩, fun b o e => by cases e⟩
  · refine ⟨some ⟨g, 0, none⟩, cap, rfl, hnc, ⟨by simpa using hl, fun _ => ⟨g, 0, rfl, fun j u hu => ?_⟩⟩, fun b o e => by injection e with e; injection e with e1 e2; subst e1; exact hlt g rfl⟩
    have h0 : w.ownsRow base 47 7 (.slice (some ⟨g, 0, none⟩) n cap) n xs := ⟨hl, .inr ⟨g, cap, cur, rfl, hg, hh, hnc, hcm, hcs, ht⟩⟩
    have hj : j < n * 7 := by have := (List.getElem?_eq_some_iff.1 hu).1; omega
    rw [Nat.zero_add, h0.cellAt j hj]
    exact hu
/-- A step, and where an iterator of both directions goes by it (out of range: nowhere). -/
structure StE where
  kind : Int
  k : List Int
  v : Int
def moveE (l : List Ent) (at_ : Int) (s : StE) : Option Int :=
  if s.kind = 0 then some 0 else if s.kind = 1 then some ((l.length : Int) - 1) else if s.kind = 4 then some (posE l s.k s.v) else if s.kind = 5 then some (backE l s.k s.v)
  else if s.kind = 2 ∧ 0 ≤ at_ ∧ at_ < l.length then some (at_ + 1) else if s.kind = 3 ∧ 0 ≤ at_ ∧ at_ < l.length then some (at_ - 1) else none
/-- The places behind each step, if all steps can be taken. -/
def walkE (l : List Ent) : Int → List StE → Option (List Int)
  | _, [] => some []
  | a, s :: r => (moveE l a s).bind fun b => (walkE l b r).map fun m => b :: m
end Go.Proofs.YtegaigpolhdicaaGreat

/- Where an iterator stands, as a number. -/
namespace Go.Proofs.YtegaigpolhdicaaGreat
open Go.RowKit
set_option linter.unusedVariables false
set_option linter.unusedSimpArgs false
end Go.Proofs.YtegaigpolhdicaaGreat
