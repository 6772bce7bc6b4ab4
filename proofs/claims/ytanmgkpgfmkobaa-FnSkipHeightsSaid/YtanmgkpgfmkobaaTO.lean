/- spec.Put: all entries come into a list in order. -/
import Derived.Test.YtanmgkpgfmkobaaTN
namespace Go.Proofs.Ytanmgkpgfmkobaa
open Go.RowKit
set_option linter.unusedVariables false
set_option linter.unusedSimpArgs false
theorem putR_le (l : List ER) (q : ER) : (putR l q).length ≤ l.length + 1 := by
  unfold putR
  rw [List.length_append, List.length_cons, List.length_take, List.length_drop]
  have := posE_le (l.map ER.e) q.e.k q.e.v
  split <;> omega
theorem putR_mem {l : List ER} {q r : ER} (h : r ∈ putR l q) : r ∈ l ∨ r = q := by
  unfold putR at h
  rcases List.mem_append.1 h with h1 | h1
  · exact .inl (List.mem_of_mem_take h1)
  · rcases List.mem_cons.1 h1 with rfl | h2
    · exact .inr rfl
    · exact .inl (List.mem_of_mem_drop h2)
theorem putR_pos (l : List ER) (q : ER) : 0 < (putR l q).length := by
  unfold putR
  rw [List.length_append, List.length_cons]
  exact Nat.add_pos_right _ (Nat.succ_pos _)
structure OutE (w : World) (l : List Ent) (rp : List ER) (A : Option Addr) (c : Nat) (rs : List ER) : Prop where
  ers : Ers w A rs
  map : rs.map ER.e = putsE l
  cap : rs.length ≤ c
  len : rs.length ≤ l.length
  nk : ∀ r ∈ rs, r.nk ≤ 4000000000
  addr : ∃ g o, A = some ⟨g, o, none⟩
  sub : ∀ r ∈ rs, r ∈ rp
def PutP (l : List Ent) (rp : List ER) (w : World) (E : Ending) (w' : World) : Prop := ∃ A c rs, E = .returned (.slice A rs.length c) ∧ OutE w' l rp A c rs ∧ Below w.heap.size w w'
set_option maxRecDepth 100000 in
set_option maxHeartbeats 4000000 in
theorem specPuts_big (P : Option Addr) (m d : Nat) (l : List Ent) (rp : List ER) (w : World) (hlen : l.length = m) (hrp : rp.map ER.e = l) (hE : Ers w P rp) (hm : m ≤ 4000000000) (hnk : ∀ r ∈ rp, r.nk ≤ 4000000000) :
    Calls Try.prog 14 #[.slice P m d] w (PutP l rp w) := by
  have hrl : rp.length = m := by rw [← hlen, ← hrp, List.length_map]
  have HE := Lib.hid hE
  have HN := Lib.hid hnk
  have HL := Lib.hid (And.intro hlen (And.intro hrl hrp))
  clear hrp hE hlen hrl hnk
  go_enter Try.func14, Try.ntmps14
  go_wp2
  go_loopg [3, 9] m (fun f v3 v9 wr => ∃ (i c ga oa : Nat) (rs : List ER), v3 = .slice (some ⟨ga, oa, none⟩) rs.length c ∧ v9 = .int .i64 i ∧ i ≤ m ∧ rs.length ≤ i ∧ rs.length ≤ c ∧ Hid (i + f = m) ∧ Hid (OutE wr (l.take i) rp (some ⟨ga, oa, none⟩) c rs) ∧ Hid (Below w.heap.size w wr))
  case atStart =>
    refine ⟨0, 0, w.heap.size, 0, [], rfl, rfl, Nat.zero_le _, Nat.le_refl _, Nat.le_refl _, by simp [Hid], ⟨Ers.nil _ _, by simp [putsE], Nat.le_refl _, Nat.zero_le _, fun r hr => (by cases hr), ⟨_, _, rfl⟩, fun r hr => (by cases hr)⟩, ?_⟩
    exact (Below.refl _ _).alloc (Nat.le_refl _) _
  case round =>
    obtain ⟨i, c, ga, oa, rs, rfl, rfl, him, hri, hrc, hf, hO, hbw⟩ := hrel
    by_cases hlt : i < m
    · obtain ⟨q, hq⟩ : ∃ q, rp[i]? = some q := ⟨_, List.getElem?_eq_getElem (by have := HL.out.2.1; omega)⟩
      have hEr := HE.out.below hbw.out
      obtain ⟨gp, op, hPe⟩ := hEr.addr (by have := HL.out.2.1; omega)
      subst hPe
      have ha : ∀ j v, q.cells[j]? = some v → wr.cell? ⟨gp, op + i * 6 + j, none⟩ = some v := fun j v hj => hEr.at_ hq hj
      have c0 := ha 0 _ rfl
      have c1 := ha 1 _ rfl
      have c2 := ha 2 _ rfl
      have c3 := ha 3 _ rfl
      have c4 := ha 4 _ rfl
      have c5 := ha 5 _ rfl
      rw [Nat.add_zero] at c0
      have HQ := Lib.hid (hEr.each q (List.mem_of_getElem? hq))
      have HQN := Lib.hid (HN.out q (List.mem_of_getElem? hq))
      have HI := Lib.hid hq
      obtain ⟨gkO, rfl⟩ : ∃ x, gk = x + 1 := ⟨gk - 1, by have := hf.out; omega⟩
      clear ha hEr hq
      go_wp2_with fail
      refine (specPut_any ga oa rs.length c rs q _ rfl hrc (by omega) (hO.out.ers.alloc _) (HQ.out.alloc _) hO.out.nk HQN.out).mono ?_
      rintro E w9 ⟨A9, c9, rfl, hc9, hE9, hb9⟩
      obtain ⟨g9, o9, hA9⟩ := hE9.addr (putR_pos rs q)
      subst hA9
      have hle := putR_le rs q
      have HO9 : Hid (OutE w9 (l.take (i + 1)) rp (some ⟨g9, o9, none⟩) c9 (putR rs q)) := by
        refine ⟨hE9, ?_, hc9, ?_, fun r hr => ?_, ⟨_, _, rfl⟩, fun r hr => ?_⟩
        · have hli : l[i]? = some q.e := by rw [← HL.out.2.2, List.getElem?_map, HI.out]; rfl
          rw [putR_e, hO.out.map, take_snoc l i q.e hli, putsE_snoc]
        · rw [List.length_take, HL.out.1]; omega
        · rcases putR_mem hr with h | rfl
          · exact hO.out.nk r h
          · exact HQN.out
        · rcases putR_mem hr with h | rfl
          · exact hO.out.sub r h
          · exact List.mem_of_getElem? HI.out
      have hb2 : Hid (Below w.heap.size w w9) := (hbw.out.alloc hbw.out.size _).trans (hb9.mono (by rw [World.size_alloc]; have := hbw.out.size; omega))
      clear hE9 hb9 hO hbw
      generalize putR rs q = rs9 at *
      go_wp2
      go_roundg gkO
      case measure => omega
      case rel => exact ⟨i + 1, c9, g9, o9, rs9, rfl, by go_num, by omega, by omega, hc9, by have := hf.out; show _ = _; omega, HO9.out, hb2.out⟩
    · have hie : i = m := by omega
      have HIE := Lib.hid hie
      clear hie
      have hge : ¬ ((i : Int) < (m : Int)) := by omega
      go_wp2
      go_ret
      refine ⟨_, c, rs, rfl, ?_, hbw.out⟩
      have := hO.out
      rwa [HIE.out, List.take_of_length_le (by rw [HL.out.1]; exact Nat.le_refl _)] at this
end Go.Proofs.Ytanmgkpgfmkobaa
