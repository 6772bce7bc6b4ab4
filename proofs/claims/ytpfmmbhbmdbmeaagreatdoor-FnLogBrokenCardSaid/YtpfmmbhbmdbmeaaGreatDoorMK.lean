/- A constant's bytes turned to a slice: the row is marked. -/
import Derived.Test.YtpfmmbhbmdbmeaaGreatDoorGX
import Derived.Test.YtpfmmbhbmdbmeaaGreatDoorPB
namespace Go.Proofs.YtpfmmbhbmdbmeaaGreatDoorQ.Ext
open Go.RowKit Go.Proofs.YtpfmmbhbmdbmeaaGreatDoorW.PrintWords
set_option linter.unusedVariables false
theorem freeze_heap (w : World) (g k i : Nat) (h : i ≠ g) : (w.freeze ⟨g, k, none⟩ 1).heap[i]? = w.heap[i]? := by
  unfold World.freeze
  rw [if_neg (by decide)]
  simp only [Array.getElem?_modify]
  rw [if_neg (fun e => h e.symm)]
theorem freeze_cell (w : World) (g k : Nat) (p : Addr) : (w.freeze ⟨g, k, none⟩ 1).cell? p = w.cell? p := by
  unfold World.cell? World.freeze
  rw [if_neg (by decide)]
  simp only [Array.getElem?_modify]
  by_cases h : g = p.block
  · rw [if_pos h]
    subst h
    cases hh : w.heap[p.block]? with
    | none => rfl
    | some o => cases o <;> simp
  · rw [if_neg h]
theorem mark_bytes {W w1 : World} {ok : Nat → Prop} {A : Option Addr} {n c : Nat} {xs : List Int} (ho : Kd.R (Kd.int .u8) 5 w1 W.heap.size ok (.slice A n c) xs) (hb : Below W.heap.size W w1) (hpos : 0 < xs.length) :
    ∃ w2, (convert 27 27 (.slice A n c)).run Tryz.prog w1 = .ok (.slice A n c) w2 ∧ Below W.heap.size W w2 ∧ n ≤ c ∧ Kd.C (Kd.int .u8) w2 A n xs ∧ (∀ k, (Value.slice A n c).ownBlock = some k → k < w2.heap.size) := by
  obtain ⟨hn, hc, hC⟩ := Kd.R_reads' ho
  have hlt := Kd.R_lt ho
  have hbase := Kd.R_base ho
  subst hn
  have hown := own_of_R ho
  rcases hown.2 with ⟨h1, h0⟩ | ⟨g, cap, cur, h1, hg, hh, hnc, hcm, hcs, ht⟩
  · omega
  · injection h1 with h1 h2 h3
    subst h1 h3
    refine ⟨w1.freeze ⟨g, cur.size, none⟩ 1, ?_, ?_, hc, ?_, ?_⟩
    · have hsh : w1.shape? g = some (5, cur.size) := by unfold World.shape?; rw [hh]
      simp [convert, run_underlying Tryz.underlying27, run_underlying Tryz.underlying5, markStringish, hsh]
    · exact ⟨hb.os, hb.tape, hb.output, by have := hb.size; unfold World.freeze; simpa using this, fun k hk => by rw [freeze_heap _ _ _ _ (by omega)]; exact hb.block k hk⟩
    · exact C_of_sl ⟨by rw [YtpfmmbhbmdbmeaaGreatDoor.nums_length], fun h0 => by
        obtain ⟨g', o', e', hcell⟩ := (sl_of_C hC).2 h0
        exact ⟨g', o', e', fun j v hv => by rw [freeze_cell]; exact hcell j v hv⟩⟩ hC.2.1
    · intro k hk
      have := hlt k hk
      unfold World.freeze
      simpa using this
end Go.Proofs.YtpfmmbhbmdbmeaaGreatDoorQ.Ext
