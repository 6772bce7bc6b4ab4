/- A log that is read: the plain words, and what a round finds. -/
import Derived.Test.YtpfmmbhbmdbmeaaGreatDoorHK
import Derived.Test.YtpfmmbhbmdbmeaaGreatDoorBB
namespace Go.Proofs.YtpfmmbhbmdbmeaaGreatDoor
open Go.RowKit
set_option linter.unusedVariables false
set_option linter.unusedSimpArgs false
/-- A record of a log. -/
structure LR where
  k : List Int
  d : List Int
  e : Int
  m : Int
  u : Int
def LR.hd (r : LR) : List Int := headB (r.k.length : Nat) (r.d.length : Nat) r.e r.m r.u
def LR.size (r : LR) : Nat := r.hd.length + (r.k.length + r.d.length) + 4
def LR.by_ (r : LR) : List Int := recB r.m r.u r.e r.k r.d
structure LR.Ok (r : LR) : Prop where
  k1 : 1 ≤ r.k.length
  k2 : r.k.length ≤ 60
  d1 : r.d.length ≤ 1000
  e1 : 0 ≤ r.e ∧ r.e ≤ 18446744073709551615
  m1 : 0 ≤ r.m ∧ r.m ≤ 255
  u1 : 0 ≤ r.u ∧ r.u ≤ 255
  kb : Byt r.k
  db : Byt r.d
inductive Kn where
  | one
  | txn (ts : Nat)
  | fin (ts : Nat)
def KnOk (r : LR) : Kn → Prop
  | .one => bits .and .u8 r.m 64 = 0 ∧ bits .and .u8 r.m 128 = 0
  | .txn ts => bits .and .u8 r.m 64 = 64 ∧ (∃ k0 : List Int, 1 ≤ k0.length ∧ r.k = keyB k0 ts) ∧ 1 ≤ ts ∧ ts ≤ 1000000
  | .fin ts => bits .and .u8 r.m 64 = 0 ∧ bits .and .u8 r.m 128 = 128 ∧ 1 ≤ r.d.length ∧ (∀ c ∈ r.d, 48 ≤ c ∧ c ≤ 57) ∧ digN 0 r.d = ts ∧ 1 ≤ ts ∧ ts ≤ 1000000
abbrev LK := LR × Kn
/-- What stands in a log: records that are right, and behind them something that is none. -/
inductive Lin : List Int → List LK → Prop
  | stop (Y : List Int) (k d : Nat) (e m u : Int) (b : Bool) (hp : Pre Y (headB k d e m u) b) (h1 : 1 ≤ k) (h2 : k ≤ 60) (h3 : d ≤ 1000) (h4 : 0 ≤ e ∧ e ≤ 18446744073709551615) (hb : ¬ GoodE b (Y.drop (headB k d e m u).length) (headB k d e m u) k d) : Lin Y []
  | more (Y : List Int) (gs : List LK) (r : LR) (kn : Kn) (h1 : r.Ok) (h2 : KnOk r kn) (h : Lin Y gs) : Lin (r.by_ ++ Y) ((r, kn) :: gs)
/-- The transactions come one after the other. -/
def WB : Nat → List LK → Prop
  | _, [] => True
  | lc, (r, .one) :: gs => lc = 0 ∧ WB 0 gs
  | lc, (r, .txn ts) :: gs => (lc = 0 ∨ lc = ts) ∧ WB ts gs
  | lc, (r, .fin ts) :: gs => lc = ts ∧ WB 0 gs
def runO : Nat → List (LR × Nat) → List LK → List (LR × Nat)
  | _, _, [] => []
  | p, pd, (r, .one) :: gs => (r, p) :: runO (p + r.size) pd gs
  | p, pd, (r, .txn ts) :: gs => runO (p + r.size) (pd ++ [(r, p)]) gs
  | p, pd, (r, .fin ts) :: gs => pd ++ runO (p + r.size) [] gs
def runE : Nat → Nat → List LK → Nat
  | _, ve, [] => ve
  | p, ve, (r, .one) :: gs => runE (p + r.size) (p + r.size) gs
  | p, ve, (r, .txn ts) :: gs => runE (p + r.size) ve gs
  | p, ve, (r, .fin ts) :: gs => runE (p + r.size) (p + r.size) gs
theorem LR.hd_len {r : LR} (h : r.Ok) : 5 ≤ r.hd.length ∧ r.hd.length ≤ 22 := headB_len _ _ r.e r.m r.u (by have := h.k2; omega) (by have := h.d1; omega)
theorem LR.by_len {r : LR} (h : r.Ok) : r.by_.length = r.size := by
  have := (recB_len r.m r.u r.e r.k r.d (by have := h.k2; omega) (by have := h.d1; omega)).1
  unfold LR.by_ LR.size LR.hd
  omega
theorem un32_be (x : Int) (h : 0 ≤ x ∧ x ≤ 4294967295) : un32L (be32 x) = x := by
  show un32 _ _ _ _ = x
  unfold un32 un16
  omega
/-- A record that is right reads as one. -/
theorem LR.good {r : LR} (h : r.Ok) (Y : List Int) : Pre (r.by_ ++ Y) r.hd true ∧ GoodE true ((r.by_ ++ Y).drop r.hd.length) r.hd r.k.length r.d.length ∧ ((r.by_ ++ Y).drop r.hd.length).take r.k.length = r.k ∧ (((r.by_ ++ Y).drop r.hd.length).drop r.k.length).take r.d.length = r.d ∧ (r.by_ ++ Y).drop r.size = Y := by
  have hP : Byt (recP r.m r.u r.e r.k r.d) := (headB_byt _ _ _ _ _ (by omega) (by have := h.k2; omega) (by omega) (by have := h.d1; omega) h.e1.1 h.e1.2 h.m1 h.u1).append (h.kb.append h.db)
  have hin := crcOut_in _ hP
  have e0 : r.by_ ++ Y = r.hd ++ (r.k ++ (r.d ++ (be32 (crcOut (recP r.m r.u r.e r.k r.d)) ++ Y))) := by
    unfold LR.by_ LR.hd recB recP
    simp [List.append_assoc]
  have e1 : (r.by_ ++ Y).drop r.hd.length = r.k ++ (r.d ++ (be32 (crcOut (recP r.m r.u r.e r.k r.d)) ++ Y)) := by rw [e0, List.drop_left]
  have e2 : r.hd ++ (r.k ++ r.d) = recP r.m r.u r.e r.k r.d := by unfold LR.hd recP; simp [List.append_assoc]
  have h4 : (be32 (crcOut (recP r.m r.u r.e r.k r.d))).length = 4 := rfl
  refine ⟨.inl ⟨rfl, _, e0⟩, ⟨rfl, ?_, ?_⟩, ?_, ?_, ?_⟩
  · rw [e1]; simp only [List.length_append, h4]; omega
  · rw [e1]
    have a1 : (r.k ++ (r.d ++ (be32 (crcOut (recP r.m r.u r.e r.k r.d)) ++ Y))).drop (r.k.length + r.d.length) = be32 (crcOut (recP r.m r.u r.e r.k r.d)) ++ Y := by rw [← List.append_assoc, List.drop_left' (by rw [List.length_append])]
    have a2 : (r.k ++ (r.d ++ (be32 (crcOut (recP r.m r.u r.e r.k r.d)) ++ Y))).take (r.k.length + r.d.length) = r.k ++ r.d := by rw [← List.append_assoc, List.take_left' (by rw [List.length_append])]
    rw [a1, a2, e2, List.take_left' h4]
    exact un32_be _ hin
  · rw [e1, List.take_left]
  · rw [e1, List.drop_left, List.take_left]
  · rw [← LR.by_len h, List.drop_left]
/-- A record that has been read, as it lies. -/
structure PE where
  ge : Nat
  r : RR
  off : Int
  hl : Int
def PE.cells (e : PE) : List Value := [.slice e.r.Ak e.r.nk e.r.ck, .slice e.r.Ad e.r.nd e.r.cd, .int .u64 e.r.e, .int .u64 0, .int .u32 e.off, .int .u8 e.r.u, .int .u8 e.r.m, .int .i64 e.hl, .int .i64 0]
def PE.In (e : PE) (w : World) : Prop := Blk w e.ge 91 e.cells ∧ e.r.In w
def PE.ptr (e : PE) : Value := .pointer (some ⟨e.ge, 0, none⟩)
def volX (gb gs gl gp : Nat) (vE vP vL vQ : Value) : List Nat := gb :: gs :: gl :: gp :: (vE.ownBlock.toList ++ (vP.ownBlock.toList ++ (vL.ownBlock.toList ++ vQ.ownBlock.toList)))
/-- What a round finds. -/
structure ItS (w0 : World) (gb gs glf gl gp n c pos off : Nat) (A : Option Addr) (l : List Int) (fid : Int) (vE vP vL vQ : Value) (pend : List PE) (sps : List Sp3) (outs : List RR) (ops : List Sp3) (w : World) : Prop where
  sm : Below w0.heap.size w0 w
  rd : BrS w gb n c pos A l
  sr : ∃ Ak nk ck Av nv cv lf, Blk w gs 115 [.slice Ak nk ck, .slice Av nv cv, .int .u32 off, lf]
  lf : ∃ x y z, Blk w glf 86 [x, y, .int .u32 fid, z]
  ent : w.ownsRow w0.heap.size 89 1 vE pend.length (pend.map PE.ptr)
  vps : w.ownsRow w0.heap.size 95 3 vP sps.length (flatSp sps)
  bl : Blk w gl 49 [vL]
  bp : Blk w gp 70 [vQ]
  ol : w.ownsRow w0.heap.size 51 5 vL outs.length (flatRR outs)
  oq : w.ownsRow w0.heap.size 75 3 vQ ops.length (flatSp ops)
  pst : ∀ e ∈ pend, Stab (volX gb gs gl gp vE vP vL vQ) w e.In
  ost : ∀ r ∈ outs, Stab (volX gb gs gl gp vE vP vL vQ) w r.In
  big : w0.heap.size ≤ gb ∧ w0.heap.size ≤ gs ∧ w0.heap.size ≤ gl ∧ w0.heap.size ≤ gp
  data : ∀ g o, A = some ⟨g, o, none⟩ → 0 < n → g < w0.heap.size
theorem blkT {L Ts : List Nat} {w w' : World} {g t : Nat} {cs : List Value} (h : Blk w g t cs) (hf : Frm L w w') (hL : ∀ k ∈ L, ∃ t cs, Blk w k t cs ∧ t ∈ Ts) (hne : t ∉ Ts) : Blk w' g t cs := h.frm hf (fun hm => by
  obtain ⟨t', cs', hb, ht⟩ := hL g hm
  exact blk_neZ hb h (fun e => hne (e ▸ ht)) rfl)
theorem ownT {L Ts : List Nat} {w w' : World} {base e s n : Nat} {v : Value} {xs : List Value} (h : w.ownsRow base e s v n xs) (hf : Frm L w w') (hL : ∀ k ∈ L, ∃ t cs, Blk w k t cs ∧ t ∈ Ts) (hne : e ∉ Ts) : w'.ownsRow base e s v n xs := own_frmT h hf (fun k hk _ => by
  obtain ⟨t', cs', hb, ht⟩ := hL k hk
  exact ⟨t', cs', hb, fun e2 => hne (e2 ▸ ht)⟩)
section
variable {w0 w w' : World} {gb gs glf gl gp n c pos off pos' off' : Nat} {A : Option Addr} {l : List Int} {fid : Int} {vE vP vL vQ v' : Value} {pend : List PE} {sps ops : List Sp3} {outs : List RR}
/-- All that may turn is there. -/
theorem ItS.lt (s : ItS w0 gb gs glf gl gp n c pos off A l fid vE vP vL vQ pend sps outs ops w) : ∀ k ∈ volX gb gs gl gp vE vP vL vQ, k < w.heap.size ∧ w0.heap.size ≤ k := by
  intro k hk
  obtain ⟨_, _, _, _, _, _, _, hs⟩ := s.sr
  simp only [volX, List.mem_cons, List.mem_append] at hk
  rcases hk with rfl | rfl | rfl | rfl | hk | hk | hk | hk
  · exact ⟨s.rd.b.lt, s.big.1⟩
  · exact ⟨hs.lt, s.big.2.1⟩
  · exact ⟨s.bl.lt, s.big.2.2.1⟩
  · exact ⟨s.bp.lt, s.big.2.2.2⟩
  · obtain ⟨cs, h1, h2⟩ := own_blkT s.ent hk; exact ⟨h1.lt, h2⟩
  · obtain ⟨cs, h1, h2⟩ := own_blkT s.vps hk; exact ⟨h1.lt, h2⟩
  · obtain ⟨cs, h1, h2⟩ := own_blkT s.ol hk; exact ⟨h1.lt, h2⟩
  · obtain ⟨cs, h1, h2⟩ := own_blkT s.oq hk; exact ⟨h1.lt, h2⟩
/-- A new block, or a draw. -/
theorem ItS.frm0 (s : ItS w0 gb gs glf gl gp n c pos off A l fid vE vP vL vQ pend sps outs ops w) (hf : Frm [] w w') : ItS w0 gb gs glf gl gp n c pos off A l fid vE vP vL vQ pend sps outs ops w' :=
  have hL : ∀ k ∈ ([] : List Nat), ∃ t cs, Blk w k t cs ∧ t ∈ ([] : List Nat) := fun k hk => by cases hk
  ⟨s.sm.trans (hf.below s.sm.size (fun i hi => by cases hi)), s.rd.frm hf (by simp) (fun _ _ _ _ h => by cases h), (by obtain ⟨a, b, c, d, e, f, g, h⟩ := s.sr; exact ⟨a, b, c, d, e, f, g, blkT h hf hL (by simp)⟩), (by obtain ⟨a, b, c, h⟩ := s.lf; exact ⟨a, b, c, blkT h hf hL (by simp)⟩), ownT s.ent hf hL (by simp), ownT s.vps hf hL (by simp), blkT s.bl hf hL (by simp), blkT s.bp hf hL (by simp), ownT s.ol hf hL (by simp), ownT s.oq hf hL (by simp),
    fun e he => (s.pst e he).frm hf (fun k hk => by cases hk) (fun k hk _ => hk), fun r hr => (s.ost r hr).frm hf (fun k hk => by cases hk) (fun k hk _ => hk), s.big, s.data⟩
/-- A record has been read. -/
theorem ItS.entry (s : ItS w0 gb gs glf gl gp n c pos off A l fid vE vP vL vQ pend sps outs ops w) (hf : Frm [gb, gs] w w') (hr : BrS w' gb n c pos' A l) (hs : ∃ Ak nk ck Av nv cv lf, Blk w' gs 115 [.slice Ak nk ck, .slice Av nv cv, .int .u32 off', lf]) : ItS w0 gb gs glf gl gp n c pos' off' A l fid vE vP vL vQ pend sps outs ops w' := by
  have hL : ∀ k ∈ [gb, gs], ∃ t cs, Blk w k t cs ∧ t ∈ [134, 115] := fun k hk => by
    simp only [List.mem_cons, List.not_mem_nil, or_false] at hk
    rcases hk with rfl | rfl
    · exact ⟨_, _, s.rd.b, by simp⟩
    · obtain ⟨a, b, c, d, e, f, g, h⟩ := s.sr
      exact ⟨_, _, h, by simp⟩
  have hx : ∀ k, k ∈ [gb, gs] → k < w.heap.size → k ∈ volX gb gs gl gp vE vP vL vQ := fun k hk _ => by
    simp only [List.mem_cons, List.not_mem_nil, or_false] at hk
    rcases hk with rfl | rfl <;> simp [volX]
  exact ⟨s.sm.trans (hf.below s.sm.size (fun i hi => (s.lt i (by simp only [List.mem_cons, List.not_mem_nil, or_false] at hi; rcases hi with rfl | rfl <;> simp [volX])).2)), hr, hs, (by obtain ⟨a, b, c, h⟩ := s.lf; exact ⟨a, b, c, blkT h hf hL (by decide)⟩), ownT s.ent hf hL (by decide), ownT s.vps hf hL (by decide), blkT s.bl hf hL (by decide), blkT s.bp hf hL (by decide), ownT s.ol hf hL (by decide), ownT s.oq hf hL (by decide),
    fun e he => (s.pst e he).frm hf hx (fun k hk _ => hk), fun r hr => (s.ost r hr).frm hf hx (fun k hk _ => hk), s.big, s.data⟩
/-- Behind an append to the entries, or what ends like it. -/
theorem ItS.newE (s : ItS w0 gb gs glf gl gp n c pos off A l fid vE vP vL vQ pend sps outs ops w) (hf : Frm vE.ownBlock.toList w w') {pend' : List PE} (ho : w'.ownsRow w0.heap.size 89 1 v' pend'.length (pend'.map PE.ptr)) (hg : ∀ k ∈ v'.ownBlock.toList, k ∈ vE.ownBlock.toList ∨ w.heap.size ≤ k) (hp : ∀ e ∈ pend', Stab (volX gb gs gl gp vE vP vL vQ) w e.In) : ItS w0 gb gs glf gl gp n c pos off A l fid v' vP vL vQ pend' sps outs ops w' := by
  have hL : ∀ k ∈ vE.ownBlock.toList, ∃ t cs, Blk w k t cs ∧ t ∈ [89] := fun k hk => by
    obtain ⟨cs, h, _⟩ := own_blkT s.ent hk
    exact ⟨_, _, h, by simp⟩
  have hx : ∀ k, k ∈ vE.ownBlock.toList → k < w.heap.size → k ∈ volX gb gs gl gp vE vP vL vQ := fun k hk _ => by simp only [volX, List.mem_cons, List.mem_append]; exact .inr (.inr (.inr (.inr (.inl hk))))
  have hy : ∀ k, k ∈ volX gb gs gl gp v' vP vL vQ → k < w.heap.size → k ∈ volX gb gs gl gp vE vP vL vQ := fun k hk hlt => by
    simp only [volX, List.mem_cons, List.mem_append] at hk ⊢
    rcases hk with h | h | h | h | h | h
    · exact .inl h
    · exact .inr (.inl h)
    · exact .inr (.inr (.inl h))
    · exact .inr (.inr (.inr (.inl h)))
    · rcases hg k h with h | h
      · exact .inr (.inr (.inr (.inr (.inl h))))
      · omega
    · exact .inr (.inr (.inr (.inr (.inr h))))
  have hxw := s.lt
  exact ⟨s.sm.trans (hf.below s.sm.size (fun i hi => by obtain ⟨_, _, h⟩ := own_blkT s.ent hi; exact h)), s.rd.frm hf (fun hm => by obtain ⟨t, cs, h, ht⟩ := hL _ hm; exact blk_neZ h s.rd.b (by rw [List.mem_singleton] at ht; rw [ht]; decide) rfl) (fun g o e h0 hm => by have := s.data g o e h0; obtain ⟨_, _, h⟩ := own_blkT s.ent hm; omega), (by obtain ⟨a, b, c, d, e, f, g, h⟩ := s.sr; exact ⟨a, b, c, d, e, f, g, blkT h hf hL (by decide)⟩), (by obtain ⟨a, b, c, h⟩ := s.lf; exact ⟨a, b, c, blkT h hf hL (by decide)⟩), ho, ownT s.vps hf hL (by decide), blkT s.bl hf hL (by decide), blkT s.bp hf hL (by decide), ownT s.ol hf hL (by decide), ownT s.oq hf hL (by decide),
    fun e he => (hp e he).frm hf hx hy, fun r hr => (s.ost r hr).frm hf hx hy, s.big, s.data⟩
/-- Behind an append to their places. -/
theorem ItS.newP (s : ItS w0 gb gs glf gl gp n c pos off A l fid vE vP vL vQ pend sps outs ops w) (hf : Frm vP.ownBlock.toList w w') {sps' : List Sp3} (ho : w'.ownsRow w0.heap.size 95 3 v' sps'.length (flatSp sps')) (hg : ∀ k ∈ v'.ownBlock.toList, k ∈ vP.ownBlock.toList ∨ w.heap.size ≤ k) : ItS w0 gb gs glf gl gp n c pos off A l fid vE v' vL vQ pend sps' outs ops w' := by
  have hL : ∀ k ∈ vP.ownBlock.toList, ∃ t cs, Blk w k t cs ∧ t ∈ [95] := fun k hk => by
    obtain ⟨cs, h, _⟩ := own_blkT s.vps hk
    exact ⟨_, _, h, by simp⟩
  have hx : ∀ k, k ∈ vP.ownBlock.toList → k < w.heap.size → k ∈ volX gb gs gl gp vE vP vL vQ := fun k hk _ => by simp only [volX, List.mem_cons, List.mem_append]; exact .inr (.inr (.inr (.inr (.inr (.inl hk)))))
  have hy : ∀ k, k ∈ volX gb gs gl gp vE v' vL vQ → k < w.heap.size → k ∈ volX gb gs gl gp vE vP vL vQ := fun k hk hlt => by
    simp only [volX, List.mem_cons, List.mem_append] at hk ⊢
    rcases hk with h | h | h | h | h | h | h
    · exact .inl h
    · exact .inr (.inl h)
    · exact .inr (.inr (.inl h))
    · exact .inr (.inr (.inr (.inl h)))
    · exact .inr (.inr (.inr (.inr (.inl h))))
    · rcases hg k h with h | h
      · exact .inr (.inr (.inr (.inr (.inr (.inl h)))))
      · omega
    · exact .inr (.inr (.inr (.inr (.inr (.inr h)))))
  exact ⟨s.sm.trans (hf.below s.sm.size (fun i hi => by obtain ⟨_, _, h⟩ := own_blkT s.vps hi; exact h)), s.rd.frm hf (fun hm => by obtain ⟨t, cs, h, ht⟩ := hL _ hm; exact blk_neZ h s.rd.b (by rw [List.mem_singleton] at ht; rw [ht]; decide) rfl) (fun g o e h0 hm => by have := s.data g o e h0; obtain ⟨_, _, h⟩ := own_blkT s.vps hm; omega), (by obtain ⟨a, b, c, d, e, f, g, h⟩ := s.sr; exact ⟨a, b, c, d, e, f, g, blkT h hf hL (by decide)⟩), (by obtain ⟨a, b, c, h⟩ := s.lf; exact ⟨a, b, c, blkT h hf hL (by decide)⟩), ownT s.ent hf hL (by decide), ho, blkT s.bl hf hL (by decide), blkT s.bp hf hL (by decide), ownT s.ol hf hL (by decide), ownT s.oq hf hL (by decide),
    fun e he => (s.pst e he).frm hf hx hy, fun r hr => (s.ost r hr).frm hf hx hy, s.big, s.data⟩
/-- Behind a record that has been handed on. -/
theorem ItS.hand (s : ItS w0 gb gs glf gl gp n c pos off A l fid vE vP vL vQ pend sps outs ops w) (hf : Frm (gl :: gp :: (vL.ownBlock.toList ++ vQ.ownBlock.toList)) w w') {vL' vQ' : Value} {r : RR} {p : Sp3} (hbl : Blk w' gl 49 [vL']) (hbp : Blk w' gp 70 [vQ']) (hol : w'.ownsRow w0.heap.size 51 5 vL' (outs.length + 1) (flatRR (outs ++ [r]))) (hoq : w'.ownsRow w0.heap.size 75 3 vQ' (ops.length + 1) (flatSp (ops ++ [p])))
    (hgL : ∀ k ∈ vL'.ownBlock.toList, k ∈ vL.ownBlock.toList ∨ w.heap.size ≤ k) (hgQ : ∀ k ∈ vQ'.ownBlock.toList, k ∈ vQ.ownBlock.toList ∨ w.heap.size ≤ k) (hr : Stab (volX gb gs gl gp vE vP vL vQ) w r.In) : ItS w0 gb gs glf gl gp n c pos off A l fid vE vP vL' vQ' pend sps (outs ++ [r]) (ops ++ [p]) w' := by
  have hL : ∀ k ∈ gl :: gp :: (vL.ownBlock.toList ++ vQ.ownBlock.toList), ∃ t cs, Blk w k t cs ∧ t ∈ [49, 70, 51, 75] := fun k hk => by
    rcases List.mem_cons.1 hk with rfl | hk
    · exact ⟨_, _, s.bl, by simp⟩
    rcases List.mem_cons.1 hk with rfl | hk
    · exact ⟨_, _, s.bp, by simp⟩
    rcases List.mem_append.1 hk with hk | hk
    · obtain ⟨cs, h, _⟩ := own_blkT s.ol hk; exact ⟨_, _, h, by simp⟩
    · obtain ⟨cs, h, _⟩ := own_blkT s.oq hk; exact ⟨_, _, h, by simp⟩
  have hlo : ∀ k ∈ gl :: gp :: (vL.ownBlock.toList ++ vQ.ownBlock.toList), w0.heap.size ≤ k := fun k hk => by
    rcases List.mem_cons.1 hk with rfl | hk
    · exact s.big.2.2.1
    rcases List.mem_cons.1 hk with rfl | hk
    · exact s.big.2.2.2
    rcases List.mem_append.1 hk with hk | hk
    · obtain ⟨cs, h, h2⟩ := own_blkT s.ol hk; exact h2
    · obtain ⟨cs, h, h2⟩ := own_blkT s.oq hk; exact h2
  have hx : ∀ k, k ∈ gl :: gp :: (vL.ownBlock.toList ++ vQ.ownBlock.toList) → k < w.heap.size → k ∈ volX gb gs gl gp vE vP vL vQ := fun k hk _ => by
    simp only [volX, List.mem_cons, List.mem_append] at hk ⊢
    rcases hk with h | h | h | h
    · exact .inr (.inr (.inl h))
    · exact .inr (.inr (.inr (.inl h)))
    · exact .inr (.inr (.inr (.inr (.inr (.inr (.inl h))))))
    · exact .inr (.inr (.inr (.inr (.inr (.inr (.inr h))))))
  have hy : ∀ k, k ∈ volX gb gs gl gp vE vP vL' vQ' → k < w.heap.size → k ∈ volX gb gs gl gp vE vP vL vQ := fun k hk hlt => by
    simp only [volX, List.mem_cons, List.mem_append] at hk ⊢
    rcases hk with h | h | h | h | h | h | h | h
    · exact .inl h
    · exact .inr (.inl h)
    · exact .inr (.inr (.inl h))
    · exact .inr (.inr (.inr (.inl h)))
    · exact .inr (.inr (.inr (.inr (.inl h))))
    · exact .inr (.inr (.inr (.inr (.inr (.inl h)))))
    · rcases hgL k h with h | h
      · exact .inr (.inr (.inr (.inr (.inr (.inr (.inl h))))))
      · omega
    · rcases hgQ k h with h | h
      · exact .inr (.inr (.inr (.inr (.inr (.inr (.inr h))))))
      · omega
  exact ⟨s.sm.trans (hf.below s.sm.size hlo), s.rd.frm hf (fun hm => by
      obtain ⟨t, cs, h, ht⟩ := hL _ hm
      exact blk_neZ h s.rd.b (fun e => by rw [e] at ht; exact absurd ht (by decide)) rfl) (fun g o e h0 hm => by have := s.data g o e h0; have := hlo g hm; omega), (by obtain ⟨a, b, c, d, e, f, g, h⟩ := s.sr; exact ⟨a, b, c, d, e, f, g, blkT h hf hL (by decide)⟩), (by obtain ⟨a, b, c, h⟩ := s.lf; exact ⟨a, b, c, blkT h hf hL (by decide)⟩), ownT s.ent hf hL (by decide), ownT s.vps hf hL (by decide), hbl, hbp, (by rw [List.length_append]; exact hol), (by rw [List.length_append]; exact hoq),
    fun e he => (s.pst e he).frm hf hx hy, fun r' hr' => by
      rcases List.mem_append.1 hr' with h | h
      · exact (s.ost r' h).frm hf hx hy
      · rw [List.mem_singleton] at h; subst h; exact hr.frm hf hx hy, s.big, s.data⟩
/-- What has been read anew stays. -/
theorem ItS.fresh (s : ItS w0 gb gs glf gl gp n c pos off A l fid vE vP vL vQ pend sps outs ops w) (s' : ItS w0 gb gs glf gl gp n c pos' off' A l fid vE vP vL vQ pend sps outs ops w') (e : PE) (D : Nat) (hb : Blk w' e.ge 91 e.cells) (hr : e.r.In w') (h1 : w.heap.size ≤ e.ge) (h2 : ∀ g o, e.r.Ak = some ⟨g, o, none⟩ → 0 < e.r.nk → w.heap.size ≤ g) (h3 : ∀ g o, e.r.Ad = some ⟨g, o, none⟩ → 0 < e.r.nd → w.heap.size ≤ g) : Stab (volX gb gs gl gp vE vP vL vQ) w' e.In := by
  have hx := s.lt
  refine (stab_blk hb (fun hm => by have := (hx _ hm).1; omega)).and (((stab_sl hr.key (fun g o e1 h0 hm => by have := (hx _ hm).1; have := h2 g o e1 h0; omega)).and (stab_sl hr.dat (fun g o e1 h0 hm => by have := (hx _ hm).1; have := h3 g o e1 h0; omega))).imp (fun W h => ⟨h.1, h.2, hr.hk, hr.hd⟩))
end
end Go.Proofs.YtpfmmbhbmdbmeaaGreatDoor
