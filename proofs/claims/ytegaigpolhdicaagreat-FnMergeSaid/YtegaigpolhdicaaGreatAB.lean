/- What is left of a list at a place; an iterator, told by what its functions do. -/
import Derived.Test.YtegaigpolhdicaaGreatAA
import Derived.Test.YtegaigpolhdicaaGreatKB
namespace Go.Proofs.YtegaigpolhdicaaGreat
open Go.RowKit
set_option linter.unusedVariables false
set_option linter.unusedSimpArgs false
def remE (rev : Bool) (l : List Ent) (a : Int) : List Ent := bif rev then (l.take (a + 1).toNat).reverse else l.drop a.toNat
def allE (rev : Bool) (l : List Ent) : List Ent := bif rev then l.reverse else l
theorem remE_cons {rev : Bool} {l : List Ent} {a : Int} (h0 : 0 ≤ a) (h1 : a < l.length) : ∃ e, l[a.toNat]? = some e ∧ remE rev l a = e :: remE rev l (bif rev then a - 1 else a + 1) := by
  have hl : a.toNat < l.length := by omega
  refine ⟨l[a.toNat], List.getElem?_eq_getElem hl, ?_⟩
  cases rev with
  | false =>
    show l.drop a.toNat = _ :: l.drop (a + 1).toNat
    rw [show (a + 1).toNat = a.toNat + 1 by omega, List.drop_eq_getElem_cons hl]
  | true =>
    show (l.take (a + 1).toNat).reverse = _ :: (l.take (a - 1 + 1).toNat).reverse
    rw [show (a + 1).toNat = a.toNat + 1 by omega, show (a - 1 + 1).toNat = a.toNat by omega, List.take_succ_eq_append_getElem hl, List.reverse_append]
    rfl
theorem remE_nil {rev : Bool} {l : List Ent} {a : Int} (h : ¬ (0 ≤ a ∧ a < l.length)) (h0 : rev = true → a < l.length) (h1 : rev = false → 0 ≤ a) : remE rev l a = [] := by
  cases rev with
  | false =>
    have := h1 rfl
    show l.drop a.toNat = []
    exact List.drop_eq_nil_of_le (by omega)
  | true =>
    have := h0 rfl
    show (l.take (a + 1).toNat).reverse = []
    rw [show (a + 1).toNat = 0 by omega]
    rfl
theorem remE_start (rev : Bool) (l : List Ent) : remE rev l (bif rev then (l.length : Int) - 1 else ((0 : Nat) : Int)) = allE rev l := by
  cases rev with
  | false => rfl
  | true =>
    show (l.take ((l.length : Int) - 1 + 1).toNat).reverse = l.reverse
    rw [List.take_of_length_le (by omega)]
theorem drop_takeWhile {α : Type} (p : α → Bool) : ∀ l : List α, l.drop (l.takeWhile p).length = l.dropWhile p
  | [] => rfl
  | a :: l => by
    by_cases h : p a = true
    · rw [List.takeWhile_cons_of_pos h, List.dropWhile_cons_of_pos h, List.length_cons, List.drop_succ_cons, drop_takeWhile p l]
    · rw [List.takeWhile_cons_of_neg h, List.dropWhile_cons_of_neg h]
      rfl
theorem takeWhile_le {α : Type} (p : α → Bool) (l : List α) : (l.takeWhile p).length ≤ l.length := (List.takeWhile_sublist p).length_le
theorem takeWhile_at {α : Type} (p : α → Bool) : ∀ (l : List α) (j : Nat) (a : α), j < (l.takeWhile p).length → l[j]? = some a → p a = true
  | [], j, a, h, _ => by simp at h
  | b :: l, j, a, h, ha => by
    by_cases hb : p b = true
    · rw [List.takeWhile_cons_of_pos hb, List.length_cons] at h
      cases j with
      | zero =>
        rw [List.getElem?_cons_zero] at ha
        injection ha with ha
        rw [← ha]; exact hb
      | succ j => exact takeWhile_at p l j a (by omega) (by simpa using ha)
    · rw [List.takeWhile_cons_of_neg hb] at h
      simp at h
theorem takeWhile_stop {α : Type} (p : α → Bool) : ∀ (l : List α) (a : α), l[(l.takeWhile p).length]? = some a → ¬ p a = true
  | [], a, h => by simp at h
  | b :: l, a, h => by
    by_cases hb : p b = true
    · rw [List.takeWhile_cons_of_pos hb, List.length_cons, List.getElem?_cons_succ] at h
      exact takeWhile_stop p l a h
    · rw [List.takeWhile_cons_of_neg hb, List.length_nil, List.getElem?_cons_zero] at h
      injection h with h
      rw [← h]; exact hb
theorem backE_is {l : List Ent} (hs : SortedE l) (k : List Int) (v : Int) : backE l k v = ((l.length - (l.reverse.takeWhile fun e => ordD true e (kEnt k v) == -1).length : Nat) : Int) - 1 := by
  obtain ⟨t, ht⟩ : ∃ t, t = (l.reverse.takeWhile fun e => ordD true e (kEnt k v) == -1).length := ⟨_, rfl⟩
  have h1 := takeWhile_le (fun e => ordD true e (kEnt k v) == -1) l.reverse
  rw [List.length_reverse, ← ht] at h1
  rw [← ht]
  refine backE_of hs (Nat.sub_le _ _) (fun j a hj ha => ?_) (fun a hpos ha => ?_)
  · have hjl := (List.getElem?_eq_some_iff.1 ha).1
    have h2 : l.reverse[l.length - 1 - j]? = some a := by
      rw [List.getElem?_reverse (by omega), show l.length - 1 - (l.length - 1 - j) = j by omega]
      exact ha
    have h3 := takeWhile_at (fun e => ordD true e (kEnt k v) == -1) l.reverse (l.length - 1 - j) a (by rw [← ht]; omega) h2
    have h4 : orderL k v a.k a.v = -1 := by simpa [ordD, Ent.ord, kEnt] using h3
    rw [orderL_anti, h4]; rfl
  · have h2 : l.reverse[t]? = some a := by
      rw [List.getElem?_reverse (by omega), show l.length - 1 - t = l.length - t - 1 by omega]
      exact ha
    rw [ht] at h2
    have h3 := takeWhile_stop (fun e => ordD true e (kEnt k v) == -1) l.reverse a h2
    have h4 : ¬ orderL k v a.k a.v = -1 := by simpa [ordD, Ent.ord, kEnt] using h3
    intro h5
    rw [orderL_anti, h5] at h4
    exact h4 rfl
theorem fromD_remE {rev : Bool} {l : List Ent} (hs : SortedE l) (k : List Int) (v : Int) : fromD rev (kEnt k v) (allE rev l) = remE rev l (bif rev then backE l k v else ((posE l k v : Nat) : Int)) := by
  cases rev with
  | false =>
    show l.dropWhile _ = l.drop (posE l k v : Int).toNat
    rw [Int.toNat_natCast]
    exact (drop_takeWhile _ l).symm
  | true =>
    show l.reverse.dropWhile (fun e => ordD true e (kEnt k v) == -1) = (l.take (backE l k v + 1).toNat).reverse
    rw [backE_is hs, ← drop_takeWhile]
    have h1 := takeWhile_le (fun e => ordD true e (kEnt k v) == -1) l.reverse
    rw [List.length_reverse] at h1
    generalize (l.reverse.takeWhile fun e => ordD true e (kEnt k v) == -1).length = t at *
    rw [show (((l.length - t : Nat) : Int) - 1 + 1).toNat = l.length - t by omega, List.reverse_take, show l.length - (l.length - t) = t by omega]
theorem backE_bnd {l : List Ent} (hs : SortedE l) (k : List Int) (v : Int) : -1 ≤ backE l k v ∧ backE l k v < l.length := by
  rw [backE_is hs]
  by_cases h : l = []
  · subst h; simp
  · have : 0 < l.length := List.length_pos_iff.2 h
    omega
/-- A move leads to a place that stands. -/
theorem move_rem {back : Bool} {l : List Ent} (hs : SortedE l) {a b kd v : Int} {k : List Int} (h : moveE l a (uniE back ⟨kd, k, v⟩) = some b) : (back = true → b < l.length) ∧ (back = false → 0 ≤ b) := by
  by_cases k0 : kd = 0
  · subst k0
    rw [mu0 h]
    cases back <;> simp <;> omega
  · by_cases k1 : kd = 1
    · subst k1
      obtain ⟨h0, h1, rfl⟩ := mu1 h
      cases back <;> simp <;> omega
    · by_cases k2 : kd = 2
      · subst k2
        rw [mu2 h]
        cases back with
        | false => simp
        | true => exact ⟨fun _ => (backE_bnd hs k v).2, by simp⟩
      · exact (muNo h k0 k1 k2).elim
/-- Where it stands, in plain words. -/
theorem remE_pl {rev : Bool} {l : List Ent} {a : Int} (h0 : rev = true → a < l.length) (h1 : rev = false → 0 ≤ a) : (remE rev l a = [] ∧ plE l a = (false, zeroE)) ∨ ∃ e r, remE rev l a = e :: r ∧ plE l a = (true, e) := by
  by_cases hb : 0 ≤ a ∧ a < l.length
  · obtain ⟨e, he, hr⟩ := remE_cons (rev := rev) hb.1 hb.2
    refine .inr ⟨e, _, hr, ?_⟩
    have := plE_in he
    rwa [Int.toNat_of_nonneg hb.1] at this
  · exact .inl ⟨remE_nil hb h0 h1, plE_out hb⟩
/-- An iterator by what its functions do: St tells that it lies in a world, in which blocks, and what is left. -/
def StP (St : World → (Nat → Prop) → Option (List Ent) → Prop) (w : World) (S : Nat → Prop) (r : List Ent) (E : Ending) (w' : World) : Prop := E = .returned (.tuple #[]) ∧ St w' (gro S w w') (some r) ∧ FrS S w w'
structure IterC (U : Nat → Prop) (rev : Bool) (all : List Ent) (St : World → (Nat → Prop) → Option (List Ent) → Prop) (adr : Value) (fVld fKey fVal fNext fRew fSeek fCls : Nat) : Prop where
  stab : ∀ {X S : Nat → Prop} {w w' : World} {m : Option (List Ent)}, St w S m → FrS X w w' → (∀ i, X i → U i) → (∀ i, S i → ¬ X i) → St w' S m
  more : ∀ {S S2 : Nat → Prop} {w : World} {m : Option (List Ent)}, St w S m → (∀ i, S i → S2 i) → Bnd U S2 w → St w S2 m
  bnd : ∀ {S : Nat → Prop} {w : World} {m : Option (List Ent)}, St w S m → Bnd U S w ∧ NewU U w
  rem : ∀ {S : Nat → Prop} {w : World} {r : List Ent}, St w S (some r) → RemOk rev r
  valid : ∀ {S : Nat → Prop} {w : World} {r : List Ent}, St w S (some r) → Calls Tryz.prog fVld #[adr] w fun E w' => E = .returned (.bool (nonE r)) ∧ Drew w w'
  key : ∀ {S : Nat → Prop} {w : World} {e : Ent} {r : List Ent}, St w S (some (e :: r)) → ∃ K, KeyOf U w K (keyB e.k e.v) ∧ Calls Tryz.prog fKey #[adr] w fun E w' => E = .returned K ∧ Drew w w'
  val : ∀ {S : Nat → Prop} {w : World} {e : Ent} {r : List Ent}, St w S (some (e :: r)) → ValR U w e fVal adr
  next : ∀ {S : Nat → Prop} {w : World} {e : Ent} {r : List Ent}, St w S (some (e :: r)) → Calls Tryz.prog fNext #[adr] w (StP St w S r)
  rew : ∀ {S : Nat → Prop} {w : World} {m : Option (List Ent)}, St w S m → Calls Tryz.prog fRew #[adr] w (StP St w S all)
  seek : ∀ {S : Nat → Prop} {w : World} {m : Option (List Ent)} {KA : Option Addr} {nk ck : Nat} {k : List Int} {x : Int}, St w S m → Fix S w (fun W => Sl W KA nk (nums .u8 (keyB k x))) → nk ≤ ck → KeyOk k x → Calls Tryz.prog fSeek #[adr, .slice KA nk ck] w (StP St w S (fromD rev (kEnt k x) all))
  cls : ∀ {S : Nat → Prop} {w : World} {m : Option (List Ent)}, St w S m → Calls Tryz.prog fCls #[adr] w fun E w' => E = .returned .nilIface ∧ FrS S w w'
def TrSt (U : Nat → Prop) (rev : Bool) (T : Tr) (w : World) (S : Nat → Prop) (m : Option (List Ent)) : Prop := T.Ok U rev w S m ∧ Bnd U S w ∧ NewU U w
theorem trIter {U : Nat → Prop} {rev : Bool} (T : Tr) (hG : T.Good rev) : IterC U rev (T.all rev) (TrSt U rev T) T.adr T.fVld T.fKey T.fVal T.fNext T.fRew T.fSeek T.fCls where
  stab := fun h hf hx hs => ⟨h.1.frS hf hx hs, fun i hi => ⟨(h.2.1 i hi).1, Nat.lt_of_lt_of_le (h.2.1 i hi).2 hf.size⟩, h.2.2.on hf⟩
  more := fun h hs hb => ⟨h.1.more hs, hb, h.2.2⟩
  bnd := fun h => h.2
  rem := fun h => h.1.rem
  valid := fun h => trValid T h.1
  key := fun h => trKey T h.1 hG
  val := fun h => trValue T h.1 hG
  next := fun h => ((opsAll T).next h.1 hG h.2.1 h.2.2).mono fun E w' k => ⟨k.1, ⟨k.2.ok, h.2.1.gro h.2.2 k.2.fr.size, h.2.2.on k.2.fr⟩, k.2.fr⟩
  rew := fun h => ((opsAll T).rew h.1 hG h.2.1 h.2.2).mono fun E w' k => ⟨k.1, ⟨k.2.ok, h.2.1.gro h.2.2 k.2.fr.size, h.2.2.on k.2.fr⟩, k.2.fr⟩
  seek := fun h hk hc ko => ((opsAll T).seek h.1 hG h.2.1 h.2.2 hk hc ko).mono fun E w' k => ⟨k.1, ⟨k.2.ok, h.2.1.gro h.2.2 k.2.fr.size, h.2.2.on k.2.fr⟩, k.2.fr⟩
  cls := fun h => (trClose T h.1).mono fun E w' k => ⟨k.1, FrS.of_drew _ k.2⟩
end Go.Proofs.YtegaigpolhdicaaGreat
