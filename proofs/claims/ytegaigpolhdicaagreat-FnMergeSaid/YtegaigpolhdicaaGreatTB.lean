/- Texts that this claim shares with others, put together: GT GU TG GW GK TN TO. -/
import Derived.Test.YtegaigpolhdicaaGreatGA
import Derived.Test.YtegaigpolhdicaaGreatGE
import Derived.Test.YtegaigpolhdicaaGreatFM
import Derived.Test.YtegaigpolhdicaaGreatE4
import Derived.StillTailTactics
import Derived.IntWalk
import Derived.LaidEqlPtr
import Derived.Test.YtegaigpolhdicaaGreatPB
section
/- Texts that this claim shares with others, put together: T1 T2 T3 T4 T5 T6 T7 T8 T9. -/
/- A sorted list of entries with keys and versions, and the nodes of a skip list over it: plain. -/
namespace Go.Proofs.YtegaigpolhdicaaGreat
open Go.RowKit
set_option linter.unusedVariables false
set_option linter.unusedSimpArgs false
/-- An entry: its key and version, its marks, its time, its data. -/
structure Ent where
  k : List Int
  v : Int
  m : Int
  u : Int
  x : Int
  d : List Int
def Ent.ord (a b : Ent) : Int := orderL a.k a.v b.k b.v
theorem cmpL_anti1 (l k : List Int) : cmpL k l = - cmpL l k := by
  induction l generalizing k with
  | nil => cases k <;> simp [cmpL]
  | cons a l ih =>
    cases k with
    | nil => simp [cmpL]
    | cons b k =>
      simp only [cmpL]
      by_cases h : a = b
      · subst h; simp [ih]
      · rw [if_neg h, if_neg (fun e => h e.symm)]
        by_cases h2 : a < b
        · rw [if_pos h2, if_neg (by omega)]; rfl
        · rw [if_neg h2, if_pos (by omega)]
theorem cmpL_lt_trans (a b c : List Int) (h : cmpL a b = -1) (k : cmpL b c = -1) : cmpL a c = -1 := by
  induction a generalizing b c with
  | nil =>
    cases c with
    | nil => cases b <;> simp [cmpL] at k
    | cons z c => rfl
  | cons x a ih =>
    cases b with
    | nil => simp [cmpL] at h
    | cons y b =>
      cases c with
      | nil => simp [cmpL] at k
      | cons z c =>
        simp only [cmpL] at h k ⊢
        by_cases h1 : x = y
        · subst h1
          rw [if_pos rfl] at h
          by_cases h2 : x = z
          · subst h2
            rw [if_pos rfl] at k ⊢
            exact ih b c h k
          · rw [if_neg h2] at k ⊢
            exact k
        · rw [if_neg h1] at h
          have hxy : x < y := by
            by_cases h3 : x < y
            · exact h3
            · rw [if_neg h3] at h; simp at h
          by_cases h2 : y = z
          · subst h2
            rw [if_neg h1, if_pos hxy]
          · rw [if_neg h2] at k
            have hyz : y < z := by
              by_cases h3 : y < z
              · exact h3
              · rw [if_neg h3] at k; simp at k
            rw [if_neg (by omega), if_pos (by omega)]
theorem sgn_anti1 (x y : Int) : sgn y x = - sgn x y := by
  simp only [sgn]
  repeat' split
  all_goals omega
theorem orderL_anti (l k : List Int) (v u : Int) : orderL k u l v = - orderL l v k u := by
  unfold orderL
  rw [cmpL_anti1 l k, sgn_anti1 u v]
  by_cases h : cmpL l k = 0
  · rw [h]; simp
  · rw [if_neg h, if_neg (by omega)]
theorem orderL_eq (l k : List Int) (v u : Int) : orderL l v k u = 0 ↔ l = k ∧ v = u := by
  unfold orderL
  by_cases h : cmpL l k = 0
  · rw [if_pos h]
    have := (cmpL_eq l k).1 h
    simp only [sgn, this, true_and]
    by_cases h1 : u < v
    · rw [if_pos h1]; simp; omega
    · rw [if_neg h1]
      by_cases h2 : u = v
      · rw [if_pos h2]; simp [h2]
      · rw [if_neg h2]; simp; omega
  · rw [if_neg h]
    simp only [h, false_iff]
    intro e
    exact h ((cmpL_eq l k).2 e.1)
theorem orderL_three (l k : List Int) (v u : Int) : orderL l v k u = -1 ∨ orderL l v k u = 0 ∨ orderL l v k u = 1 := by
  unfold orderL
  split
  · simp only [sgn]
    repeat' split
    all_goals simp
  · exact cmpL_range l k
theorem orderL_lt_trans (a b c : List Int) (v u t : Int) (h : orderL a v b u = -1) (k : orderL b u c t = -1) : orderL a v c t = -1 := by
  unfold orderL at h k ⊢
  by_cases h1 : cmpL a b = 0
  · have e1 := (cmpL_eq a b).1 h1
    subst e1
    rw [if_pos h1] at h
    by_cases h2 : cmpL a c = 0
    · rw [if_pos h2] at k ⊢
      simp only [sgn] at h k ⊢
      by_cases a1 : u < v
      · by_cases a2 : t < u
        · rw [if_pos (by omega)]
        · rw [if_neg a2] at k; split at k <;> simp at k
      · rw [if_neg a1] at h; split at h <;> simp at h
    · rw [if_neg h2] at k ⊢
      exact k
  · rw [if_neg h1] at h
    by_cases h2 : cmpL b c = 0
    · have e1 := (cmpL_eq b c).1 h2
      subst e1
      rw [if_neg h1]; exact h
    · rw [if_neg h2] at k
      have := cmpL_lt_trans a b c h k
      rw [if_neg (by omega)]
      exact this
/-- Entries in order, none twice. -/
def SortedE (l : List Ent) : Prop := l.Pairwise fun a b => a.ord b = -1
/-- How many entries lie ahead of a key with a version. -/
def posE (l : List Ent) (k : List Int) (v : Int) : Nat := (l.takeWhile fun a => orderL a.k a.v k v == -1).length
/-- The entry at a place has this key and version. -/
def hitE (l : List Ent) (k : List Int) (v : Int) : Bool := match l[posE l k v]? with
  | some a => orderL a.k a.v k v == 0
  | none => false
def putE (l : List Ent) (e : Ent) : List Ent := l.take (posE l e.k e.v) ++ e :: l.drop (if hitE l e.k e.v then posE l e.k e.v + 1 else posE l e.k e.v)
def putsE (l : List Ent) : List Ent := l.foldl putE []
theorem posE_le (l : List Ent) (k : List Int) (v : Int) : posE l k v ≤ l.length := by
  unfold posE
  induction l with
  | nil => simp
  | cons a l ih =>
    simp only [List.takeWhile_cons]
    split
    · simp only [List.length_cons]; omega
    · simp
theorem posE_lt (l : List Ent) (k : List Int) (v : Int) (j : Nat) (a : Ent) (hj : j < posE l k v) (ha : l[j]? = some a) : orderL a.k a.v k v = -1 := by
  unfold posE at hj
  have hm : ∀ x ∈ l.takeWhile (fun a => orderL a.k a.v k v == -1), orderL x.k x.v k v = -1 := by
    intro x hx
    have := List.all_takeWhile (p := fun a : Ent => orderL a.k a.v k v == -1) (l := l)
    rw [List.all_eq_true] at this
    simpa using this x hx
  have hp : (l.takeWhile fun a => orderL a.k a.v k v == -1)[j]? = some a := by
    rw [← ha]
    have e := List.takeWhile_append_dropWhile (p := fun a : Ent => orderL a.k a.v k v == -1) (l := l)
    conv => rhs; rw [← e]
    rw [List.getElem?_append_left hj]
  exact hm a (List.mem_of_getElem? hp)
theorem posE_at (l : List Ent) (k : List Int) (v : Int) (a : Ent) (ha : l[posE l k v]? = some a) : orderL a.k a.v k v ≠ -1 := by
  induction l with
  | nil => simp at ha
  | cons b l ih =>
    unfold posE at ha
    simp only [List.takeWhile_cons] at ha
    by_cases hb : orderL b.k b.v k v = -1
    · rw [if_pos (by simpa using hb)] at ha
      simp only [List.length_cons, List.getElem?_cons_succ] at ha
      exact ih ha
    · rw [if_neg (by simpa using hb)] at ha
      simp only [List.length_nil, List.getElem?_cons_zero, Option.some.injEq] at ha
      subst ha
      exact hb
theorem SortedE.get {l : List Ent} (h : SortedE l) {i j : Nat} {a b : Ent} (hij : i < j) (ha : l[i]? = some a) (hb : l[j]? = some b) : a.ord b = -1 := by
  obtain ⟨h1, rfl⟩ := List.getElem?_eq_some_iff.1 ha
  obtain ⟨h2, rfl⟩ := List.getElem?_eq_some_iff.1 hb
  exact (List.pairwise_iff_getElem.1 h) i j h1 h2 hij
theorem posE_gt (l : List Ent) (hs : SortedE l) (k : List Int) (v : Int) (j : Nat) (a : Ent) (hj : posE l k v < j) (ha : l[j]? = some a) : orderL a.k a.v k v = 1 := by
  have hjl := (List.getElem?_eq_some_iff.1 ha).1
  obtain ⟨b, hb⟩ : ∃ b, l[posE l k v]? = some b := ⟨_, List.getElem?_eq_getElem (by omega)⟩
  have h1 := posE_at l k v b hb
  have h2 : orderL b.k b.v a.k a.v = -1 := hs.get hj hb ha
  have h3 := orderL_anti b.k k b.v v
  have h4 := orderL_anti a.k k a.v v
  rcases orderL_three b.k k b.v v with h | h | h
  · exact absurd h h1
  · obtain ⟨e1, e2⟩ := (orderL_eq _ _ _ _).1 h
    rw [← e1, ← e2, orderL_anti, h2]; rfl
  · rw [h] at h3
    have := orderL_lt_trans k b.k a.k v b.v a.v h3 h2
    omega
end Go.Proofs.YtegaigpolhdicaaGreat

/- The nodes of a skip list: towers over a list in order, plain. -/
namespace Go.Proofs.YtegaigpolhdicaaGreat
open Go.RowKit
set_option linter.unusedVariables false
set_option linter.unusedSimpArgs false
/-- A node: where it lies in the arena, its block, where its key and its value lie, how high it is, up to which level it is seen, its entry. -/
structure Nd where
  at_ : Nat
  blk : Nat
  ko : Nat
  vo : Nat
  ht : Nat
  eff : Nat
  e : Ent
def Nd.key (d : Nd) : List Int := keyB d.e.k d.e.v
def Nd.val (d : Nd) : List Int := valB d.e.m d.e.u d.e.x d.e.d
/-- Where the first node that is seen at a level lies. -/
def nextAt : List Nd → Nat → Nat
  | [], _ => 0
  | d :: r, h => if h < d.eff then d.at_ else nextAt r h
def towV (e : Nat) (r : List Nd) (h : Nat) : Value := .int .u32 (if h < e then ((nextAt r h : Nat) : Int) else 0)
def tow (e : Nat) (r : List Nd) : List Value := (List.range 20).map (towV e r)
def Nd.word (d : Nd) : Int := (d.val.length : Int) * 4294967296 + d.vo
def Nd.cells (d : Nd) (r : List Nd) : List Value := [.int .u64 d.word, .int .u32 d.ko, .int .u16 d.key.length, .int .u16 d.ht] ++ (tow d.eff r ++ [.int .u32 d.at_])
/-- From a place on, the next node that is seen at a level. -/
def Nx (ns : List Nd) (p h j : Nat) : Prop := p ≤ j ∧ j ≤ ns.length ∧ (∀ q d, p ≤ q → q < j → ns[q]? = some d → d.eff ≤ h) ∧ ∀ d, ns[j]? = some d → h < d.eff
theorem nx_at {ns : List Nd} {p h j : Nat} (hn : Nx ns p h j) : nextAt (ns.drop p) h = (match ns[j]? with | some d => d.at_ | none => 0) := by
  obtain ⟨h1, h2, h3, h4⟩ := hn
  obtain ⟨k, rfl⟩ : ∃ k, j = p + k := ⟨j - p, by omega⟩
  clear h1
  induction k generalizing p with
  | zero =>
    rw [Nat.add_zero] at *
    cases hp : ns[p]? with
    | none => rw [List.drop_eq_nil_of_le (by simpa using hp)]; rfl
    | some d =>
      obtain ⟨g, e⟩ := List.getElem?_eq_some_iff.1 hp
      rw [List.drop_eq_getElem_cons g, nextAt, if_pos (by rw [e]; exact h4 d hp), e]
  | succ k ih =>
    have hpl : p < ns.length := by omega
    rw [List.drop_eq_getElem_cons hpl, nextAt, if_neg (by have := h3 p ns[p] (Nat.le_refl _) (by omega) (List.getElem?_eq_getElem hpl); omega)]
    have e1 : p + (k + 1) = p + 1 + k := by omega
    rw [e1] at h2 h3 h4 ⊢
    exact ih h2 (fun q d a b => h3 q d (by omega) b) h4
/-- The same node, seen up to another level. -/
def Nd.upto (x : Nd) (l : Nat) : Nd := { x with eff := l }
end Go.Proofs.YtegaigpolhdicaaGreat

/- The arena of a skip list: contracts. -/
namespace Go.Proofs.YtegaigpolhdicaaGreat
open Go.RowKit
set_option linter.unusedVariables false
set_option linter.unusedSimpArgs false
theorem Blk.drewN {w : World} {g t : Nat} {cs : List Value} (h : Blk w g t cs) (k : Nat) : Blk (w.drewN k) g t cs := h
end Go.Proofs.YtegaigpolhdicaaGreat

/- The arena of a skip list: a value in bytes at a place. -/
namespace Go.Proofs.YtegaigpolhdicaaGreat
open Go.RowKit
set_option linter.unusedVariables false
set_option linter.unusedSimpArgs false
end Go.Proofs.YtegaigpolhdicaaGreat

/- The arena of a skip list: keys and values are put into it. -/
namespace Go.Proofs.YtegaigpolhdicaaGreat
open Go.RowKit
set_option linter.unusedVariables false
set_option linter.unusedSimpArgs false
end Go.Proofs.YtegaigpolhdicaaGreat

/- The arena of a skip list: what is read of it. -/
namespace Go.Proofs.YtegaigpolhdicaaGreat
open Go.RowKit
set_option linter.unusedVariables false
set_option linter.unusedSimpArgs false
end Go.Proofs.YtegaigpolhdicaaGreat

/- The arena of a skip list: a value is put into it, and read of it. -/
namespace Go.Proofs.YtegaigpolhdicaaGreat
open Go.RowKit
set_option linter.unusedVariables false
set_option linter.unusedSimpArgs false
end Go.Proofs.YtegaigpolhdicaaGreat

/- The nodes of a skip list: made, given a value; their heights. -/
namespace Go.Proofs.YtegaigpolhdicaaGreat
open Go.RowKit
set_option linter.unusedVariables false
set_option linter.unusedSimpArgs false
end Go.Proofs.YtegaigpolhdicaaGreat

/- Heights by chance: any from 1 to 20. -/
namespace Go.Proofs.YtegaigpolhdicaaGreat
open Go.RowKit
set_option linter.unusedVariables false
set_option linter.unusedSimpArgs false
def listC (c0 c1 c2 c3 : Value) (A : Option Addr) (n c turn : Nat) : List Value := [c0, c1, c2, c3, .nilFunc, .slice A n c, .int .i64 turn]
end Go.Proofs.YtegaigpolhdicaaGreat
end
section
/- Texts that this claim shares with others, put together: TA TB TC TD TE TF. -/
/- A skip list in memory, and how a place in it is found. -/
namespace Go.Proofs.YtegaigpolhdicaaGreat
open Go.RowKit
set_option linter.unusedVariables false
set_option linter.unusedSimpArgs false
structure SkA where
  ga : Nat
  gb : Nat
  gm : Nat
  gh : Nat
  n : Nat
  cs : List Value
  hc : List Value
  hat : Nat
  height : Nat
  ref : Int
  ra : Option Addr
  rn : Nat
  rc : Nat
  rs : List Int
  turn : Nat
  k : Nat
  m : Int → Option Value
  ns : List Nd
def SkA.cells (s : SkA) : List Value := listC (.int .i32 s.height) (.pointer (some ⟨s.gh, 0, none⟩)) (.int .i32 s.ref) (.pointer (some ⟨s.ga, 0, none⟩)) s.ra s.rn s.rc s.turn
/-- An entry within the bounds. -/
structure EntOk (e : Ent) : Prop where
  kpos : 1 ≤ e.k.length
  klen : e.k.length ≤ 300
  kb : Byt e.k
  v0 : 0 ≤ e.v
  v1 : Hid (e.v ≤ 18446744073709551615)
  dlen : e.d.length ≤ 300
  db : Byt e.d
  m : 0 ≤ e.m ∧ e.m ≤ 255
  u : 0 ≤ e.u ∧ e.u ≤ 255
  x0 : 0 ≤ e.x
  x1 : Hid (e.x ≤ 18446744073709551615)
structure SkOk (g B : Nat) (s : SkA) : Prop where
  hcl : s.hc.length = 4
  own : (g :: s.ga :: s.gb :: s.gm :: s.gh :: s.ns.map Nd.blk).Nodup
  base : ∀ b ∈ g :: s.ga :: s.gb :: s.gm :: s.gh :: s.ns.map Nd.blk, B ≤ b
  ran : ∀ b o, s.ra = some ⟨b, o, none⟩ → B ≤ b ∧ b ∉ g :: s.ga :: s.gb :: s.gm :: s.gh :: s.ns.map Nd.blk
  rn1 : 1 ≤ s.rn
  rn2 : s.rn ≤ 1000000
  turn : s.turn ≤ s.n + 20
  k : s.k ≤ s.n
  n0 : 1 ≤ s.n
  n1 : s.n ≤ 900000
  at_ : ∀ d ∈ s.ns, s.m d.at_ = some (.pointer (some ⟨d.blk, 0, none⟩)) ∧ 0 < d.at_ ∧ d.at_ < s.n
  key : ∀ d ∈ s.ns, d.ko + d.key.length ≤ s.n ∧ (s.cs.drop d.ko).take d.key.length = nums .u8 d.key
  val : ∀ d ∈ s.ns, d.vo + d.val.length ≤ s.n ∧ (s.cs.drop d.vo).take d.val.length = nums .u8 d.val
  ent : ∀ d ∈ s.ns, EntOk d.e
  sorted : SortedE (s.ns.map Nd.e)
  eff : ∀ d ∈ s.ns, d.eff ≤ s.height
  h1 : 1 ≤ s.height
  h2 : s.height ≤ 20
/-- The block of a place: the head's, or that of the node ahead of it. -/
def plcB (s : SkA) (p : Nat) : Nat := if p = 0 then s.gh else match s.ns[p - 1]? with | some d => d.blk | none => 0
def plcP (s : SkA) (p : Nat) : Value := .pointer (some ⟨plcB s p, 0, none⟩)
def ndP (s : SkA) (j : Nat) : Value := match s.ns[j]? with | some d => .pointer (some ⟨d.blk, 0, none⟩) | none => .pointer none
/-- A place that is seen at a level. -/
def Vis (s : SkA) (p h : Nat) : Prop := p = 0 ∨ ∃ d, s.ns[p - 1]? = some d ∧ h < d.eff
/-- Where a key with a version belongs. -/
def SkA.pos (s : SkA) (k : List Int) (v : Int) : Nat := posE (s.ns.map Nd.e) k v
end Go.Proofs.YtegaigpolhdicaaGreat

/- A skip list: its last node, and the node near to a key. -/
namespace Go.Proofs.YtegaigpolhdicaaGreat
open Go.RowKit
set_option linter.unusedVariables false
set_option linter.unusedSimpArgs false
theorem Vis.lower {s : SkA} {p h h' : Nat} (hv : Vis s p h) (hh : h' ≤ h) : Vis s p h' := by
  rcases hv with hv | ⟨d, hd, hs⟩
  · exact .inl hv
  · exact .inr ⟨d, hd, by omega⟩
end Go.Proofs.YtegaigpolhdicaaGreat

/- A skip list: the node near to a key. -/
namespace Go.Proofs.YtegaigpolhdicaaGreat
open Go.RowKit
set_option linter.unusedVariables false
set_option linter.unusedSimpArgs false
def SkA.hit (s : SkA) (k : List Int) (v : Int) : Bool := hitE (s.ns.map Nd.e) k v
end Go.Proofs.YtegaigpolhdicaaGreat

/- A skip list: what a new node, and a new value, do to it. -/
namespace Go.Proofs.YtegaigpolhdicaaGreat
open Go.RowKit
set_option linter.unusedVariables false
set_option linter.unusedSimpArgs false
/-- A list with one more node, seen below a level alone. -/
def insL (s : SkA) (i : Nat) (x : Nd) (l : Nat) : List Nd := s.ns.take i ++ x.upto l :: s.ns.drop i
/-- What is known of a level ahead of a new node's coming: the place, and the node behind it. -/
structure Lev (s : SkA) (i l p j : Nat) : Prop where
  nx : Nx s.ns p l j
  lo : p ≤ i
  vis : Vis s p l
  hi : i ≤ j
theorem Lev.skip {s : SkA} {i l p j : Nat} (h : Lev s i l p j) (hi : i ≤ s.ns.length) : ∀ d ∈ (s.ns.take i).drop p, d.eff ≤ l := by
  intro d hd
  obtain ⟨q, hq⟩ := List.mem_iff_getElem?.1 hd
  rw [List.getElem?_drop] at hq
  have hlt := (List.getElem?_eq_some_iff.1 hq).1
  rw [List.length_take] at hlt
  rw [List.getElem?_take_of_lt (by omega)] at hq
  exact h.nx.2.2.1 (p + q) d (by omega) (by have := h.hi; omega) hq
theorem Lev.next {s : SkA} {i l p j : Nat} (h : Lev s i l p j) (hi : i ≤ s.ns.length) : nextAt (s.ns.drop i) l = (match s.ns[j]? with | some d => d.at_ | none => 0) := by
  refine nx_at ⟨h.hi, h.nx.2.1, fun q d h1 h2 hd => h.nx.2.2.1 q d (by have := h.lo; omega) h2 hd, h.nx.2.2.2⟩
theorem Lev.seen {s : SkA} {i l p j : Nat} (h : Lev s i l p j) (hi : i ≤ s.ns.length) (q : Nat) (hq : q < p) : ∃ d ∈ (s.ns.take i).drop q, l < d.eff := by
  rcases h.vis with h0 | ⟨d, hd, hs⟩
  · omega
  · refine ⟨d, ?_, hs⟩
    have hlo := h.lo
    refine List.mem_of_getElem? (i := p - 1 - q) ?_
    rw [List.getElem?_drop, List.getElem?_take_of_lt (by omega), show q + (p - 1 - q) = p - 1 from by omega]
    exact hd
end Go.Proofs.YtegaigpolhdicaaGreat

/- A skip list in memory: a node comes into it. -/
namespace Go.Proofs.YtegaigpolhdicaaGreat
open Go.RowKit
set_option linter.unusedVariables false
set_option linter.unusedSimpArgs false
section
variable {w w' : World} {g B : Nat} {s t : SkA}
end
end Go.Proofs.YtegaigpolhdicaaGreat

/- A skip list: what holds of it when a node has come, or a value has been put in a node. -/
namespace Go.Proofs.YtegaigpolhdicaaGreat
open Go.RowKit
set_option linter.unusedVariables false
set_option linter.unusedSimpArgs false
/-- The list while a node comes into it. -/
def SkA.put (s : SkA) (turn' n' : Nat) (cs' : List Value) (hm : Nat) (x : Nd) (l : Nat) : SkA :=
  { s with n := n', cs := cs', k := s.k + 1, m := updM s.m x.at_ (some (.pointer (some ⟨x.blk, 0, none⟩))), turn := turn', height := hm, ns := insL s (s.pos x.e.k x.e.v) x l }
/-- A node with another value. -/
def Nd.with (d : Nd) (vo : Nat) (e : Ent) : Nd := { d with vo := vo, e := e }
end Go.Proofs.YtegaigpolhdicaaGreat
end
section
/- A skip list: an entry is put into it. -/
namespace Go.Proofs.YtegaigpolhdicaaGreat
open Go.RowKit
set_option linter.unusedVariables false
set_option linter.unusedSimpArgs false
def blksOf (g : Nat) (s : SkA) : List Nat := g :: s.ga :: s.gb :: s.gm :: s.gh :: s.ns.map Nd.blk
/-- What the two lists of places hold at a level. -/
structure LvP (s : SkA) (k : List Int) (v : Int) (l : Nat) (P N : List Value) (p j : Nat) : Prop where
  pp : P[l]? = some (plcP s p)
  np : N[l]? = some (ndP s j)
  lev : Lev s (s.pos k v) l p j
  far : ∀ d : Nd, s.ns[j]? = some d → orderL k v d.e.k d.e.v = -1
end Go.Proofs.YtegaigpolhdicaaGreat
end
section
/- Texts that this claim shares with others, put together: TH TI TJ. -/
/- A new skip list. -/
namespace Go.Proofs.YtegaigpolhdicaaGreat
open Go.RowKit
set_option linter.unusedVariables false
set_option linter.unusedSimpArgs false
end Go.Proofs.YtegaigpolhdicaaGreat

/- A skip list behind entries have been put into it. -/
namespace Go.Proofs.YtegaigpolhdicaaGreat
open Go.RowKit
set_option linter.unusedVariables false
set_option linter.unusedSimpArgs false
/-- An entry at a place in memory. -/
structure EntC (w : World) (b o : Nat) (e : Ent) (Ak : Option Addr) (nk ck : Nat) (Ad : Option Addr) (nd cd : Nat) : Prop where
  c0 : w.cell? ⟨b, o, none⟩ = some (.slice Ak nk ck)
  c1 : w.cell? ⟨b, o + 1, none⟩ = some (.int .u64 e.v)
  c2 : w.cell? ⟨b, o + 2, none⟩ = some (.int .u8 e.m)
  c3 : w.cell? ⟨b, o + 3, none⟩ = some (.int .u8 e.u)
  c4 : w.cell? ⟨b, o + 4, none⟩ = some (.int .u64 e.x)
  c5 : w.cell? ⟨b, o + 5, none⟩ = some (.slice Ad nd cd)
  key : Sl w Ak nk (nums .u8 e.k)
  dat : Sl w Ad nd (nums .u8 e.d)
  hk : nk ≤ ck
  hd : nd ≤ cd
/-- A slice of entries that reads as a list. -/
def Sle (w : World) (A : Option Addr) (n : Nat) (l : List Ent) : Prop :=
  l.length = n ∧ (0 < n → ∃ g o, A = some ⟨g, o, none⟩ ∧ ∀ (j : Nat) (e : Ent), l[j]? = some e → ∃ Ak nk ck Ad nd cd, EntC w g (o + j * 6) e Ak nk ck Ad nd cd)
theorem EntC.below {w w' : World} {b o : Nat} {e : Ent} {Ak Ad : Option Addr} {nk ck nd cd : Nat} (h : EntC w b o e Ak nk ck Ad nd cd) (hb : Below w.heap.size w w') : EntC w' b o e Ak nk ck Ad nd cd := by
  have s : ∀ {p : Addr} {v : Value}, w.cell? p = some v → w'.cell? p = some v := fun {p v} hc => by
    rw [hb.cell (World.block_lt_of_cell? w _ hc)]; exact hc
  exact ⟨s h.c0, s h.c1, s h.c2, s h.c3, s h.c4, s h.c5, h.key.below hb, h.dat.below hb, h.hk, h.hd⟩
theorem Sle.below {w w' : World} {A : Option Addr} {n : Nat} {l : List Ent} (h : Sle w A n l) (hb : Below w.heap.size w w') : Sle w' A n l :=
  ⟨h.1, fun hn => by
    obtain ⟨g, o, e, hc⟩ := h.2 hn
    refine ⟨g, o, e, fun j x hj => ?_⟩
    obtain ⟨Ak, nk, ck, Ad, nd, cd, hx⟩ := hc j x hj
    exact ⟨Ak, nk, ck, Ad, nd, cd, hx.below hb⟩⟩
theorem cell_bel {w w' : World} {p : Addr} {v : Value} (h : w.cell? p = some v) (hb : Below w.heap.size w w') : w'.cell? p = some v := by
  rw [hb.cell (World.block_lt_of_cell? w _ h)]; exact h
theorem six_bel {w w' : World} {ge : Nat} {v0 v1 v2 v3 v4 v5 : Value} (h : w.cell? ⟨ge, 0, none⟩ = some v0 ∧ w.cell? ⟨ge, 1, none⟩ = some v1 ∧ w.cell? ⟨ge, 2, none⟩ = some v2 ∧ w.cell? ⟨ge, 3, none⟩ = some v3 ∧ w.cell? ⟨ge, 4, none⟩ = some v4 ∧ w.cell? ⟨ge, 5, none⟩ = some v5) (hb : Below w.heap.size w w') :
    w'.cell? ⟨ge, 0, none⟩ = some v0 ∧ w'.cell? ⟨ge, 1, none⟩ = some v1 ∧ w'.cell? ⟨ge, 2, none⟩ = some v2 ∧ w'.cell? ⟨ge, 3, none⟩ = some v3 ∧ w'.cell? ⟨ge, 4, none⟩ = some v4 ∧ w'.cell? ⟨ge, 5, none⟩ = some v5 :=
  ⟨cell_bel h.1 hb, cell_bel h.2.1 hb, cell_bel h.2.2.1 hb, cell_bel h.2.2.2.1 hb, cell_bel h.2.2.2.2.1 hb, cell_bel h.2.2.2.2.2 hb⟩
theorem take_snoc {α : Type} (l : List α) (i : Nat) (d : α) (h : l[i]? = some d) : l.take (i + 1) = l.take i ++ [d] := by
  obtain ⟨g, rfl⟩ := List.getElem?_eq_some_iff.1 h
  exact List.take_succ_eq_append_getElem g
end Go.Proofs.YtegaigpolhdicaaGreat

/- Whether a skip list is empty. -/
namespace Go.Proofs.YtegaigpolhdicaaGreat
open Go.RowKit
set_option linter.unusedVariables false
set_option linter.unusedSimpArgs false
end Go.Proofs.YtegaigpolhdicaaGreat
end
section
/- Texts that this claim shares with others, put together: TK TL OB TM. -/
/- A skip list: the value of a key. -/
namespace Go.Proofs.YtegaigpolhdicaaGreat
open Go.RowKit
set_option linter.unusedVariables false
set_option linter.unusedSimpArgs false
def zeroE : Ent := ⟨[], 0, 0, 0, 0, []⟩
end Go.Proofs.YtegaigpolhdicaaGreat

/- What is found in a skip list behind entries have been put into it. -/
namespace Go.Proofs.YtegaigpolhdicaaGreat
open Go.RowKit
set_option linter.unusedVariables false
set_option linter.unusedSimpArgs false
end Go.Proofs.YtegaigpolhdicaaGreat

/- spec.Order, of keys of whatever length. -/
namespace Go.Proofs.YtegaigpolhdicaaGreat
open Go.RowKit
set_option linter.unusedVariables false
set_option linter.unusedSimpArgs false
theorem order_big (A B : Option Addr) (n m c d : Nat) (l k : List Int) (v u : Int) (w : World) (ha : Sl w A n (nums .u8 l)) (hb : Sl w B m (nums .u8 k)) (hn : n ≤ 4000000000) (hm : m ≤ 4000000000) :
    Calls Tryz.prog 22 #[.slice A n c, .int .u64 v, .slice B m d, .int .u64 u] w fun e w' => e = .returned (.int .i64 (orderL l v k u)) ∧ Drew w w' := by
  have H : Hid (Sl w A n (nums .u8 l)) := ha
  have H2 : Hid (Sl w B m (nums .u8 k)) := hb
  clear ha hb
  obtain ⟨x, hx⟩ : ∃ x, x = cmpL l k := ⟨_, rfl⟩
  have HX := Lib.hid hx
  have HO : Hid (orderL l v k u = if x = 0 then sgn u v else x) := by rw [hx]; rfl
  by_cases h0 : x = 0
  · have HO2 : Hid (orderL l v k u = sgn u v) := by rw [HO.out, if_pos h0]; rfl
    rcases Int.lt_trichotomy v u with h1 | h1 | h1
    · have hg : ¬ u < v := by omega
      go_enter Tryz.func22, Tryz.ntmps22
      go_wp2_with fail
      refine (compare_any A B n m c d l k w H.out H2.out (by omega) (by omega)).mono ?_
      rintro e w1 ⟨rfl, ⟨j, rfl⟩⟩
      rw [← hx, h0]
      clear hx h0
      go_wp2
      go_ret
      exact ⟨by rw [HO2.out, sgn, if_neg (by omega), if_neg (by omega)]; rfl, ⟨j, rfl⟩⟩
    · have hg : ¬ u < v := by omega
      have hg2 : ¬ v < u := by omega
      have H1 := Lib.hid h1
      clear h1
      go_enter Tryz.func22, Tryz.ntmps22
      go_wp2_with fail
      refine (compare_any A B n m c d l k w H.out H2.out (by omega) (by omega)).mono ?_
      rintro e w1 ⟨rfl, ⟨j, rfl⟩⟩
      rw [← hx, h0]
      clear hx h0
      go_wp2
      go_ret
      exact ⟨by rw [HO2.out, sgn, if_neg (by omega), if_pos (by have := H1.out; omega)]; rfl, ⟨j, rfl⟩⟩
    · go_enter Tryz.func22, Tryz.ntmps22
      go_wp2_with fail
      refine (compare_any A B n m c d l k w H.out H2.out (by omega) (by omega)).mono ?_
      rintro e w1 ⟨rfl, ⟨j, rfl⟩⟩
      rw [← hx, h0]
      clear hx h0
      go_wp2
      go_ret
      exact ⟨by rw [HO2.out, sgn, if_pos (by omega)]; rfl, ⟨j, rfl⟩⟩
  · have HO2 : Hid (orderL l v k u = x) := by rw [HO.out, if_neg h0]; rfl
    have hne : (x != 0) = true := by simpa using h0
    clear h0
    go_enter Tryz.func22, Tryz.ntmps22
    go_wp2_with fail
    refine (compare_any A B n m c d l k w H.out H2.out (by omega) (by omega)).mono ?_
    rintro e w1 ⟨rfl, ⟨j, rfl⟩⟩
    rw [← hx]
    clear hx
    go_wp2
    go_ret
    exact ⟨by rw [HO2.out]; rfl, ⟨j, rfl⟩⟩
end Go.Proofs.YtegaigpolhdicaaGreat

/- Lists of entries, cell by cell. -/
namespace Go.Proofs.YtegaigpolhdicaaGreat
open Go.RowKit
set_option linter.unusedVariables false
set_option linter.unusedSimpArgs false
/-- An entry as it lies: its key and its data are slices. -/
structure ER where
  Ak : Option Addr
  nk : Nat
  ck : Nat
  Ad : Option Addr
  nd : Nat
  cd : Nat
  e : Ent
def ER.cells (r : ER) : List Value := [.slice r.Ak r.nk r.ck, .int .u64 r.e.v, .int .u8 r.e.m, .int .u8 r.e.u, .int .u64 r.e.x, .slice r.Ad r.nd r.cd]
structure ER.In (w : World) (r : ER) : Prop where
  key : Sl w r.Ak r.nk (nums .u8 r.e.k)
  dat : Sl w r.Ad r.nd (nums .u8 r.e.d)
  hk : r.nk ≤ r.ck
  hd : r.nd ≤ r.cd
theorem ER.In.below {w w' : World} {r : ER} (h : r.In w) (hb : Below w.heap.size w w') : r.In w' := ⟨h.key.below hb, h.dat.below hb, h.hk, h.hd⟩
theorem ER.In.alloc {w : World} {r : ER} (h : r.In w) (o : Obj) : r.In (w.alloc o) := ⟨h.key.alloc o, h.dat.alloc o, h.hk, h.hd⟩
theorem ER.In.drewN {w : World} {r : ER} (h : r.In w) (k : Nat) : r.In (w.drewN k) := ⟨h.key, h.dat, h.hk, h.hd⟩
theorem ER.In.frm {l : List Nat} {w w' : World} {r : ER} (h : r.In w) (hf : Frm l w w') (hk : ∀ b o, r.Ak = some ⟨b, o, none⟩ → b ∉ l) (hd : ∀ b o, r.Ad = some ⟨b, o, none⟩ → b ∉ l) : r.In w' := ⟨h.key.frm hf hk, h.dat.frm hf hd, h.hk, h.hd⟩
theorem ER.nk_eq {w : World} {r : ER} (h : r.In w) : r.e.k.length = r.nk := by have := h.key.1; rwa [nums_length] at this
theorem ER.nd_eq {w : World} {r : ER} (h : r.In w) : r.e.d.length = r.nd := by have := h.dat.1; rwa [nums_length] at this
def flatE (l : List ER) : List Value := l.flatMap ER.cells
theorem flatE_cons (a : ER) (l : List ER) : flatE (a :: l) = a.cells ++ flatE l := List.flatMap_cons ..
theorem flatE_len (l : List ER) : (flatE l).length = l.length * 6 := by
  induction l with
  | nil => rfl
  | cons a l ih => rw [flatE_cons, List.length_append, ih, List.length_cons]; simp [ER.cells]; omega
theorem flatE_append (a b : List ER) : flatE (a ++ b) = flatE a ++ flatE b := List.flatMap_append ..
theorem flatE_at : ∀ (l : List ER) (i j : Nat) (r : ER), l[i]? = some r → j < 6 → (flatE l)[i * 6 + j]? = r.cells[j]? := by
  intro l
  induction l with
  | nil => intro i j r h; simp at h
  | cons a l ih =>
    intro i j r h hj
    have hl : a.cells.length = 6 := rfl
    rw [flatE_cons]
    cases i with
    | zero =>
      simp only [List.getElem?_cons_zero, Option.some.injEq] at h
      subst h
      rw [List.getElem?_append_left (by omega), Nat.zero_mul, Nat.zero_add]
    | succ i =>
      rw [List.getElem?_append_right (by omega), show (i + 1) * 6 + j - a.cells.length = i * 6 + j by omega]
      exact ih i j r (by simpa using h) hj
theorem flatE_one (l : List ER) : ∀ u ∈ flatE l, u.oneCell' = true := by
  intro u hu
  obtain ⟨r, _, hr⟩ := List.mem_flatMap.1 hu
  unfold ER.cells at hr
  simp only [List.mem_cons, List.not_mem_nil, or_false] at hr
  rcases hr with rfl | rfl | rfl | rfl | rfl | rfl <;> rfl
/-- A slice that reads as a list of entries. -/
structure Ers (w : World) (A : Option Addr) (l : List ER) : Prop where
  sl : Sl w A (l.length * 6) (flatE l)
  each : ∀ r ∈ l, r.In w
theorem Ers.below {w w' : World} {A : Option Addr} {l : List ER} (h : Ers w A l) (hb : Below w.heap.size w w') : Ers w' A l := ⟨h.sl.below hb, fun r hr => (h.each r hr).below hb⟩
theorem Ers.alloc {w : World} {A : Option Addr} {l : List ER} (h : Ers w A l) (o : Obj) : Ers (w.alloc o) A l := ⟨h.sl.alloc o, fun r hr => (h.each r hr).alloc o⟩
theorem Ers.nil (w : World) (A : Option Addr) : Ers w A [] := ⟨Sl.nil w A, fun r hr => by cases hr⟩
theorem Ers.at_ {w : World} {g o : Nat} {l : List ER} (h : Ers w (some ⟨g, o, none⟩) l) {i : Nat} {r : ER} (hi : l[i]? = some r) {j : Nat} {v : Value} (hj : r.cells[j]? = some v) : w.cell? ⟨g, o + i * 6 + j, none⟩ = some v := by
  have hj6 : j < 6 := (List.getElem?_eq_some_iff.1 hj).1
  have := h.sl.adds (i * 6 + j) v (by rw [flatE_at l i j r hi hj6, hj])
  rwa [add_none, ← Nat.add_assoc] at this
theorem Ers.addr {w : World} {A : Option Addr} {l : List ER} (h : Ers w A l) (hl : 0 < l.length) : ∃ g o, A = some ⟨g, o, none⟩ := by
  obtain ⟨g, o, e, _⟩ := h.sl.2 (by omega)
  exact ⟨g, o, e⟩
theorem ers_of {w : World} {A : Option Addr} {n : Nat} {l : List Ent} (h : Sle w A n l) : ∃ rs : List ER, rs.map ER.e = l ∧ Ers w A rs := by
  obtain ⟨h1, h2⟩ := h
  rcases Nat.eq_zero_or_pos n with h0 | h0
  · subst h0
    exact ⟨[], (List.length_eq_zero_iff.1 h1).symm, Ers.nil w A⟩
  · obtain ⟨g, o, rfl, hc⟩ := h2 h0
    have key : ∀ k, k ≤ l.length → ∃ rs : List ER, rs.map ER.e = l.take k ∧ ∀ (j : Nat) (r : ER), rs[j]? = some r → EntC w g (o + j * 6) r.e r.Ak r.nk r.ck r.Ad r.nd r.cd := by
      intro k
      induction k with
      | zero => intro _; exact ⟨[], rfl, fun j r hr => by simp at hr⟩
      | succ k ih =>
        intro hk
        obtain ⟨rs, e1, e2⟩ := ih (by omega)
        obtain ⟨x, hx⟩ : ∃ x, l[k]? = some x := ⟨_, List.getElem?_eq_getElem (by omega)⟩
        obtain ⟨Ak, nk, ck, Ad, nd, cd, hE⟩ := hc k x hx
        have hlen : rs.length = k := by have := congrArg List.length e1; rw [List.length_map, List.length_take] at this; omega
        refine ⟨rs ++ [⟨Ak, nk, ck, Ad, nd, cd, x⟩], by rw [List.map_append, e1, take_snoc l k x hx]; rfl, fun j r hr => ?_⟩
        rcases Nat.lt_trichotomy j rs.length with hj | hj | hj
        · rw [List.getElem?_append_left hj] at hr
          exact e2 j r hr
        · rw [List.getElem?_append_right (by omega), hj, Nat.sub_self] at hr
          simp only [List.getElem?_cons_zero, Option.some.injEq] at hr
          subst hr
          rw [hj, hlen]
          exact hE
        · rw [List.getElem?_eq_none (by simp; omega)] at hr
          cases hr
    obtain ⟨rs, e1, e2⟩ := key l.length (Nat.le_refl _)
    rw [List.take_of_length_le (Nat.le_refl _)] at e1
    have hlen : rs.length = n := by have := congrArg List.length e1; rw [List.length_map] at this; omega
    refine ⟨rs, e1, ⟨⟨flatE_len rs, fun _ => ⟨g, o, rfl, fun i u hu => ?_⟩⟩, fun r hr => ?_⟩⟩
    · have hi : i < rs.length * 6 := by have := (List.getElem?_eq_some_iff.1 hu).1; rwa [flatE_len] at this
      obtain ⟨r, hr⟩ : ∃ r, rs[i / 6]? = some r := ⟨_, List.getElem?_eq_getElem (by omega)⟩
      have hE := e2 _ r hr
      have hf := flatE_at rs (i / 6) (i % 6) r hr (Nat.mod_lt _ (by omega))
      rw [show i / 6 * 6 + i % 6 = i by omega, hu] at hf
      have hoff : o + i = o + i / 6 * 6 + i % 6 := by omega
      rw [hoff]
      have h6 : i % 6 < 6 := Nat.mod_lt _ (by omega)
      generalize i % 6 = q at *
      unfold ER.cells at hf
      match q, h6 with
      | 0, _ => injection hf with hf; subst hf; exact hE.c0
      | 1, _ => injection hf with hf; subst hf; exact hE.c1
      | 2, _ => injection hf with hf; subst hf; exact hE.c2
      | 3, _ => injection hf with hf; subst hf; exact hE.c3
      | 4, _ => injection hf with hf; subst hf; exact hE.c4
      | 5, _ => injection hf with hf; subst hf; exact hE.c5
    · obtain ⟨j, hj⟩ := List.mem_iff_getElem?.1 hr
      have hE := e2 j r hj
      exact ⟨hE.key, hE.dat, hE.hk, hE.hd⟩
theorem infoEnt : (Tryz.prog.info? 44).map (fun i => (i.zero, i.size, i.bytes)) = some (some (.agg #[.slice none 0 0, .int .u64 0, .int .u8 0, .int .u8 0, .int .u64 0, .slice none 0 0]), 6, 72) := by kernel_rfl
/-- append of whatever slice of entries. -/
theorem run_append_ent (w : World) (base ty : Nat) (v : Value) (n : Nat) (xs : List Value) (hown : w.ownsRow base 44 6 v n xs)
    (A : Option Addr) (m c : Nat) (news : List Value) (hr : Sl w A (m * 6) news) (h1 : ∀ u ∈ news, u.oneCell' = true) (hb : n + m ≤ 10000000000) (hbase : base ≤ w.heap.size) :
    ∃ v' w', (Builtin.append_ #[30, 30] ty #[v, .slice A m c]).run Tryz.prog w = .ok v' w' ∧ w'.ownsRow base 44 6 v' (n + m) (xs ++ news) ∧ w.grownBy w' v.ownBlock ∧ (v'.ownBlock = v.ownBlock ∨ v'.ownBlock = some w.heap.size) := by
  obtain ⟨i, hi, hz0, hz1, hz2⟩ := info_parts infoEnt
  rcases Nat.eq_zero_or_pos m with h0 | h0
  · subst h0
    have hn : news = [] := List.eq_nil_of_length_eq_zero (by have := hr.1; omega)
    subst hn
    exact ⟨v, w, run_append_nothing w base 30 ty 44 i 6 Tryz.underlying30 hi v n xs hown A c (by cases A <;> simp), by simpa using hown, World.grownBy.refl w _, .inl rfl⟩
  · obtain ⟨g, o, rfl, hc⟩ := hr.2 (by omega)
    obtain ⟨v', w', hrun, h2, h3, _, h5⟩ := run_append_own_at (P := Tryz.prog) w base 30 ty 44 i _ 6 72 Tryz.underlying30 hi hz0 hz1 hz2 rfl (by omega) v n xs hown ⟨g, o, none⟩ m c news (by rw [hr.1])
      (Sl.adds ⟨hr.1, fun _ => ⟨g, o, rfl, hc⟩⟩) h1 (by simp only [maxLen]; omega) (by omega) hbase
    exact ⟨v', w', hrun, h2, h3, h5⟩
theorem wpList_append_ent {w : World} {ops : Array Oper} {rest : List Oper} {o : Oper} {a : Act} {Q : Exit → Act → World → Prop} (hgd : o.guard = none) (s x : Operand)
    (ho : o.op = .call { callee := .builtin .append, args := #[s, x], argTypes := #[30, 30] })
    (base : Nat) (v : Value) (n : Nat) (xs : List Value) (hs : a.eval s = v) (hown : w.ownsRow base 44 6 v n xs)
    (A : Option Addr) (m c : Nat) (news : List Value) (hx : a.eval x = .slice A m c) (hr : Sl w A (m * 6) news) (h1 : ∀ u ∈ news, u.oneCell' = true) (hb : n + m ≤ 10000000000) (hbase : base ≤ w.heap.size)
    (h : ∀ v' w', w'.ownsRow base 44 6 v' (n + m) (xs ++ news) → w.grownBy w' v.ownBlock → (v'.ownBlock = v.ownBlock ∨ v'.ownBlock = some w.heap.size) → wpList Tryz.prog ops Q rest (a.put o.dst v') w') : wpList Tryz.prog ops Q (o :: rest) a w := by
  refine wpList_plain hgd fun K hK => ?_
  obtain ⟨v', w', hrun, h2, h3, h4⟩ := run_append_ent w base o.type v n xs hown A m c news hr h1 hb hbase
  unfold Oper.wp execOp
  simp only [ho, resolve, invoke, builtin, Sem.run_bind, Sem.run_pure, Result.andThen_ok, List.map_toArray, List.map_cons, List.map_nil, hs, hx, hrun]
  exact hK _ _ (h v' w' h2 h3 h4)
theorem own_ent {w : World} {base n : Nat} {v : Value} {xs : List Value} (h : w.ownsRow base 44 6 v n xs) : ∃ A c, v = .slice A n c ∧ n ≤ c ∧ Sl w A (n * 6) xs ∧ ∀ b o, A = some ⟨b, o, none⟩ → base ≤ b ∧ b < w.heap.size := by
  have hlt := h.lt
  obtain ⟨hl, h2⟩ := h
  rcases h2 with ⟨rfl, rfl⟩ | ⟨g, cap, cur, rfl, hg, hh, hnc, hcm, hcs, ht⟩
  · exact ⟨none, 0, rfl, Nat.le_refl _, ⟨by simpa using hl, fun h => absurd h (by omega)⟩, fun b o e => by cases e⟩
  · refine ⟨some ⟨g, 0, none⟩, cap, rfl, hnc, ⟨by simpa using hl, fun _ => ⟨g, 0, rfl, fun j u hu => ?_⟩⟩, fun b o e => by injection e with e; injection e with e1 e2; subst e1; exact hlt g rfl⟩
    have h0 : w.ownsRow base 44 6 (.slice (some ⟨g, 0, none⟩) n cap) n xs := ⟨hl, .inr ⟨g, cap, cur, rfl, hg, hh, hnc, hcm, hcs, ht⟩⟩
    have hj : j < n * 6 := by have := (List.getElem?_eq_some_iff.1 hu).1; omega
    rw [Nat.zero_add, h0.cellAt j hj]
    exact hu
set_option maxRecDepth 100000 in
theorem orderOf_any (r q : ER) (w : World) (hr : r.In w) (hq : q.In w) (h1 : r.nk ≤ 4000000000) (h2 : q.nk ≤ 4000000000) :
    Calls Tryz.prog 16 #[.agg #[.slice r.Ak r.nk r.ck, .int .u64 r.e.v, .int .u8 r.e.m, .int .u8 r.e.u, .int .u64 r.e.x, .slice r.Ad r.nd r.cd], .agg #[.slice q.Ak q.nk q.ck, .int .u64 q.e.v, .int .u8 q.e.m, .int .u8 q.e.u, .int .u64 q.e.x, .slice q.Ad q.nd q.cd]] w fun E w' => E = .returned (.int .i64 (orderL r.e.k r.e.v q.e.k q.e.v)) ∧ Below w.heap.size w w' := by
  have HR := Lib.hid hr
  have HQ := Lib.hid hq
  clear hr hq
  go_enter Tryz.func16, Tryz.ntmps16
  go_wp2_with fail
  refine (order_big r.Ak q.Ak r.nk q.nk r.ck q.ck r.e.k q.e.k r.e.v q.e.v _ ((HR.out.key.alloc _).alloc _) ((HQ.out.key.alloc _).alloc _) h1 h2).mono ?_
  rintro E w1 ⟨rfl, n1, rfl⟩
  go_wp2
  go_ret
  exact ⟨rfl, bl_drewN (bl_alloc (bl_alloc (Below.refl _ _) _) _) _⟩
end Go.Proofs.YtegaigpolhdicaaGreat
end
section
/- spec.put: an entry comes into a list in order. -/
namespace Go.Proofs.YtegaigpolhdicaaGreat
open Go.RowKit
set_option linter.unusedVariables false
set_option linter.unusedSimpArgs false
theorem own_bel {w w1 : World} {base e s n : Nat} {v : Value} {xs : List Value} (h : w.ownsRow base e s v n xs) (hb : Below w.heap.size w w1) : w1.ownsRow base e s v n xs := by
  obtain ⟨h1, h2⟩ := h
  refine ⟨h1, ?_⟩
  rcases h2 with h2 | ⟨g, cap, cur, e1, hg, hh, r⟩
  · exact .inl h2
  · exact .inr ⟨g, cap, cur, e1, hg, blk_below hh hb, r⟩
theorem bel_drewN {B : Nat} {w w' : World} (h : Below B w w') (n : Nat) : Below B w (w'.drewN n) := ⟨h.os, h.tape, h.output, h.size, h.block⟩
theorem pos_lt_of (l : List Ent) (k : List Int) (v : Int) (i : Nat) (a : Ent) (hi : i ≤ posE l k v) (ha : l[i]? = some a) (h : orderL a.k a.v k v = -1) : i < posE l k v := by
  rcases Nat.lt_or_eq_of_le hi with h1 | h1
  · exact h1
  · subst h1
    exact absurd h (posE_at l k v a ha)
/-- An entry of a list, and one in a block. -/
def Two (ga o gq : Nat) (r q : ER) (w' : World) : Prop := w'.cell? ⟨ga, o, none⟩ = some (.slice r.Ak r.nk r.ck) ∧ w'.cell? ⟨ga, o + 1, none⟩ = some (.int .u64 r.e.v) ∧ w'.cell? ⟨ga, o + 2, none⟩ = some (.int .u8 r.e.m) ∧ w'.cell? ⟨ga, o + 3, none⟩ = some (.int .u8 r.e.u) ∧ w'.cell? ⟨ga, o + 4, none⟩ = some (.int .u64 r.e.x) ∧ w'.cell? ⟨ga, o + 5, none⟩ = some (.slice r.Ad r.nd r.cd) ∧ w'.cell? ⟨gq, 0, none⟩ = some (.slice q.Ak q.nk q.ck) ∧ w'.cell? ⟨gq, 1, none⟩ = some (.int .u64 q.e.v) ∧ w'.cell? ⟨gq, 2, none⟩ = some (.int .u8 q.e.m) ∧ w'.cell? ⟨gq, 3, none⟩ = some (.int .u8 q.e.u) ∧ w'.cell? ⟨gq, 4, none⟩ = some (.int .u64 q.e.x) ∧ w'.cell? ⟨gq, 5, none⟩ = some (.slice q.Ad q.nd q.cd)
theorem Two.bel {ga o gq : Nat} {r q : ER} {w w' : World} (h : Two ga o gq r q w) (hb : Below w.heap.size w w') : Two ga o gq r q w' := by
  obtain ⟨h0, h1, h2, h3, h4, h5, h6, h7, h8, h9, h10, h11⟩ := h
  exact ⟨cell_bel h0 hb, cell_bel h1 hb, cell_bel h2 hb, cell_bel h3 hb, cell_bel h4 hb, cell_bel h5 hb, cell_bel h6 hb, cell_bel h7 hb, cell_bel h8 hb, cell_bel h9 hb, cell_bel h10 hb, cell_bel h11 hb⟩
/-- An entry in a block. -/
def One (gq : Nat) (q : ER) (w' : World) : Prop := w'.cell? ⟨gq, 0, none⟩ = some (.slice q.Ak q.nk q.ck) ∧ w'.cell? ⟨gq, 1, none⟩ = some (.int .u64 q.e.v) ∧ w'.cell? ⟨gq, 2, none⟩ = some (.int .u8 q.e.m) ∧ w'.cell? ⟨gq, 3, none⟩ = some (.int .u8 q.e.u) ∧ w'.cell? ⟨gq, 4, none⟩ = some (.int .u64 q.e.x) ∧ w'.cell? ⟨gq, 5, none⟩ = some (.slice q.Ad q.nd q.cd)
theorem One.bel {gq : Nat} {q : ER} {w w' : World} (h : One gq q w) (hb : Below w.heap.size w w') : One gq q w' := by
  obtain ⟨h0, h1, h2, h3, h4, h5⟩ := h
  exact ⟨cell_bel h0 hb, cell_bel h1 hb, cell_bel h2 hb, cell_bel h3 hb, cell_bel h4 hb, cell_bel h5 hb⟩
theorem cells_one (q : ER) : ∀ u ∈ q.cells, u.oneCell' = true := by
  have := flatE_one [q]
  rwa [show flatE [q] = q.cells from by simp [flatE]] at this
end Go.Proofs.YtegaigpolhdicaaGreat
end
section
/- spec.Put: all entries come into a list in order. -/
namespace Go.Proofs.YtegaigpolhdicaaGreat
open Go.RowKit
set_option linter.unusedVariables false
set_option linter.unusedSimpArgs false
structure OutE (w : World) (l : List Ent) (rp : List ER) (A : Option Addr) (c : Nat) (rs : List ER) : Prop where
  ers : Ers w A rs
  map : rs.map ER.e = putsE l
  cap : rs.length ≤ c
  len : rs.length ≤ l.length
  nk : ∀ r ∈ rs, r.nk ≤ 4000000000
  addr : ∃ g o, A = some ⟨g, o, none⟩
  sub : ∀ r ∈ rs, r ∈ rp
end Go.Proofs.YtegaigpolhdicaaGreat
end
