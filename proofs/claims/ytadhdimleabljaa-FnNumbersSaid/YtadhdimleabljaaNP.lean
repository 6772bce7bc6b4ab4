/- Numbers in bytes: the law's plain part. -/
import Derived.Test.YtadhdimleabljaaQN
import Derived.Test.YtadhdimleabljaaGA
namespace Go.Proofs.YtadhdimleabljaaQ.QN
open Go.RowKit Go.Proofs.YtadhdimleabljaaQ.Ext
open Go.Proofs.YtadhdimleabljaaW.PrintWords (rd)
set_option linter.unusedVariables false
set_option linter.unusedSimpArgs false
theorem and16 (n : Int) (h0 : 0 ≤ n) (h1 : n < 18446744073709551616) : Go.bits .and .u64 n 65535 = n % 65536 := by
  rw [u64_and n 65535 h0 h1 (by omega) (by omega)]
  have : (65535 : Int).toNat = 2 ^ 16 - 1 := rfl
  rw [this, Nat.and_two_pow_sub_one_eq_mod]
  omega
theorem and32 (n : Int) (h0 : 0 ≤ n) (h1 : n < 18446744073709551616) : Go.bits .and .u64 n 4294967295 = n % 4294967296 := by
  rw [u64_and n 4294967295 h0 h1 (by omega) (by omega)]
  have : (4294967295 : Int).toNat = 2 ^ 32 - 1 := rfl
  rw [this, Nat.and_two_pow_sub_one_eq_mod]
  omega
theorem be16_f (a b : Int) (r : List Int) (ha : 0 ≤ a ∧ a ≤ 255) (hb : 0 ≤ b ∧ b ≤ 255) : badgery_beUint16.f (a :: b :: r) = some (a * 256 + b) := by
  unfold badgery_beUint16.f
  rw [if_pos (by simp; omega), if_pos (by simp; omega)]
  have e1 : rd (a :: b :: r) 1 = b := rfl
  have e0 : rd (a :: b :: r) 0 = a := rfl
  rw [e1, e0, IntWalk.u16_in b (by omega), IntWalk.u16_in a (by omega), IntWalk.u16_in (a * 256) (by omega), u16_or b (a * 256) (by omega) (by omega) (by omega) (by omega)]
  have := nat_join 8 (a * 256).toNat b.toNat (by omega) (by omega)
  rw [Nat.or_comm, this]
  congr 1
  omega
theorem be32_f (a b c d : Int) (r : List Int) (ha : 0 ≤ a ∧ a ≤ 255) (hb : 0 ≤ b ∧ b ≤ 255) (hc : 0 ≤ c ∧ c ≤ 255) (hd : 0 ≤ d ∧ d ≤ 255) : badgery_beUint32.f (a :: b :: c :: d :: r) = some ((a * 256 + b) * 65536 + (c * 256 + d)) := by
  unfold badgery_beUint32.f
  rw [if_pos (by omega), if_pos (by simp; omega)]
  have e : ((a :: b :: c :: d :: r).take 4).drop 2 = c :: d :: [] := rfl
  rw [e, be16_f c d [] hc hd, Option.bind_some, be16_f a b _ ha hb, Option.bind_some]
  rw [Int.emod_eq_of_lt (show 0 ≤ c * 256 + d by omega) (by omega), Int.emod_eq_of_lt (show 0 ≤ a * 256 + b by omega) (by omega), Int.emod_eq_of_lt (show 0 ≤ (a * 256 + b) * 65536 by omega) (by omega), Ytadhdimleabljaa.or_join32 _ _ (by omega) (by omega)]
theorem be64_f (a b c d e f g h : Int) (r : List Int) (ha : 0 ≤ a ∧ a ≤ 255) (hb : 0 ≤ b ∧ b ≤ 255) (hc : 0 ≤ c ∧ c ≤ 255) (hd : 0 ≤ d ∧ d ≤ 255) (he : 0 ≤ e ∧ e ≤ 255) (hf : 0 ≤ f ∧ f ≤ 255) (hg : 0 ≤ g ∧ g ≤ 255) (hh : 0 ≤ h ∧ h ≤ 255) :
    badgery_beUint64.f (a :: b :: c :: d :: e :: f :: g :: h :: r) = some (((a * 256 + b) * 65536 + (c * 256 + d)) * 4294967296 + ((e * 256 + f) * 65536 + (g * 256 + h))) := by
  unfold badgery_beUint64.f
  rw [if_pos (by omega), if_pos (by simp; omega)]
  have e1 : ((a :: b :: c :: d :: e :: f :: g :: h :: r).take 8).drop 4 = e :: f :: g :: h :: [] := rfl
  rw [e1, be32_f e f g h [] he hf hg hh, Option.bind_some, be32_f a b c d _ ha hb hc hd, Option.bind_some]
  rw [Ytadhdimleabljaa.wrapU64 ((e * 256 + f) * 65536 + (g * 256 + h)) (by omega) (by omega), Ytadhdimleabljaa.wrapU64 ((a * 256 + b) * 65536 + (c * 256 + d)) (by omega) (by omega), Ytadhdimleabljaa.wrapU64 (((a * 256 + b) * 65536 + (c * 256 + d)) * 4294967296) (by omega) (by omega), Ytadhdimleabljaa.or_join64 _ _ (by omega) (by omega)]
theorem own_f (l : List Int) (h : l.length ≤ 100) : impl_own.f l = some l := by
  unfold impl_own.f
  rw [if_pos (by omega)]
theorem numbers_row (x0 : Int) (w0 : (Lit.int .u64 x0).wf = true) : ∃ k, laws_FnNumbers.f k x0 = some true := by
  have hb := Ytadhdimleabljaa.wf64 w0
  obtain ⟨h0, h1'⟩ := hb
  have h1 : x0 < 18446744073709551616 := by have := h1'.out; omega
  have hu := u64ok_mk h0 h1'
  refine ⟨2, ?_⟩
  have w16 : IntKind.u16.wrap x0 = x0 % 65536 := by rw [IntKind.wrap_u16]
  unfold laws_FnNumbers.f
  simp only [impl_Number16.f, impl_Number32.f, impl_Number64.f, spec_High.f, spec_SameBytes.f, w16]
  rw [if_pos (show 0 ≤ x0 % 65536 ∧ x0 % 65536 ≤ 65535 by omega), Option.bind_some, if_pos (show 0 ≤ x0 % 4294967296 ∧ x0 % 4294967296 ≤ 4294967295 by omega), Option.bind_some, if_pos hu, Option.bind_some]
  rw [and16 x0 h0 h1, and32 x0 h0 h1]
  rw [if_pos (by omega), Option.bind_some, show ((2 : Int).toNat) = 2 from rfl, Ytadhdimleabljaa.highL_two _ (by omega) (by omega), if_pos (by simp [Ytadhdimleabljaa.be16]), Option.bind_some]
  simp only [decide_true, if_true]
  rw [if_pos (by omega), Option.bind_some, show ((4 : Int).toNat) = 4 from rfl, Ytadhdimleabljaa.highL_four _ (by omega) (by omega), if_pos (by simp [Ytadhdimleabljaa.be16, Ytadhdimleabljaa.be32]), Option.bind_some]
  simp only [decide_true, if_true]
  rw [if_pos (by omega), Option.bind_some, show ((8 : Int).toNat) = 8 from rfl, Ytadhdimleabljaa.highL_eight _ (by omega) (by omega), if_pos (by simp [Ytadhdimleabljaa.be16, Ytadhdimleabljaa.be32, Ytadhdimleabljaa.be64]), Option.bind_some]
  show laws_FnNumbers.j0 (1 + 1) _ _ _ _ _ = _
  rw [laws_FnNumbers.j0]
  simp only [decide_true, Bool.not_true, Bool.false_eq_true, if_false, impl_Read16.f, impl_Read32.f, impl_Read64.f, badgery_BytesToU16.f, badgery_BytesToU32.f, badgery_BytesToU64.f]
  rw [own_f _ (by simp [Ytadhdimleabljaa.be16]), Option.bind_some, own_f _ (by simp [Ytadhdimleabljaa.be16, Ytadhdimleabljaa.be32]), own_f _ (by simp [Ytadhdimleabljaa.be16, Ytadhdimleabljaa.be32, Ytadhdimleabljaa.be64])]
  simp only [Ytadhdimleabljaa.be64, Ytadhdimleabljaa.be32, Ytadhdimleabljaa.be16, List.cons_append, List.nil_append, Option.bind_some]
  rw [be16_f _ _ _ (by omega) (by omega), Option.bind_some, Option.bind_some, be32_f _ _ _ _ _ (by omega) (by omega) (by omega) (by omega), be64_f _ _ _ _ _ _ _ _ _ (by omega) (by omega) (by omega) (by omega) (by omega) (by omega) (by omega) (by omega)]
  simp only [Option.bind_some]
  rw [w16, if_pos (by omega), if_pos (by omega)]
  congr 1
  rw [beq_iff_eq]
  omega
end Go.Proofs.YtadhdimleabljaaQ.QN
