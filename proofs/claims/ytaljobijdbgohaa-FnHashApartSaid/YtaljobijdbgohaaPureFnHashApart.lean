/- FnHashApart: unlike numbers of 64 bits have unlike hashes, and like ones like hashes; no conditions. -/
import Derived.Test.YtaljobijdbgohaaPFnHashApartx1
namespace Go.Proofs.Ytaljobijdbgohaa.Pure
open Go.RowKit Go.Proofs.Ytaljobijdbgohaa.PFnHashApart Go.Proofs.YtaljobijdbgohaaW.PrintWords Go.Proofs.YtaljobijdbgohaaW.PrintLast

theorem fold_inj (a b : BitVec 64) (h : a ^^^ (a >>> 33) = b ^^^ (b >>> 33)) : a = b := by
  have hx : ∀ x : BitVec 64, (x ^^^ (x >>> 33)) ^^^ ((x ^^^ (x >>> 33)) >>> 33) = x := by
    intro x
    ext i hi
    simp [BitVec.getLsbD_xor, BitVec.getLsbD_ushiftRight]
    by_cases h1 : 33 + i < 64
    · have : ¬ (33 + (33 + i)) < 64 := by omega
      simp [BitVec.getLsbD_of_ge x _ (by omega : 64 ≤ 33 + (33 + i))]
    · simp [BitVec.getLsbD_of_ge x _ (by omega : 64 ≤ 33 + (33 + i))]
  rw [← hx a, ← hx b, h]
theorem times_inj (c d : BitVec 64) (hc : c * d = 1#64) (a b : BitVec 64) (h : a * c = b * c) : a = b := by
  have : a * c * d = b * c * d := by rw [h]
  rw [BitVec.mul_assoc, BitVec.mul_assoc, hc] at this
  simpa using this
/-- one turn of the hash over bits: a fold and a product. -/
def foldB (x : BitVec 64) : BitVec 64 := x ^^^ (x >>> 33)
def hashB (x : BitVec 64) : BitVec 64 := foldB (foldB (foldB x * 18397679294719823053#64) * 14181476777654086739#64)
theorem hashB_inj (a b : BitVec 64) (h : hashB a = hashB b) : a = b := by
  unfold hashB at h
  exact fold_inj _ _ (times_inj 18397679294719823053#64 5725274745694666757#64 (by decide) _ _ (fold_inj _ _ (times_inj 14181476777654086739#64 11291846944257947611#64 (by decide) _ _ (fold_inj _ _ h))))
theorem wrap_u64 (n : Int) : IntKind.u64.wrap n = n % 18446744073709551616 := by simp [IntKind.wrap, IntKind.bits, IntKind.signed]
theorem fold_bits (x : BitVec 64) : Go.bits .xor .u64 (x.toNat : Int) ((x.toNat : Int) / 8589934592) = ((foldB x).toNat : Int) := by
  have h1 : (x.toNat : Int) / (8589934592 : Int) = ((x >>> 33).toNat : Int) := by
    rw [BitVec.toNat_ushiftRight, Nat.shiftRight_eq_div_pow]; rfl
  rw [h1]
  unfold Go.bits foldB
  show IntKind.u64.wrap (((BitVec.ofInt 64 (x.toNat : Int)) ^^^ (BitVec.ofInt 64 ((x >>> 33).toNat : Int))).toNat : Int) = _
  rw [BitVec.ofInt_natCast, BitVec.ofInt_natCast, BitVec.ofNat_toNat, BitVec.ofNat_toNat, wrap_u64]
  simp only [BitVec.setWidth_eq]
  have := (x ^^^ x >>> 33).isLt
  omega
theorem times_bits (x c : BitVec 64) : IntKind.u64.wrap ((x.toNat : Int) * (c.toNat : Int)) = ((x * c).toNat : Int) := by
  rw [wrap_u64, BitVec.toNat_mul, Int.natCast_emod, Int.natCast_mul]; rfl
theorem hash_bits (x : BitVec 64) : zgeneric_hash.f (x.toNat : Int) = some ((hashB x).toNat : Int) := by
  unfold zgeneric_hash.f hashB
  have e1 : (18397679294719823053 : Int) = ((18397679294719823053#64).toNat : Int) := by decide
  have e2 : (14181476777654086739 : Int) = ((14181476777654086739#64).toNat : Int) := by decide
  rw [e1, e2, fold_bits, times_bits, fold_bits, times_bits, fold_bits]
theorem of_wf (a : Int) (h : (Lit.int .u64 a).wf = true) : ∃ x : BitVec 64, a = (x.toNat : Int) := by
  have h0 : 0 ≤ a ∧ a < 18446744073709551616 := by
    simp [Lit.wf, IntKind.min, IntKind.max, IntKind.bits, IntKind.signed] at h
    omega
  refine ⟨BitVec.ofNat 64 a.toNat, ?_⟩
  rw [BitVec.toNat_ofNat]; omega
/-- YOURS: ∀ (a0 : Int) (a1 : Int), (Lit.int .u64 a0).wf = true → (Lit.int .u64 a1).wf = true → laws_FnHashApart.f a0 a1 = some true
What it reaches (each with k first where it has rounds; `.mono`: more rounds tell the same; `.l0`, ..: its loops, with `.mono_l`): zgeneric_hash.f, zgeneric_HashUint64.f, impl_HashUint64.f, laws_FnHashApart.f -/
theorem FnHashApart : laws_FnHashApart.Pure := by
  intro a0 a1 h0 h1
  obtain ⟨x, rfl⟩ := of_wf a0 h0
  obtain ⟨y, rfl⟩ := of_wf a1 h1
  unfold laws_FnHashApart.f impl_HashUint64.f zgeneric_HashUint64.f
  rw [hash_bits, hash_bits]
  simp only [Option.bind_some]
  by_cases e : x = y
  · subst e; simp
  · have e1 : ((x.toNat : Int) == (y.toNat : Int)) = false := by
      rw [beq_eq_false_iff_ne]; intro hh; exact e (BitVec.eq_of_toNat_eq (by omega))
    have e2 : (((hashB x).toNat : Int) == ((hashB y).toNat : Int)) = false := by
      rw [beq_eq_false_iff_ne]; intro hh; exact e (hashB_inj _ _ (BitVec.eq_of_toNat_eq (by omega)))
    rw [e1, e2]; rfl

end Go.Proofs.Ytaljobijdbgohaa.Pure
