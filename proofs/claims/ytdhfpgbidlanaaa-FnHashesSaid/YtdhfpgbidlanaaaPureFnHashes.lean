/- The hash of a number of any kind is that of the number as 64 bits, with its sign: no condition. -/
import Derived.Test.YtdhfpgbidlanaaaPFnHashesx1
import Derived.IntWalk
namespace Go.Proofs.Ytdhfpgbidlanaaa.Pure
open Go.RowKit Go.IntWalk Go.Proofs.Ytdhfpgbidlanaaa.PFnHashes Go.Proofs.YtdhfpgbidlanaaaW.PrintWords Go.Proofs.YtdhfpgbidlanaaaW.PrintLast

theorem hash_fn : ∃ g : Int → Int, (∀ a, zgeneric_hash.f a = some (g a)) ∧ (g 1 != g 2) = true := ⟨fun a => (zgeneric_hash.f a).getD 0, fun _ => rfl, by decide +kernel⟩

theorem FnHashes : laws_FnHashes.Pure := by
  intro n hwf
  obtain ⟨g, hg, h12⟩ := hash_fn
  have hb : 0 ≤ n ∧ n < 18446744073709551616 := by
    simp only [Lit.wf, IntKind.min, IntKind.max, IntKind.signed, IntKind.bits, Bool.and_eq_true] at hwf
    simp at hwf; omega
  have e1 : IntKind.u64.wrap (n % 4294967296) = n % 4294967296 := by rw [IntKind.wrap_u64]; omega
  have e2 : IntKind.u64.wrap (n % 256) = n % 256 := by rw [IntKind.wrap_u64]; omega
  have e3 : IntKind.u64.wrap (wrap64 n) = n := by rw [IntKind.wrap_u64]; unfold wrap64; omega
  have e4 : wrap64 (wrap32 n) = wrap32 n := by unfold wrap64 wrap32; omega
  have e5 : wrap64 (IntKind.i8.wrap n) = IntKind.i8.wrap n := by
    have : -128 ≤ IntKind.i8.wrap n ∧ IntKind.i8.wrap n ≤ 127 := by
      simp only [IntKind.wrap, IntKind.bits, IntKind.signed]
      simp
      split <;> omega
    exact wrap64_in _ (by omega)
  refine ⟨1, ?_⟩
  simp only [laws_FnHashes.f, laws_FnHashes.j0, impl_HashUint32.f, zgeneric_HashUint32.f, impl_HashUint64.f, zgeneric_HashUint64.f, impl_HashUint8.f, zgeneric_HashUint8.f, impl_HashInt.f, zgeneric_HashInt.f, impl_HashInt32.f, zgeneric_HashInt32.f, impl_HashInt8.f, zgeneric_HashInt8.f, hg, Option.bind_some, e1, e2, e3, e4, e5, if_true, bne_self_eq_false, h12]
  simp

end Go.Proofs.Ytdhfpgbidlanaaa.Pure
