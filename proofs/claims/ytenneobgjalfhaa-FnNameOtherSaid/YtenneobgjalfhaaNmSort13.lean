/- sort.Slice over an invariant: it ends, and the invariant stands; the swap that it makes. The conditions: from 2 to 19 elements. -/
import Derived.Test.YtenneobgjalfhaaNmSort12
import Derived.Lib.ReflectliteSwap
import Derived.Laws.Externs
set_option linter.unusedVariables false
set_option linter.unusedSimpArgs false
namespace Go.Proofs.Ytenneobgjalfhaa.So
open Go.RowKit Go.Proofs.Ytenneobgjalfhaa.K Go.Lib
/-- What is known of a slice type whose elements are swapped by the literal for any size. -/
structure Sl (t e : TypeId) (i ie : TypeInfo) (ke n : Nat) : Prop where
  hi : Try.prog.info? t = some i
  hd : i.desc = .slice e
  hpk : Try.prog.packed t = false
  hie : Try.prog.info? e = some ie
  hke : ∀ w, (Extern.Rtype.kind e).run Try.prog w = .ok ke w
  h9 : swapperK n ie ke = 9
theorem find9 : Try.prog.funcs.findIdx? (·.name == "internal/reflectlite" ++ ".Swapper$" ++ toString (9 : Nat)) = some 71 := by kernel_rfl
theorem call_valueOf (a : Array Value) (w : World) : (callFunc 53 a).run Try.prog w = ((Extern.ReflectliteValue.unpack (a.getD 0 (.tuple #[]))).run Try.prog w).andThen fun v w' => .ok (.value v) w' :=
  run_callFunc_extern (fn := Try.f53) (e := fun args => Extern.ReflectliteValue.unpack (args.getD 0 (.tuple #[]))) (by kernel_rfl) (by kernel_rfl) (by kernel_rfl) (by kernel_rfl) (by kernel_rfl) a w
theorem call_swapper (a : Array Value) (w : World) : (callFunc 54 a).run Try.prog w = ((Extern.ReflectliteSwapper.swapper "internal/reflectlite" (Extern.ReflectliteValue.valueError "Swapper") a).run Try.prog w).andThen fun v w' => .ok (.value v) w' :=
  run_callFunc_extern (fn := Try.f54) (e := Extern.ReflectliteSwapper.swapper "internal/reflectlite" (Extern.ReflectliteValue.valueError "Swapper")) (by kernel_rfl) (by kernel_rfl) (by kernel_rfl) (by kernel_rfl) (by kernel_rfl) a w
theorem call_len (a : Array Value) (w : World) : (callFunc 55 a).run Try.prog w = ((Extern.ReflectliteValue.method (Extern.ReflectliteValue.valueError "reflectlite.Value.Len" 0) Extern.ReflectliteValue.len a).run Try.prog w).andThen fun v w' => .ok (.value v) w' :=
  run_callFunc_extern (fn := Try.f55) (e := Extern.ReflectliteValue.method (Extern.ReflectliteValue.valueError "reflectlite.Value.Len" 0) Extern.ReflectliteValue.len) (by kernel_rfl) (by kernel_rfl) (by kernel_rfl) (by kernel_rfl) (by kernel_rfl) a w
theorem call_swap9 (a : Array Value) (w : World) : (callFunc 71 a).run Try.prog w = ((Extern.ReflectliteSwapper.swap false a).run Try.prog w).andThen fun v w' => .ok (.value v) w' :=
  run_callFunc_extern (fn := Try.f71) (e := Extern.ReflectliteSwapper.swap false) (by kernel_rfl) (by kernel_rfl) (by kernel_rfl) (by kernel_rfl) (by kernel_rfl) a w
section
variable {g : Nat} {lb : Array Value} {Inv : World → Prop} {blk B n : Nat}
set_option maxRecDepth 100000 in
set_option maxHeartbeats 4000000 in
theorem Slice_calls {t e : TypeId} {i ie : TypeInfo} {ke : Nat} (hs : Sl t e i ie ke n) (p : Option Addr) (c : Nat) (hK : Keeps g 71 lb #[.slice p n c, typeHandle Try.prog e] Inv blk B n) (h1 : 1 ≤ n) (h20 : n < 20) (w : World) (hI : Inv w) :
    Calls Try.prog 44 #[.iface t (.slice p n c), .func (.func g) #[] lb] w fun e w' => e = .returned (.tuple #[]) ∧ Inv w' := by
  have hv := run_valueOf_slice (P := Try.prog) t e i hs.hi hs.hd p n c w
  have hsw := run_swapper_slice (P := Try.prog) t e i ie hs.hi hs.hd hs.hie ke hs.hke p n c 71 (by rw [hs.h9]; exact find9)
  rw [hs.h9, if_neg (by decide)] at hsw
  obtain ⟨th, hth⟩ : ∃ v, v = typeHandle Try.prog e := ⟨_, rfl⟩
  rw [← hth] at hsw hK
  clear hth
  have hln := fun a w ha => run_valueLen_slice (P := Try.prog) t e i hs.hi hs.hd hs.hpk a p n c w ha
  obtain ⟨m, hm5, hL⟩ := Len_any ((w.alloc (.cells #[.slice p n c] t)).alloc (.cells #[typeHandle Try.prog t, .pointer (some ⟨w.heap.size, 0, none⟩), .int .u64 151] 89)) n h1 h20
  have hI2 : Inv ((w.alloc (.cells #[.slice p n c] t)).alloc (.cells #[typeHandle Try.prog t, .pointer (some ⟨w.heap.size, 0, none⟩), .int .u64 151] 89)) :=
    hK.grow _ _ none (hK.grow _ _ none hI (World.grownBy_alloc _ _ none) (by intro j hj; cases hj)) (World.grownBy_alloc _ _ none) (by intro j hj; cases hj)
  have HP := Lib.hid (pdqsort_calls hK h20 n _ hI2 0 n m (by omega) (by omega) (Nat.le_refl _) (by omega))
  have HL := Lib.hid hL
  have wr : IntKind.u64.wrap (n : Int) = n := by simp [IntKind.wrap, IntKind.bits, IntKind.signed]; omega
  clear hL hI hI2 hK hs
  have hgs : Try.prog.globals.size = 0 := by kernel_rfl
  simp only [typeHandle, hgs] at hv hln HP HL
  clear hgs
  go_enter Try.func44, Try.ntmps44
  go_wp2
  rw [call_valueOf, show Sem.run Try.prog (Extern.ReflectliteValue.unpack (#[Value.iface t (.slice p n c)].getD 0 (.tuple #[]))) w = _ from hv]
  simp only [Result.andThen]
  rw [Oper.upon_value]
  go_wp2
  rw [call_swapper, hsw]
  simp only [Result.andThen]
  rw [Oper.upon_value]
  go_wp2
  rw [call_len, hln _ _ (by simp)]
  simp only [Result.andThen]
  rw [Oper.upon_value]
  go_wp2_with fail
  refine HL.out.mono ?_
  rintro e w' ⟨rfl, rfl⟩
  go_wp2_with fail
  refine HP.out.mono ?_
  rintro e w' ⟨rfl, hI, _⟩
  have HI := Lib.hid hI
  clear hI HP HL
  go_wp2
  go_end0
  exact ⟨rfl, HI.out⟩
end
end Go.Proofs.Ytenneobgjalfhaa.So
