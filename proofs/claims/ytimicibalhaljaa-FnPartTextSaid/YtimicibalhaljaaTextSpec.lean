/- The walks of the reference's partValue and PartForm; no condition but the size. -/
import Derived.Test.YtimicibalhaljaaPText
import Derived.Test.YtimicibalhaljaaPartEnc
set_option linter.unusedVariables false
set_option linter.unusedSimpArgs false
namespace Go.Proofs.Ytimicibalhaljaa.B64
open Go.RowKit Go.Proofs.Ytimicibalhaljaa.K Go.Proofs.Ytimicibalhaljaa.Own
theorem fL_back_std : ∀ n : Fin 256, fL alStd (UInt8.ofNat n.val) < 64 → bt alStd (fL alStd (UInt8.ofNat n.val)) = UInt8.ofNat n.val := by decide +kernel
theorem fL_back_url : ∀ n : Fin 256, fL alURL (UInt8.ofNat n.val) < 64 → bt alURL (fL alURL (UInt8.ofNat n.val)) = UInt8.ofNat n.val := by decide +kernel
theorem fL_back (url : Bool) (c : UInt8) (h : fL (alFor url) c < 64) : bt (alFor url) (fL (alFor url) c) = c := by
  have e : UInt8.ofNat c.toNat = c := UInt8.ofNat_toNat
  cases url with
  | true => have := fL_back_url ⟨c.toNat, c.toNat_lt⟩; simp only [e] at this; exact this h
  | false => have := fL_back_std ⟨c.toNat, c.toNat_lt⟩; simp only [e] at this; exact this h
theorem alFor_ok (url : Bool) : Alph (alFor url) (fL (alFor url)) := by
  cases url
  · exact alStd_ok
  · exact alURL_ok
def valOf (f : UInt8 → Nat) (c : UInt8) : Value := .tuple #[.int .u32 ((if f c < 64 then f c else 0 : Nat) : Nat), .bool (decide (f c < 64))]
set_option maxRecDepth 100000 in
set_option maxHeartbeats 4000000 in
theorem partValue_calls (w : World) (c : UInt8) (url : Bool) :
    Calls Try.prog 38 #[.int .u8 c.toNat, .bool url] w fun e w' => e = .returned (valOf (fL (alFor url)) c) ∧ w = w' := by
  obtain ⟨al, hal⟩ : ∃ al, al = alFor url := ⟨_, rfl⟩
  have hL := partLetters_calls w url
  have hback := fL_back url c
  have hok := alFor_ok url
  rw [← hal] at hL hback hok ⊢
  have ha : al.length = 64 := by rw [hal]; exact alFor_len url
  have HL := Lib.hid hL
  have HA := Lib.hid ha
  have HK := Lib.hid hok
  have HBK := Lib.hid hback
  have hsz : (⟨al.toArray⟩ : ByteArray).size = 64 := by simp [ByteArray.size, ha]
  obtain ⟨cn, hcn⟩ : ∃ cn, cn = c.toNat := ⟨_, rfl⟩
  have hc256 : cn < 256 := by rw [hcn]; exact c.toNat_lt
  rw [← hcn]
  have HC := Lib.hid hcn
  clear hL hok hback hcn hal ha
  go_enter Try.func38, Try.ntmps38
  go_wp2_with fail
  refine HL.out.mono ?_
  rintro e w1 ⟨rfl, rfl⟩
  go_wp2_with fail
  go_loopg [7] 64 (fun k i wr => ∃ j : Nat, k + j = 64 ∧ i = .int .i64 (j : Nat) ∧ Hid (∀ m, m < j → bt al m ≠ c) ∧ wr = w)
  case atStart => exact ⟨0, rfl, rfl, (fun m hm => absurd hm (by omega)), rfl⟩
  case round =>
    obtain ⟨j, hkj, rfl, hno, hw⟩ := hrel
    subst hw
    by_cases hj : j < 64
    · obtain ⟨b, hb⟩ : ∃ b, b = (bt al j).toNat := ⟨_, rfl⟩
      have hix : ((⟨al.toArray⟩ : ByteArray)[j]'(by rw [hsz]; exact hj)).toNat = b := by
        rw [hb, bt_get _ _ (by rw [HA.out]; exact hj)]
        rfl
      have HB := Lib.hid hb
      clear hb
      by_cases hbc : b = cn
      · subst hbc
        have hf : Hid (fL al c = j) := Lib.hid (by
          have : bt al j = c := UInt8.toNat_inj.1 (by rw [← HB.out, HC.out])
          rw [← this]
          exact HK.out.back j hj)
        have hv : valOf (fL al) c = .tuple #[.int .u32 (j : Nat), .bool true] := by rw [valOf, hf.out, if_pos hj, decide_eq_true hj]
        have HV := Lib.hid hv
        clear hv
        have hbb : ((b : Int) == (b : Int)) = true := by simp
        have hjw : IntKind.u32.wrap (j : Int) = (j : Int) := by
          unfold IntKind.wrap; simp [IntKind.bits, IntKind.signed]; omega
        clear hf
        go_wp2
        exact bodyPost_ret (v := .tuple #[.int .u32 (j : Nat), .bool true]) (by kernel_rfl) rfl ⟨by rw [HV.out], rfl⟩
      · have hbci : ¬ (b : Int) = (cn : Int) := by omega
        go_wp2
        go_roundg (64 - (j + 1))
        case measure => omega
        case rel =>
          refine ⟨j + 1, by omega, by go_num, ?_, rfl⟩
          intro m hm
          by_cases hmj : m < j
          · exact hno.out m hmj
          · obtain rfl : m = j := by omega
            intro h
            exact hbc (by rw [HB.out, HC.out, h])
    · obtain rfl : j = 64 := by omega
      have hf : ¬ fL al c < 64 := fun h => hno.out _ h (HBK.out h)
      have hv : valOf (fL al) c = .tuple #[.int .u32 0, .bool false] := by rw [valOf, if_neg hf, decide_eq_false hf]; rfl
      have HV := Lib.hid hv
      clear hf hv
      go_wp2
      exact bodyPost_ret (v := .tuple #[.int .u32 0, .bool false]) (by kernel_rfl) rfl ⟨by rw [HV.out], rfl⟩
end Go.Proofs.Ytimicibalhaljaa.B64
