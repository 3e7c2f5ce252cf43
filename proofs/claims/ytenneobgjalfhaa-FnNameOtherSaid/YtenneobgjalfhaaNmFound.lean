/- The walk of impl.NameFound at each of its six kinds; no condition. Printed by gen_nf.py. -/
import Derived.Test.YtenneobgjalfhaaNmLks
set_option linter.unusedVariables false
set_option linter.unusedSimpArgs false
namespace Go.Proofs.Ytenneobgjalfhaa.Nm
open Go.RowKit Go.Proofs.Ytenneobgjalfhaa.K
def up2 (l : List (ByteArray × Bool)) : List (ByteArray × Bool × Bool) := l.map fun p => (p.1, p.2, false)
def tabs : Nat → List (ByteArray × Bool × Bool)
  | 0 => tabSignature
  | 1 => tabKeyEncryption
  | 2 => up2 tabContentEncryption
  | 3 => up2 tabCompression
  | 4 => up2 tabEllipticCurve
  | _ => up2 tabKeyType
/-- What is said of a name: t, d, y, ok. -/
def Told (tb : List (ByteArray × Bool × Bool)) (s t : ByteArray) (d y ok : Bool) : Prop := (t = s ∧ ok = true ∧ (s, d, y) ∈ tb) ∨ (t = ⟨#[]⟩ ∧ d = false ∧ y = false ∧ ok = false ∧ ∀ p ∈ tb, p.1 ≠ s)
def NFPost (tb : List (ByteArray × Bool × Bool)) (s : ByteArray) (w : World) (e : Ending) (w' : World) : Prop :=
  Below w.heap.size w w' ∧ ∃ t d y ok, Told tb s t d y ok ∧ e = .returned (.tuple #[.string t, .bool d, .bool y, .bool ok])
theorem Found3.told {tb : List (ByteArray × Bool × Bool)} {s : ByteArray} {w w' : World} {e : Ending} (h : Found3 tb s w e w') : ∃ t d y ok, Told tb s t d y ok ∧ e = .returned (.tuple #[three t d y, .bool ok]) := by
  obtain ⟨_, ⟨d, y, hm, rfl⟩ | ⟨hn, rfl⟩⟩ := h
  · exact ⟨s, d, y, true, Or.inl ⟨rfl, rfl, hm⟩, rfl⟩
  · exact ⟨_, _, _, _, Or.inr ⟨rfl, rfl, rfl, rfl, hn⟩, rfl⟩
theorem Found2.told {tb : List (ByteArray × Bool)} {s : ByteArray} {w w' : World} {e : Ending} (h : Found2 tb s w e w') : ∃ t d ok, Told (up2 tb) s t d false ok ∧ e = .returned (.tuple #[two t d, .bool ok]) := by
  obtain ⟨_, ⟨d, hm, rfl⟩ | ⟨hn, rfl⟩⟩ := h
  · exact ⟨s, d, true, Or.inl ⟨rfl, rfl, List.mem_map.2 ⟨_, hm, rfl⟩⟩, rfl⟩
  · refine ⟨_, _, _, Or.inr ⟨rfl, rfl, rfl, rfl, ?_⟩, rfl⟩
    intro p hp
    obtain ⟨q, hq, rfl⟩ := List.mem_map.1 hp
    exact hn q hq
set_option maxRecDepth 100000 in
set_option maxHeartbeats 4000000 in
theorem NameFound_0 (w : World) (s : ByteArray) : Calls Try.prog 7 #[.int .i64 0, .string s] w (NFPost (tabs 0) s w) := by
  have HK := Lib.hid (LookupSignature_calls w s)
  go_enter Try.func7, Try.ntmps7
  go_wp2_with fail
  refine HK.out.mono ?_
  intro e w1 he
  have HB := Lib.hid he.1
  obtain ⟨t, d, y, ok, ht, rfl⟩ := he.told
  have HT := Lib.hid ht
  clear he ht HK
  have HD0 : Hid (Below w.heap.size w (w1.alloc (.cells #[.string t, .bool d, .bool y] 32)).drew) := Lib.hid (below_alloc' HB.out _).drew
  have HV0 : Hid (Blk (w1.alloc (.cells #[.string t, .bool d, .bool y] 32)).drew w1.heap.size 32 #[.string t, .bool d, .bool y]) := Lib.hid (Blk.new w1 32 #[.string t, .bool d, .bool y])
  have HS0 := Lib.hid (SignatureAlgorithm_String_calls (w1.alloc (.cells #[.string t, .bool d, .bool y] 32)).drew t d y)
  go_upto_region 4 with (fail)
  go_region_held3 (fun W => W.cell? ⟨w1.heap.size, 0, none⟩ = some (.string t) ∧ W.cell? ⟨w1.heap.size, 1, none⟩ = some (.bool d) ∧ W.cell? ⟨w1.heap.size, 2, none⟩ = some (.bool y)) (first | exact three_cells HV3.out | exact three_cells HV2.out | exact three_cells HV1.out | exact three_cells HV0.out) (first
    | ((with_reducible refine Calls.mono HS0.out ?_); rintro e v1 ⟨rfl, hB1⟩; have HD1 := Lib.hid (HD0.out.trans (hB1.mono HD0.out.size)); have HV1 := Lib.hid (HV0.out.below hB1 HV0.out.lt); have HS1 := Lib.hid (SignatureAlgorithm_IsDeprecated_calls v1 t d y); clear hB1 HS0)
    | ((with_reducible refine Calls.mono HS1.out ?_); rintro e v2 ⟨rfl, hB2⟩; have HD2 := Lib.hid (HD1.out.trans (hB2.mono HD1.out.size)); have HV2 := Lib.hid (HV1.out.below hB2 HV1.out.lt); have HS2 := Lib.hid (SignatureAlgorithm_IsSymmetric_calls v2 t d y); clear hB2 HS1)
    | ((with_reducible refine Calls.mono HS2.out ?_); rintro e v3 ⟨rfl, hB3⟩; have HD3 := Lib.hid (HD2.out.trans (hB3.mono HD2.out.size)); have HV3 := Lib.hid (HV2.out.below hB3 HV2.out.lt); clear hB3 HS2))
  all_goals
    go_wp2
    exact bodyPost_ret (v := .tuple #[.string t, .bool d, .bool y, .bool ok]) (by kernel_rfl) rfl ⟨HD3.out, t, d, y, ok, HT.out, rfl⟩
set_option maxRecDepth 100000 in
set_option maxHeartbeats 4000000 in
theorem NameFound_1 (w : World) (s : ByteArray) : Calls Try.prog 7 #[.int .i64 1, .string s] w (NFPost (tabs 1) s w) := by
  have HK := Lib.hid (LookupKeyEncryption_calls w s)
  go_enter Try.func7, Try.ntmps7
  go_wp2_with fail
  refine HK.out.mono ?_
  intro e w1 he
  have HB := Lib.hid he.1
  obtain ⟨t, d, y, ok, ht, rfl⟩ := he.told
  have HT := Lib.hid ht
  clear he ht HK
  have HD0 : Hid (Below w.heap.size w (w1.alloc (.cells #[.string t, .bool d, .bool y] 36)).drew) := Lib.hid (below_alloc' HB.out _).drew
  have HV0 : Hid (Blk (w1.alloc (.cells #[.string t, .bool d, .bool y] 36)).drew w1.heap.size 36 #[.string t, .bool d, .bool y]) := Lib.hid (Blk.new w1 36 #[.string t, .bool d, .bool y])
  have HS0 := Lib.hid (KeyEncryptionAlgorithm_String_calls (w1.alloc (.cells #[.string t, .bool d, .bool y] 36)).drew t d y)
  go_upto_region 7 with (fail)
  go_region_held3 (fun W => W.cell? ⟨w1.heap.size, 0, none⟩ = some (.string t) ∧ W.cell? ⟨w1.heap.size, 1, none⟩ = some (.bool d) ∧ W.cell? ⟨w1.heap.size, 2, none⟩ = some (.bool y)) (first | exact three_cells HV3.out | exact three_cells HV2.out | exact three_cells HV1.out | exact three_cells HV0.out) (first
    | ((with_reducible refine Calls.mono HS0.out ?_); rintro e v1 ⟨rfl, hB1⟩; have HD1 := Lib.hid (HD0.out.trans (hB1.mono HD0.out.size)); have HV1 := Lib.hid (HV0.out.below hB1 HV0.out.lt); have HS1 := Lib.hid (KeyEncryptionAlgorithm_IsDeprecated_calls v1 t d y); clear hB1 HS0)
    | ((with_reducible refine Calls.mono HS1.out ?_); rintro e v2 ⟨rfl, hB2⟩; have HD2 := Lib.hid (HD1.out.trans (hB2.mono HD1.out.size)); have HV2 := Lib.hid (HV1.out.below hB2 HV1.out.lt); have HS2 := Lib.hid (KeyEncryptionAlgorithm_IsSymmetric_calls v2 t d y); clear hB2 HS1)
    | ((with_reducible refine Calls.mono HS2.out ?_); rintro e v3 ⟨rfl, hB3⟩; have HD3 := Lib.hid (HD2.out.trans (hB3.mono HD2.out.size)); have HV3 := Lib.hid (HV2.out.below hB3 HV2.out.lt); clear hB3 HS2))
  all_goals
    go_wp2
    exact bodyPost_ret (v := .tuple #[.string t, .bool d, .bool y, .bool ok]) (by kernel_rfl) rfl ⟨HD3.out, t, d, y, ok, HT.out, rfl⟩
set_option maxRecDepth 100000 in
set_option maxHeartbeats 4000000 in
theorem NameFound_2 (w : World) (s : ByteArray) : Calls Try.prog 7 #[.int .i64 2, .string s] w (NFPost (tabs 2) s w) := by
  have HK := Lib.hid (LookupContentEncryption_calls w s)
  go_enter Try.func7, Try.ntmps7
  go_wp2_with fail
  refine HK.out.mono ?_
  intro e w1 he
  have HB := Lib.hid he.1
  obtain ⟨t, d, ok, ht, rfl⟩ := he.told
  have HT := Lib.hid ht
  clear he ht HK
  have HD0 : Hid (Below w.heap.size w (w1.alloc (.cells #[.string t, .bool d] 40)).drew) := Lib.hid (below_alloc' HB.out _).drew
  have HV0 : Hid (Blk (w1.alloc (.cells #[.string t, .bool d] 40)).drew w1.heap.size 40 #[.string t, .bool d]) := Lib.hid (Blk.new w1 40 #[.string t, .bool d])
  have HS0 := Lib.hid (ContentEncryptionAlgorithm_String_calls (w1.alloc (.cells #[.string t, .bool d] 40)).drew t d false)
  go_upto_region 10 with (fail)
  go_region_held3 (fun W => W.cell? ⟨w1.heap.size, 0, none⟩ = some (.string t) ∧ W.cell? ⟨w1.heap.size, 1, none⟩ = some (.bool d)) (first | exact two_cells HV2.out | exact two_cells HV1.out | exact two_cells HV0.out) (first
    | ((with_reducible refine Calls.mono HS0.out ?_); rintro e v1 ⟨rfl, hB1⟩; have HD1 := Lib.hid (HD0.out.trans (hB1.mono HD0.out.size)); have HV1 := Lib.hid (HV0.out.below hB1 HV0.out.lt); have HS1 := Lib.hid (ContentEncryptionAlgorithm_IsDeprecated_calls v1 t d false); clear hB1 HS0)
    | ((with_reducible refine Calls.mono HS1.out ?_); rintro e v2 ⟨rfl, hB2⟩; have HD2 := Lib.hid (HD1.out.trans (hB2.mono HD1.out.size)); have HV2 := Lib.hid (HV1.out.below hB2 HV1.out.lt); clear hB2 HS1))
  all_goals
    go_wp2
    exact bodyPost_ret (v := .tuple #[.string t, .bool d, .bool false, .bool ok]) (by kernel_rfl) rfl ⟨HD2.out, t, d, false, ok, HT.out, rfl⟩
set_option maxRecDepth 100000 in
set_option maxHeartbeats 4000000 in
theorem NameFound_3 (w : World) (s : ByteArray) : Calls Try.prog 7 #[.int .i64 3, .string s] w (NFPost (tabs 3) s w) := by
  have HK := Lib.hid (LookupCompression_calls w s)
  go_enter Try.func7, Try.ntmps7
  go_wp2_with fail
  refine HK.out.mono ?_
  intro e w1 he
  have HB := Lib.hid he.1
  obtain ⟨t, d, ok, ht, rfl⟩ := he.told
  have HT := Lib.hid ht
  clear he ht HK
  have HD0 : Hid (Below w.heap.size w (w1.alloc (.cells #[.string t, .bool d] 43)).drew) := Lib.hid (below_alloc' HB.out _).drew
  have HV0 : Hid (Blk (w1.alloc (.cells #[.string t, .bool d] 43)).drew w1.heap.size 43 #[.string t, .bool d]) := Lib.hid (Blk.new w1 43 #[.string t, .bool d])
  have HS0 := Lib.hid (CompressionAlgorithm_String_calls (w1.alloc (.cells #[.string t, .bool d] 43)).drew t d false)
  go_upto_region 13 with (fail)
  go_region_held3 (fun W => W.cell? ⟨w1.heap.size, 0, none⟩ = some (.string t) ∧ W.cell? ⟨w1.heap.size, 1, none⟩ = some (.bool d)) (first | exact two_cells HV2.out | exact two_cells HV1.out | exact two_cells HV0.out) (first
    | ((with_reducible refine Calls.mono HS0.out ?_); rintro e v1 ⟨rfl, hB1⟩; have HD1 := Lib.hid (HD0.out.trans (hB1.mono HD0.out.size)); have HV1 := Lib.hid (HV0.out.below hB1 HV0.out.lt); have HS1 := Lib.hid (CompressionAlgorithm_IsDeprecated_calls v1 t d false); clear hB1 HS0)
    | ((with_reducible refine Calls.mono HS1.out ?_); rintro e v2 ⟨rfl, hB2⟩; have HD2 := Lib.hid (HD1.out.trans (hB2.mono HD1.out.size)); have HV2 := Lib.hid (HV1.out.below hB2 HV1.out.lt); clear hB2 HS1))
  all_goals
    go_wp2
    exact bodyPost_ret (v := .tuple #[.string t, .bool d, .bool false, .bool ok]) (by kernel_rfl) rfl ⟨HD2.out, t, d, false, ok, HT.out, rfl⟩
set_option maxRecDepth 100000 in
set_option maxHeartbeats 4000000 in
theorem NameFound_4 (w : World) (s : ByteArray) : Calls Try.prog 7 #[.int .i64 4, .string s] w (NFPost (tabs 4) s w) := by
  have HK := Lib.hid (LookupEllipticCurve_calls w s)
  go_enter Try.func7, Try.ntmps7
  go_wp2_with fail
  refine HK.out.mono ?_
  intro e w1 he
  have HB := Lib.hid he.1
  obtain ⟨t, d, ok, ht, rfl⟩ := he.told
  have HT := Lib.hid ht
  clear he ht HK
  have HD0 : Hid (Below w.heap.size w (w1.alloc (.cells #[.string t, .bool d] 46)).drew) := Lib.hid (below_alloc' HB.out _).drew
  have HV0 : Hid (Blk (w1.alloc (.cells #[.string t, .bool d] 46)).drew w1.heap.size 46 #[.string t, .bool d]) := Lib.hid (Blk.new w1 46 #[.string t, .bool d])
  have HS0 := Lib.hid (EllipticCurveAlgorithm_String_calls (w1.alloc (.cells #[.string t, .bool d] 46)).drew t d false)
  go_upto_region 16 with (fail)
  go_region_held3 (fun W => W.cell? ⟨w1.heap.size, 0, none⟩ = some (.string t) ∧ W.cell? ⟨w1.heap.size, 1, none⟩ = some (.bool d)) (first | exact two_cells HV2.out | exact two_cells HV1.out | exact two_cells HV0.out) (first
    | ((with_reducible refine Calls.mono HS0.out ?_); rintro e v1 ⟨rfl, hB1⟩; have HD1 := Lib.hid (HD0.out.trans (hB1.mono HD0.out.size)); have HV1 := Lib.hid (HV0.out.below hB1 HV0.out.lt); have HS1 := Lib.hid (EllipticCurveAlgorithm_IsDeprecated_calls v1 t d false); clear hB1 HS0)
    | ((with_reducible refine Calls.mono HS1.out ?_); rintro e v2 ⟨rfl, hB2⟩; have HD2 := Lib.hid (HD1.out.trans (hB2.mono HD1.out.size)); have HV2 := Lib.hid (HV1.out.below hB2 HV1.out.lt); clear hB2 HS1))
  all_goals
    go_wp2
    exact bodyPost_ret (v := .tuple #[.string t, .bool d, .bool false, .bool ok]) (by kernel_rfl) rfl ⟨HD2.out, t, d, false, ok, HT.out, rfl⟩
set_option maxRecDepth 100000 in
set_option maxHeartbeats 4000000 in
theorem NameFound_5 (w : World) (s : ByteArray) : Calls Try.prog 7 #[.int .i64 5, .string s] w (NFPost (tabs 5) s w) := by
  have HK := Lib.hid (LookupKeyType_calls w s)
  go_enter Try.func7, Try.ntmps7
  go_wp2_with fail
  refine HK.out.mono ?_
  intro e w1 he
  have HB := Lib.hid he.1
  obtain ⟨t, d, ok, ht, rfl⟩ := he.told
  have HT := Lib.hid ht
  clear he ht HK
  have HD0 : Hid (Below w.heap.size w (w1.alloc (.cells #[.string t, .bool d] 49)).drew) := Lib.hid (below_alloc' HB.out _).drew
  have HV0 : Hid (Blk (w1.alloc (.cells #[.string t, .bool d] 49)).drew w1.heap.size 49 #[.string t, .bool d]) := Lib.hid (Blk.new w1 49 #[.string t, .bool d])
  have HS0 := Lib.hid (KeyType_String_calls (w1.alloc (.cells #[.string t, .bool d] 49)).drew t d false)
  go_upto_region 19 with (fail)
  go_region_held3 (fun W => W.cell? ⟨w1.heap.size, 0, none⟩ = some (.string t) ∧ W.cell? ⟨w1.heap.size, 1, none⟩ = some (.bool d)) (first | exact two_cells HV2.out | exact two_cells HV1.out | exact two_cells HV0.out) (first
    | ((with_reducible refine Calls.mono HS0.out ?_); rintro e v1 ⟨rfl, hB1⟩; have HD1 := Lib.hid (HD0.out.trans (hB1.mono HD0.out.size)); have HV1 := Lib.hid (HV0.out.below hB1 HV0.out.lt); have HS1 := Lib.hid (KeyType_IsDeprecated_calls v1 t d false); clear hB1 HS0)
    | ((with_reducible refine Calls.mono HS1.out ?_); rintro e v2 ⟨rfl, hB2⟩; have HD2 := Lib.hid (HD1.out.trans (hB2.mono HD1.out.size)); have HV2 := Lib.hid (HV1.out.below hB2 HV1.out.lt); clear hB2 HS1))
  all_goals
    go_wp2
    exact bodyPost_ret (v := .tuple #[.string t, .bool d, .bool false, .bool ok]) (by kernel_rfl) rfl ⟨HD2.out, t, d, false, ok, HT.out, rfl⟩
theorem NameFound_calls (w : World) (s : ByteArray) (k : Nat) (hk : k < 6) : Calls Try.prog 7 #[.int .i64 k, .string s] w (NFPost (tabs k) s w) := by
  match k, hk with
  | 0, _ => exact NameFound_0 w s
  | 1, _ => exact NameFound_1 w s
  | 2, _ => exact NameFound_2 w s
  | 3, _ => exact NameFound_3 w s
  | 4, _ => exact NameFound_4 w s
  | 5, _ => exact NameFound_5 w s
end Go.Proofs.Ytenneobgjalfhaa.Nm
