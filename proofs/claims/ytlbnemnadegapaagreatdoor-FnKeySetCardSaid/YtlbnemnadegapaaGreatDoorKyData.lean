/- laws.keyData. -/
import Derived.Test.YtlbnemnadegapaaGreatDoorKyLive
import Derived.Deep.LoopGhost
set_option linter.unusedVariables false
set_option linter.unusedSimpArgs false
namespace Go.Proofs.YtlbnemnadegapaaGreatDoor.Ky
open Go.RowKit Go.Proofs.YtlbnemnadegapaaGreatDoor.K Go.Proofs.YtlbnemnadegapaaGreatDoor.Nm
def kdI (v : Nat) : ByteArray := if v % 5 = 2 then ⟨#[97]⟩ else if v % 5 = 3 then ⟨#[98]⟩ else if v % 5 = 4 then ⟨#[99]⟩ else ⟨#[]⟩
def kdH (v : Nat) : Bool := decide (0 < v % 5)
def zData : Value := .agg #[.slice none 0 0, .bool false, .string ByteArray.empty]
theorem infoData : (Tryz.prog.info? 39).map (fun i => (i.zero, i.size, i.bytes)) = some (some zData, 3, 48) := by kernel_rfl
/-- The octets of keys lie in blocks of their own. -/
def KDI (w : World) (ds : List KD) : Prop := ∀ d ∈ ds, ∃ g, d.A = ⟨g, 0, none⟩ ∧ d.n = 4 ∧ d.l.length = 4 ∧ Blk w g 5 (bys d.l).toArray
section
variable {w w' : World} {ds : List KD}
theorem KDI.fr {bad : TypeId → Prop} (h : KDI w ds) (hf : Fr bad w w') (hT : ¬ bad 5) : KDI w' ds := fun d hd => by
  obtain ⟨g, h1, h2, h3, h4⟩ := h d hd
  exact ⟨g, h1, h2, h3, hf.blk h4 hT⟩
theorem kc_one (d : KD) : ∀ u ∈ kc d, u.oneCell' = true := by
  intro u hu
  simp only [kc, List.mem_cons, List.not_mem_nil, or_false] at hu
  rcases hu with rfl | rfl | rfl <;> rfl
theorem KDI.kdl {base : Nat} {v : Value} (h : KDI w ds) (ho : w.ownsRow base 39 3 v ds.length (flat kc ds)) (hn : 0 < ds.length) : ∃ A c, v = .slice (some A) ds.length c ∧ KDL w (some A) ds.length ds := by
  obtain ⟨A, c, rfl, _, hr⟩ := own_form ho
  obtain ⟨ad, rfl, _⟩ := hr.2 hn
  refine ⟨ad, c, rfl, hr, fun d hd => ?_⟩
  obtain ⟨g, h1, h2, h3, h4⟩ := h d hd
  refine ⟨?_, by omega, by omega, by omega⟩
  have := h4.reads 1 4 0 (by simp [bys_length, h3])
  rw [h1, h2]
  simpa [bys_length, h3, List.take_of_length_le] using this
def dataRel (w : World) (l : List UInt8) (j : Nat) (v : Value) (ds : List KD) (wr : World) : Prop := wr.ownsRow w.heap.size 39 3 v ds.length (flat kc ds) ∧ KDI wr ds ∧ ds.length = j ∧ ds.map (fun d => (d.has, d.id)) = (l.take j).map (fun v => (kdH v.toNat, kdI v.toNat)) ∧ Below w.heap.size w wr
def octD (b j : Nat) (x : UInt8) (h : Bool) (i : ByteArray) : KD := ⟨⟨b, 0, none⟩, 4, 4, [7, UInt8.ofNat j, x, 9], h, i⟩
theorem flat_one (ds : List KD) (d : KD) : flat kc ds ++ kc d = flat kc (ds ++ [d]) := by rw [flat_app]; simp [flat]
theorem oct_cells (j : Nat) (x : UInt8) (v : Nat) (hv : v = x.toNat) : (#[.int .u8 7, .int .u8 ((j : Int) % 256), .int .u8 (v : Nat), .int .u8 9] : Array Value) = (bys [7, UInt8.ofNat j, x, 9]).toArray := by
  subst hv
  have : ((UInt8.ofNat j).toNat : Int) = (j : Int) % 256 := by
    have h : (UInt8.ofNat j).toNat = j % 256 := by simp
    rw [h]; rfl
  simp [bys, this]
theorem data_step {w wr W0 w8 : World} {l : List UInt8} {j v : Nat} {ov v' : Value} {ds : List KD} {h : Bool} {i : ByteArray} {temp : Array Value} (H : dataRel w l j ov ds wr) (hb : Below wr.heap.size wr W0) (hjl : j < l.length) (hv : v = l[j].toNat)
    (ho : Blk W0 wr.heap.size 5 #[.int .u8 7, .int .u8 ((j : Int) % 256), .int .u8 (v : Nat), .int .u8 9]) (hh : h = kdH v) (hi : i = kdI v)
    (hown : w8.ownsRow w.heap.size 39 3 v' (ds.length + 1) (flat kc ds ++ kc (octD wr.heap.size j l[j] h i))) (hg : (W0.alloc (.cells temp 39)).grownBy w8 ov.ownBlock) : dataRel w l (j + 1) v' (ds ++ [octD wr.heap.size j l[j] h i]) w8 := by
  obtain ⟨h1, h2, h3, h4, h5⟩ := H
  have hw : (W0.alloc (.cells temp 39)).ownsRow w.heap.size 39 3 ov ds.length (flat kc ds) := own_keep h1 (fun j cs hb' => (hb'.below hb hb'.lt).alloc _)
  have hf := own_fr hw hg
  have hs := h5.size
  refine ⟨by rw [flat_one] at hown; simpa using hown, ?_, by simp [h3], ?_, ?_⟩
  · have k1 : KDI w8 ds := ((h2.fr (Fr.of_below (bad := fun _ => False) hb) (fun e => e)).fr (Fr.alloc (bad := fun _ => False) W0 _) (fun e => e)).fr hf (by decide)
    intro d hd
    rcases List.mem_append.1 hd with hd | hd
    · exact k1 d hd
    · rw [List.mem_singleton.1 hd]
      refine ⟨wr.heap.size, rfl, rfl, rfl, ?_⟩
      show Blk w8 _ _ (bys [7, UInt8.ofNat j, l[j], 9]).toArray
      rw [← oct_cells j l[j] v hv]
      exact hf.blk (ho.alloc _) (by decide)
  · rw [List.map_append, h4, List.take_succ_eq_append_getElem hjl, List.map_append]
    simp [octD, hh, hi, hv]
  · exact ((h5.trans (hb.mono hs)).alloc (Nat.le_trans hs hb.size) _).trans (own_low hw hg (by rw [World.size_alloc]; have := hb.size; omega))
set_option maxRecDepth 100000 in
set_option maxHeartbeats 2000000 in
theorem keyData_calls (w : World) (A : Option Addr) (n c : Nat) (l : List UInt8) (h : Reads w 1 A n (bys l)) (hn : n ≤ 1000) :
    Calls Tryz.prog 5 #[.slice A n c] w fun e w' => ∃ v ds, e = .returned v ∧ w'.ownsRow w.heap.size 39 3 v ds.length (flat kc ds) ∧ KDI w' ds ∧ ds.length = n ∧ ds.map (fun d => (d.has, d.id)) = l.map (fun v => (kdH v.toNat, kdI v.toNat)) ∧ Below w.heap.size w w' := by
  obtain ⟨i0, hi, hz0, hz1, hz2⟩ := info_parts infoData
  have HI := Lib.hid (And.intro hi (And.intro hz0 (And.intro hz1 hz2)))
  have HLN := Lib.hid (show l.length = n by have := h.1; rw [bys_length] at this; omega)
  have HR := Lib.hid h
  have HB0 := Lib.hid (Below.refl w.heap.size w)
  clear h hi hz0 hz1 hz2
  go_enter Tryz.func5, Tryz.ntmps5
  go_wp2
  go_loopg [9, 3] n (fun q u u3 wr => ∃ (j : Nat) (OA : Option Addr) (Oc : Nat) (ds : List KD), q + j = n ∧ u = .int .i64 (j : Nat) ∧ u3 = .slice OA j Oc ∧ Hid (dataRel w l j u3 ds wr))
  case atStart => exact ⟨0, none, 0, [], rfl, rfl, rfl, Lib.hid ⟨World.ownsRow_nil _ _ _ _, (fun d hd => by simp at hd), rfl, rfl, HB0.out⟩⟩
  case round =>
    obtain ⟨j, OA, Oc, ds, hqj, rfl, rfl, HH⟩ := hrel
    by_cases hj : j < n
    · have hjl : j < l.length := by have := HLN.out; omega
      obtain ⟨v, hv⟩ : ∃ v, v = l[j].toNat := ⟨_, rfl⟩
      have hv8 : v < 256 := by rw [hv]; exact UInt8.toNat_lt _
      obtain ⟨ad, hA, c0⟩ : ∃ ad, A = some ad ∧ wr.cell? (ad.add j) = some (.int .u8 (v : Nat)) := by
        obtain ⟨ad, u, e, hu, hc⟩ := Reads.at_ (HR.out.below HH.out.2.2.2.2 (Nat.le_refl _)) hj
        refine ⟨ad, e, ?_⟩
        rw [hc, ← hu, hv]
        simp [bys, hjl]
      subst hA
      have HV := Lib.hid hv
      clear hv
      by_cases h5 : v % 5 = 0
      · have hm : ((v : Nat) : Int).tmod 5 = 0 := by rw [Int.tmod_eq_emod_of_nonneg (by omega)]; omega
        have HM := Lib.hid h5
        clear h5
        go_wp2_with (at_builtin; refine wpList_append_own _ rfl _ _ 25 rfl w.heap.size 39 i0 zData 3 48 Tryz.underlying25 HI.out.1 HI.out.2.1 HI.out.2.2.1 HI.out.2.2.2 rfl (by decide) _ ds.length (flat kc ds) rfl (own_keep HH.out.1 (fun j cs hb' => (hb'.below (below_alloc' (below_alloc' (Below.refl _ _) _) _) hb'.lt).alloc _)) ⟨wr.heap.size + 1 + 1, 0, none⟩ 1 1 (kc (octD wr.heap.size j l[j] false ⟨#[]⟩)) rfl rfl (fun k u hu => by rw [show (⟨wr.heap.size + 1 + 1, 0, none⟩ : Addr).add k = ⟨wr.heap.size + 1 + 1, k, none⟩ from by unfold Addr.add; by_cases hk0 : k = 0 <;> simp [hk0]]; have hb := Blk.new ((wr.alloc (.cells #[.int .u8 7, .int .u8 ((j : Int) % 256), .int .u8 (v : Nat), .int .u8 9] 5)).alloc (.cells #[.slice (some ⟨wr.heap.size, 0, none⟩) 4 4, .bool false, .string ⟨#[]⟩] 39)) 39 #[.slice (some ⟨wr.heap.size, 0, none⟩) 4 4, .bool false, .string ⟨#[]⟩]; have hc := hb.cell k; rw [show ((wr.alloc (.cells #[.int .u8 7, .int .u8 ((j : Int) % 256), .int .u8 (v : Nat), .int .u8 9] 5)).alloc (.cells #[.slice (some ⟨wr.heap.size, 0, none⟩) 4 4, .bool false, .string ⟨#[]⟩] 39)).heap.size = wr.heap.size + 1 + 1 from by simp [World.size_alloc, World.drew]] at hc; refine hc.trans ?_; simpa [kc, octD] using hu) (kc_one _) (by have := HH.out.2.2.1; unfold maxLen; omega) (by have := HH.out.2.2.1; omega) (by have := HH.out.2.2.2.2.size; have hz : (((wr.alloc (.cells #[.int .u8 7, .int .u8 ((j : Int) % 256), .int .u8 (v : Nat), .int .u8 9] 5)).alloc (.cells #[.slice (some ⟨wr.heap.size, 0, none⟩) 4 4, .bool false, .string ⟨#[]⟩] 39)).alloc (.cells #[.slice (some ⟨wr.heap.size, 0, none⟩) 4 4, .bool false, .string ⟨#[]⟩] 39)).heap.size = wr.heap.size + 1 + 1 + 1 := (by simp [World.size_alloc, World.drew]); refine Nat.le_trans ?_ (Nat.le_of_eq hz.symm); omega) ?_; intro v2 w8 hown hg8 _; obtain ⟨OA2, Oc2, hv2⟩ := own_slice hown; subst hv2; have HF := Lib.hid (data_step HH.out (below_alloc' (below_alloc' (Below.refl _ _) _) _) hjl HV.out ((Blk.new wr 5 _).alloc _) (by simp [kdH, HM.out]) (by simp [kdI, HM.out]) hown hg8); clear hown hg8)
        go_roundg (n - (j + 1))
        case measure => omega
        case rel => exact ⟨j + 1, OA2, Oc2, _, by omega, by go_num, by rw [HH.out.2.2.1], HF⟩
      have h14 : v % 5 = 1 ∨ v % 5 = 2 ∨ v % 5 = 3 ∨ v % 5 = 4 := by omega
      clear h5
      rcases h14 with h5 | h5 | h5 | h5
      · have hm : ((v : Nat) : Int).tmod 5 = 1 := by rw [Int.tmod_eq_emod_of_nonneg (by omega)]; omega
        have HM := Lib.hid h5
        clear h5
        go_wp2_with fail
        go_region
        go_wp2_with (at_builtin; refine wpList_append_own _ rfl _ _ 25 rfl w.heap.size 39 i0 zData 3 48 Tryz.underlying25 HI.out.1 HI.out.2.1 HI.out.2.2.1 HI.out.2.2.2 rfl (by decide) _ ds.length (flat kc ds) rfl (own_keep HH.out.1 (fun j cs hb' => (hb'.below ((below_alloc' (below_alloc' (below_alloc' (Below.refl _ _) _) _) _).drew) hb'.lt).alloc _)) ⟨wr.heap.size + 1 + 1 + 1, 0, none⟩ 1 1 (kc (octD wr.heap.size j l[j] true ⟨#[]⟩)) rfl rfl (fun k u hu => by rw [show (⟨wr.heap.size + 1 + 1 + 1, 0, none⟩ : Addr).add k = ⟨wr.heap.size + 1 + 1 + 1, k, none⟩ from by unfold Addr.add; by_cases hk0 : k = 0 <;> simp [hk0]]; have hb := Blk.new ((((wr.alloc (.cells #[.int .u8 7, .int .u8 ((j : Int) % 256), .int .u8 (v : Nat), .int .u8 9] 5)).alloc (.cells #[.slice (some ⟨wr.heap.size, 0, none⟩) 4 4, .bool true, .string ⟨#[]⟩] 39)).alloc (.cells #[.string ⟨#[]⟩, .string ⟨#[97]⟩, .string ⟨#[98]⟩, .string ⟨#[99]⟩] 9)).drew) 39 #[.slice (some ⟨wr.heap.size, 0, none⟩) 4 4, .bool true, .string ⟨#[]⟩]; have hc := hb.cell k; rw [show ((((wr.alloc (.cells #[.int .u8 7, .int .u8 ((j : Int) % 256), .int .u8 (v : Nat), .int .u8 9] 5)).alloc (.cells #[.slice (some ⟨wr.heap.size, 0, none⟩) 4 4, .bool true, .string ⟨#[]⟩] 39)).alloc (.cells #[.string ⟨#[]⟩, .string ⟨#[97]⟩, .string ⟨#[98]⟩, .string ⟨#[99]⟩] 9)).drew).heap.size = wr.heap.size + 1 + 1 + 1 from by simp [World.size_alloc, World.drew]] at hc; refine hc.trans ?_; simpa [kc, octD] using hu) (kc_one _) (by have := HH.out.2.2.1; unfold maxLen; omega) (by have := HH.out.2.2.1; omega) (by have := HH.out.2.2.2.2.size; have hz : (((((wr.alloc (.cells #[.int .u8 7, .int .u8 ((j : Int) % 256), .int .u8 (v : Nat), .int .u8 9] 5)).alloc (.cells #[.slice (some ⟨wr.heap.size, 0, none⟩) 4 4, .bool true, .string ⟨#[]⟩] 39)).alloc (.cells #[.string ⟨#[]⟩, .string ⟨#[97]⟩, .string ⟨#[98]⟩, .string ⟨#[99]⟩] 9)).drew).alloc (.cells #[.slice (some ⟨wr.heap.size, 0, none⟩) 4 4, .bool true, .string ⟨#[]⟩] 39)).heap.size = wr.heap.size + 1 + 1 + 1 + 1 := (by simp [World.size_alloc, World.drew]); refine Nat.le_trans ?_ (Nat.le_of_eq hz.symm); omega) ?_; intro v2 w8 hown hg8 _; obtain ⟨OA2, Oc2, hv2⟩ := own_slice hown; subst hv2; have HF := Lib.hid (data_step HH.out ((below_alloc' (below_alloc' (below_alloc' (Below.refl _ _) _) _) _).drew) hjl HV.out (((Blk.new wr 5 _).alloc _).alloc _) (by simp [kdH, HM.out]) (by simp [kdI, HM.out]) hown hg8); clear hown hg8)
        go_roundg (n - (j + 1))
        case measure => omega
        case rel => exact ⟨j + 1, OA2, Oc2, _, by omega, by go_num, by rw [HH.out.2.2.1], HF⟩
      · have hm : ((v : Nat) : Int).tmod 5 = 2 := by rw [Int.tmod_eq_emod_of_nonneg (by omega)]; omega
        have HM := Lib.hid h5
        clear h5
        go_wp2_with fail
        go_region
        go_wp2_with (at_builtin; refine wpList_append_own _ rfl _ _ 25 rfl w.heap.size 39 i0 zData 3 48 Tryz.underlying25 HI.out.1 HI.out.2.1 HI.out.2.2.1 HI.out.2.2.2 rfl (by decide) _ ds.length (flat kc ds) rfl (own_keep HH.out.1 (fun j cs hb' => (hb'.below ((below_alloc' (below_alloc' (below_alloc' (Below.refl _ _) _) _) _).drew) hb'.lt).alloc _)) ⟨wr.heap.size + 1 + 1 + 1, 0, none⟩ 1 1 (kc (octD wr.heap.size j l[j] true ⟨#[97]⟩)) rfl rfl (fun k u hu => by rw [show (⟨wr.heap.size + 1 + 1 + 1, 0, none⟩ : Addr).add k = ⟨wr.heap.size + 1 + 1 + 1, k, none⟩ from by unfold Addr.add; by_cases hk0 : k = 0 <;> simp [hk0]]; have hb := Blk.new ((((wr.alloc (.cells #[.int .u8 7, .int .u8 ((j : Int) % 256), .int .u8 (v : Nat), .int .u8 9] 5)).alloc (.cells #[.slice (some ⟨wr.heap.size, 0, none⟩) 4 4, .bool true, .string ⟨#[97]⟩] 39)).alloc (.cells #[.string ⟨#[]⟩, .string ⟨#[97]⟩, .string ⟨#[98]⟩, .string ⟨#[99]⟩] 9)).drew) 39 #[.slice (some ⟨wr.heap.size, 0, none⟩) 4 4, .bool true, .string ⟨#[97]⟩]; have hc := hb.cell k; rw [show ((((wr.alloc (.cells #[.int .u8 7, .int .u8 ((j : Int) % 256), .int .u8 (v : Nat), .int .u8 9] 5)).alloc (.cells #[.slice (some ⟨wr.heap.size, 0, none⟩) 4 4, .bool true, .string ⟨#[97]⟩] 39)).alloc (.cells #[.string ⟨#[]⟩, .string ⟨#[97]⟩, .string ⟨#[98]⟩, .string ⟨#[99]⟩] 9)).drew).heap.size = wr.heap.size + 1 + 1 + 1 from by simp [World.size_alloc, World.drew]] at hc; refine hc.trans ?_; simpa [kc, octD] using hu) (kc_one _) (by have := HH.out.2.2.1; unfold maxLen; omega) (by have := HH.out.2.2.1; omega) (by have := HH.out.2.2.2.2.size; have hz : (((((wr.alloc (.cells #[.int .u8 7, .int .u8 ((j : Int) % 256), .int .u8 (v : Nat), .int .u8 9] 5)).alloc (.cells #[.slice (some ⟨wr.heap.size, 0, none⟩) 4 4, .bool true, .string ⟨#[97]⟩] 39)).alloc (.cells #[.string ⟨#[]⟩, .string ⟨#[97]⟩, .string ⟨#[98]⟩, .string ⟨#[99]⟩] 9)).drew).alloc (.cells #[.slice (some ⟨wr.heap.size, 0, none⟩) 4 4, .bool true, .string ⟨#[97]⟩] 39)).heap.size = wr.heap.size + 1 + 1 + 1 + 1 := (by simp [World.size_alloc, World.drew]); refine Nat.le_trans ?_ (Nat.le_of_eq hz.symm); omega) ?_; intro v2 w8 hown hg8 _; obtain ⟨OA2, Oc2, hv2⟩ := own_slice hown; subst hv2; have HF := Lib.hid (data_step HH.out ((below_alloc' (below_alloc' (below_alloc' (Below.refl _ _) _) _) _).drew) hjl HV.out (((Blk.new wr 5 _).alloc _).alloc _) (by simp [kdH, HM.out]) (by simp [kdI, HM.out]) hown hg8); clear hown hg8)
        go_roundg (n - (j + 1))
        case measure => omega
        case rel => exact ⟨j + 1, OA2, Oc2, _, by omega, by go_num, by rw [HH.out.2.2.1], HF⟩
      · have hm : ((v : Nat) : Int).tmod 5 = 3 := by rw [Int.tmod_eq_emod_of_nonneg (by omega)]; omega
        have HM := Lib.hid h5
        clear h5
        go_wp2_with fail
        go_region
        go_wp2_with (at_builtin; refine wpList_append_own _ rfl _ _ 25 rfl w.heap.size 39 i0 zData 3 48 Tryz.underlying25 HI.out.1 HI.out.2.1 HI.out.2.2.1 HI.out.2.2.2 rfl (by decide) _ ds.length (flat kc ds) rfl (own_keep HH.out.1 (fun j cs hb' => (hb'.below ((below_alloc' (below_alloc' (below_alloc' (Below.refl _ _) _) _) _).drew) hb'.lt).alloc _)) ⟨wr.heap.size + 1 + 1 + 1, 0, none⟩ 1 1 (kc (octD wr.heap.size j l[j] true ⟨#[98]⟩)) rfl rfl (fun k u hu => by rw [show (⟨wr.heap.size + 1 + 1 + 1, 0, none⟩ : Addr).add k = ⟨wr.heap.size + 1 + 1 + 1, k, none⟩ from by unfold Addr.add; by_cases hk0 : k = 0 <;> simp [hk0]]; have hb := Blk.new ((((wr.alloc (.cells #[.int .u8 7, .int .u8 ((j : Int) % 256), .int .u8 (v : Nat), .int .u8 9] 5)).alloc (.cells #[.slice (some ⟨wr.heap.size, 0, none⟩) 4 4, .bool true, .string ⟨#[98]⟩] 39)).alloc (.cells #[.string ⟨#[]⟩, .string ⟨#[97]⟩, .string ⟨#[98]⟩, .string ⟨#[99]⟩] 9)).drew) 39 #[.slice (some ⟨wr.heap.size, 0, none⟩) 4 4, .bool true, .string ⟨#[98]⟩]; have hc := hb.cell k; rw [show ((((wr.alloc (.cells #[.int .u8 7, .int .u8 ((j : Int) % 256), .int .u8 (v : Nat), .int .u8 9] 5)).alloc (.cells #[.slice (some ⟨wr.heap.size, 0, none⟩) 4 4, .bool true, .string ⟨#[98]⟩] 39)).alloc (.cells #[.string ⟨#[]⟩, .string ⟨#[97]⟩, .string ⟨#[98]⟩, .string ⟨#[99]⟩] 9)).drew).heap.size = wr.heap.size + 1 + 1 + 1 from by simp [World.size_alloc, World.drew]] at hc; refine hc.trans ?_; simpa [kc, octD] using hu) (kc_one _) (by have := HH.out.2.2.1; unfold maxLen; omega) (by have := HH.out.2.2.1; omega) (by have := HH.out.2.2.2.2.size; have hz : (((((wr.alloc (.cells #[.int .u8 7, .int .u8 ((j : Int) % 256), .int .u8 (v : Nat), .int .u8 9] 5)).alloc (.cells #[.slice (some ⟨wr.heap.size, 0, none⟩) 4 4, .bool true, .string ⟨#[98]⟩] 39)).alloc (.cells #[.string ⟨#[]⟩, .string ⟨#[97]⟩, .string ⟨#[98]⟩, .string ⟨#[99]⟩] 9)).drew).alloc (.cells #[.slice (some ⟨wr.heap.size, 0, none⟩) 4 4, .bool true, .string ⟨#[98]⟩] 39)).heap.size = wr.heap.size + 1 + 1 + 1 + 1 := (by simp [World.size_alloc, World.drew]); refine Nat.le_trans ?_ (Nat.le_of_eq hz.symm); omega) ?_; intro v2 w8 hown hg8 _; obtain ⟨OA2, Oc2, hv2⟩ := own_slice hown; subst hv2; have HF := Lib.hid (data_step HH.out ((below_alloc' (below_alloc' (below_alloc' (Below.refl _ _) _) _) _).drew) hjl HV.out (((Blk.new wr 5 _).alloc _).alloc _) (by simp [kdH, HM.out]) (by simp [kdI, HM.out]) hown hg8); clear hown hg8)
        go_roundg (n - (j + 1))
        case measure => omega
        case rel => exact ⟨j + 1, OA2, Oc2, _, by omega, by go_num, by rw [HH.out.2.2.1], HF⟩
      · have hm : ((v : Nat) : Int).tmod 5 = 4 := by rw [Int.tmod_eq_emod_of_nonneg (by omega)]; omega
        have HM := Lib.hid h5
        clear h5
        go_wp2_with fail
        go_region
        go_wp2_with (at_builtin; refine wpList_append_own _ rfl _ _ 25 rfl w.heap.size 39 i0 zData 3 48 Tryz.underlying25 HI.out.1 HI.out.2.1 HI.out.2.2.1 HI.out.2.2.2 rfl (by decide) _ ds.length (flat kc ds) rfl (own_keep HH.out.1 (fun j cs hb' => (hb'.below ((below_alloc' (below_alloc' (below_alloc' (Below.refl _ _) _) _) _).drew) hb'.lt).alloc _)) ⟨wr.heap.size + 1 + 1 + 1, 0, none⟩ 1 1 (kc (octD wr.heap.size j l[j] true ⟨#[99]⟩)) rfl rfl (fun k u hu => by rw [show (⟨wr.heap.size + 1 + 1 + 1, 0, none⟩ : Addr).add k = ⟨wr.heap.size + 1 + 1 + 1, k, none⟩ from by unfold Addr.add; by_cases hk0 : k = 0 <;> simp [hk0]]; have hb := Blk.new ((((wr.alloc (.cells #[.int .u8 7, .int .u8 ((j : Int) % 256), .int .u8 (v : Nat), .int .u8 9] 5)).alloc (.cells #[.slice (some ⟨wr.heap.size, 0, none⟩) 4 4, .bool true, .string ⟨#[99]⟩] 39)).alloc (.cells #[.string ⟨#[]⟩, .string ⟨#[97]⟩, .string ⟨#[98]⟩, .string ⟨#[99]⟩] 9)).drew) 39 #[.slice (some ⟨wr.heap.size, 0, none⟩) 4 4, .bool true, .string ⟨#[99]⟩]; have hc := hb.cell k; rw [show ((((wr.alloc (.cells #[.int .u8 7, .int .u8 ((j : Int) % 256), .int .u8 (v : Nat), .int .u8 9] 5)).alloc (.cells #[.slice (some ⟨wr.heap.size, 0, none⟩) 4 4, .bool true, .string ⟨#[99]⟩] 39)).alloc (.cells #[.string ⟨#[]⟩, .string ⟨#[97]⟩, .string ⟨#[98]⟩, .string ⟨#[99]⟩] 9)).drew).heap.size = wr.heap.size + 1 + 1 + 1 from by simp [World.size_alloc, World.drew]] at hc; refine hc.trans ?_; simpa [kc, octD] using hu) (kc_one _) (by have := HH.out.2.2.1; unfold maxLen; omega) (by have := HH.out.2.2.1; omega) (by have := HH.out.2.2.2.2.size; have hz : (((((wr.alloc (.cells #[.int .u8 7, .int .u8 ((j : Int) % 256), .int .u8 (v : Nat), .int .u8 9] 5)).alloc (.cells #[.slice (some ⟨wr.heap.size, 0, none⟩) 4 4, .bool true, .string ⟨#[99]⟩] 39)).alloc (.cells #[.string ⟨#[]⟩, .string ⟨#[97]⟩, .string ⟨#[98]⟩, .string ⟨#[99]⟩] 9)).drew).alloc (.cells #[.slice (some ⟨wr.heap.size, 0, none⟩) 4 4, .bool true, .string ⟨#[99]⟩] 39)).heap.size = wr.heap.size + 1 + 1 + 1 + 1 := (by simp [World.size_alloc, World.drew]); refine Nat.le_trans ?_ (Nat.le_of_eq hz.symm); omega) ?_; intro v2 w8 hown hg8 _; obtain ⟨OA2, Oc2, hv2⟩ := own_slice hown; subst hv2; have HF := Lib.hid (data_step HH.out ((below_alloc' (below_alloc' (below_alloc' (Below.refl _ _) _) _) _).drew) hjl HV.out (((Blk.new wr 5 _).alloc _).alloc _) (by simp [kdH, HM.out]) (by simp [kdI, HM.out]) hown hg8); clear hown hg8)
        go_roundg (n - (j + 1))
        case measure => omega
        case rel => exact ⟨j + 1, OA2, Oc2, _, by omega, by go_num, by rw [HH.out.2.2.1], HF⟩
    · have hlt : ¬ (j : Int) < (n : Int) := by omega
      go_wp2_with fail
      go_ret
      have hjn : j = n := by omega
      refine ⟨_, rfl, ds, HH.out.1, HH.out.2.1, by rw [HH.out.2.2.1, hjn], ?_, HH.out.2.2.2.2⟩
      rw [HH.out.2.2.2.1, List.take_of_length_le (by have := HLN.out; omega)]
end
end Go.Proofs.YtlbnemnadegapaaGreatDoor.Ky
