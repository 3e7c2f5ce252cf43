/- The lists of algorithms as the package gives them: they hold just what is built in; no condition. Printed by gen_lists.py. -/
import Derived.Test.YtenneobgjalfhaaNmLess
import Derived.Test.YtenneobgjalfhaaNmRange
set_option linter.unusedVariables false
set_option linter.unusedSimpArgs false
namespace Go.Proofs.Ytenneobgjalfhaa.So
open Go.RowKit Go.Proofs.Ytenneobgjalfhaa.K Go.Proofs.Ytenneobgjalfhaa.Nm Go.Lib
/-- A slice that holds just the elements of tab. -/
def LPost {α : Type} (f : α → List Value) (T : TypeId) (tab : List α) (w : World) (e : Ending) (w' : World) : Prop :=
  ∃ (b n c : Nat) (xs : List α) (rest : List Value), e = .returned (.slice (some ⟨b, 0, none⟩) n c) ∧ xs.length = n ∧ n = tab.length ∧ (∀ p, p ∈ xs ↔ p ∈ tab) ∧ Below w.heap.size w w' ∧ w.heap.size ≤ b ∧ Blk w' b T (xs.flatMap f ++ rest).toArray
theorem sl_of {t e : TypeId} {sz by' ke n : Nat} (h1 : (Try.prog.info? t).map (·.desc) = some (.slice e)) (h2 : (Try.prog.info? e).map (fun i => (i.size, i.hasPointers, i.bytes)) = some (sz, true, by')) (hpk : Try.prog.packed t = false)
    (hke : ∀ w, (Extern.Rtype.kind e).run Try.prog w = .ok ke w) (hk : ke ≠ 24) (hb : by' ≠ 8) (hn : 2 ≤ n) : ∃ i ie, Sl t e i ie ke n ∧ ie.size = sz := by
  obtain ⟨i, hi, e1⟩ := Option.map_eq_some_iff.1 h1
  obtain ⟨ie, hie, e2⟩ := Option.map_eq_some_iff.1 h2
  injection e2 with e2 e3
  injection e3 with e3 e4
  refine ⟨i, ie, ⟨hi, e1, hpk, hie, hke, ?_⟩, e2⟩
  have a0 : (n == 0) = false := by simp; omega
  have a1 : (n == 1) = false := by simp; omega
  have a2 : (ie.bytes == 8) = false := by simp; omega
  have a3 : (ke == 24) = false := by simpa using hk
  unfold swapperK
  simp [a0, a1, a2, a3, e3]
theorem keepsCompressionAlgorithm {w0 : World} {blk vc n c : Nat} {L0 : List (ByteArray × Bool)} {rest : List Value} {ie : TypeInfo} (hcap : Blk w0 vc 59 #[.slice (some ⟨blk, 0, none⟩) n c]) (hvb : vc ≠ blk) (hblk : blk < w0.heap.size) (hn : n < 1000)
    (hie : Try.prog.info? 43 = some ie) (hs : ie.size = 2) :
    Keeps 45 71 #[.pointer (some ⟨vc, 0, none⟩)] #[.slice (some ⟨blk, 0, none⟩) n c, typeHandle Try.prog 43] (Iv f2 w0 blk 43 n L0 rest) blk w0.heap.size n where
  size := fun W h => h.gr.size
  row := hblk
  most := hn
  grow := fun W W' r h hg hr => h.grow hblk hg hr
  drew := fun W h => h.drew
  enters := fun a W => by kernel_rfl
  less := fun W i j h hi hj => lessCompressionAlgorithm hcap hvb hblk h hn i j hi hj
  swap := fun W i j h hi hj => swap2 hie hs (fun w => by kernel_rfl) h c i j hi hj
set_option maxRecDepth 100000 in
set_option maxHeartbeats 4000000 in
theorem CompressionAlgorithms_calls (w : World) : Calls Try.prog 35 #[] w (LPost f2 43 tabCompression w) := by
  obtain ⟨i, ie, hsl, hsz⟩ := sl_of (t := 59) (e := 43) (sz := 2) (by' := 24) (ke := 25) (n := 2) (by kernel_rfl) (by kernel_rfl) (by kernel_rfl) (fun w => by kernel_rfl) (by decide) (by decide) (by decide)
  have HSL := Lib.hid (And.intro hsl hsz)
  have HBI := Lib.hid (builtinCompressionAlgorithms_calls w)
  clear hsl hsz
  go_enter Try.func35, Try.ntmps35
  go_wp2_with fail
  refine HBI.out.mono ?_
  rintro e w1 ⟨rfl, hB, hb⟩
  have HB := Lib.hid hB
  have hbl : w.heap.size < w1.heap.size := hb.lt
  have hcap := Blk.new w1 59 #[.slice (some ⟨w.heap.size, 0, none⟩) 2 2]
  have hblk : w.heap.size < (w1.alloc (.cells #[.slice (some ⟨w.heap.size, 0, none⟩) 2 2] 59)).heap.size := by simp; omega
  have hI : Iv f2 (w1.alloc (.cells #[.slice (some ⟨w.heap.size, 0, none⟩) 2 2] 59)) w.heap.size 43 2 tabCompression [] (w1.alloc (.cells #[.slice (some ⟨w.heap.size, 0, none⟩) 2 2] 59)) :=
    ⟨World.grownBy.refl _ _, tabCompression, rfl, fun _ => Iff.rfl, hb.alloc _⟩
  have HC := Lib.hid (Slice_calls HSL.out.1 (some ⟨w.heap.size, 0, none⟩) 2 (keepsCompressionAlgorithm hcap (by omega) hblk (by decide) HSL.out.1.hie HSL.out.2) (by decide) (by decide) _ hI)
  have HCP := Lib.hid hcap
  clear hcap hblk hI hb hB HBI
  go_wp2_with fail
  refine HC.out.mono ?_
  rintro e w2 ⟨rfl, hI⟩
  have HI := Lib.hid hI
  have cv : w2.cell? ⟨w1.heap.size, 0, none⟩ = some (.slice (some ⟨w.heap.size, 0, none⟩) 2 2) := by rw [(HCP.out.grown hI.gr (by intro e; injection e with e; omega)).cell]; rfl
  clear hI HC HCP
  go_wp2
  go_ret
  obtain ⟨xs, hx, hm, hb⟩ := HI.out.ex
  refine ⟨w.heap.size, 2, 2, xs, [], rfl, hx, rfl, hm, ?_, Nat.le_refl _, hb⟩
  exact ⟨HI.out.gr.os.trans HB.out.os, HI.out.gr.tape.trans HB.out.tape, HI.out.gr.output.trans HB.out.output, Nat.le_trans (by have := HB.out.size; simp; omega) HI.out.gr.size, fun k hk => (HI.out.gr.block k (by simp; omega) (by intro e; injection e with e; omega)).trans (((below_alloc' HB.out _).block k hk))⟩
theorem keepsEllipticCurveAlgorithm {w0 : World} {blk vc n c : Nat} {L0 : List (ByteArray × Bool)} {rest : List Value} {ie : TypeInfo} (hcap : Blk w0 vc 61 #[.slice (some ⟨blk, 0, none⟩) n c]) (hvb : vc ≠ blk) (hblk : blk < w0.heap.size) (hn : n < 1000)
    (hie : Try.prog.info? 46 = some ie) (hs : ie.size = 2) :
    Keeps 47 71 #[.pointer (some ⟨vc, 0, none⟩)] #[.slice (some ⟨blk, 0, none⟩) n c, typeHandle Try.prog 46] (Iv f2 w0 blk 46 n L0 rest) blk w0.heap.size n where
  size := fun W h => h.gr.size
  row := hblk
  most := hn
  grow := fun W W' r h hg hr => h.grow hblk hg hr
  drew := fun W h => h.drew
  enters := fun a W => by kernel_rfl
  less := fun W i j h hi hj => lessEllipticCurveAlgorithm hcap hvb hblk h hn i j hi hj
  swap := fun W i j h hi hj => swap2 hie hs (fun w => by kernel_rfl) h c i j hi hj
set_option maxRecDepth 100000 in
set_option maxHeartbeats 4000000 in
theorem EllipticCurveAlgorithms_calls (w : World) : Calls Try.prog 36 #[] w (LPost f2 46 tabEllipticCurve w) := by
  obtain ⟨i, ie, hsl, hsz⟩ := sl_of (t := 61) (e := 46) (sz := 2) (by' := 24) (ke := 25) (n := 7) (by kernel_rfl) (by kernel_rfl) (by kernel_rfl) (fun w => by kernel_rfl) (by decide) (by decide) (by decide)
  have HSL := Lib.hid (And.intro hsl hsz)
  have HBI := Lib.hid (builtinEllipticCurveAlgorithms_calls w)
  clear hsl hsz
  go_enter Try.func36, Try.ntmps36
  go_wp2_with fail
  refine HBI.out.mono ?_
  rintro e w1 ⟨rfl, hB, hb⟩
  have HB := Lib.hid hB
  have hbl : w.heap.size < w1.heap.size := hb.lt
  have hcap := Blk.new w1 61 #[.slice (some ⟨w.heap.size, 0, none⟩) 7 7]
  have hblk : w.heap.size < (w1.alloc (.cells #[.slice (some ⟨w.heap.size, 0, none⟩) 7 7] 61)).heap.size := by simp; omega
  have hI : Iv f2 (w1.alloc (.cells #[.slice (some ⟨w.heap.size, 0, none⟩) 7 7] 61)) w.heap.size 46 7 tabEllipticCurve [] (w1.alloc (.cells #[.slice (some ⟨w.heap.size, 0, none⟩) 7 7] 61)) :=
    ⟨World.grownBy.refl _ _, tabEllipticCurve, rfl, fun _ => Iff.rfl, hb.alloc _⟩
  have HC := Lib.hid (Slice_calls HSL.out.1 (some ⟨w.heap.size, 0, none⟩) 7 (keepsEllipticCurveAlgorithm hcap (by omega) hblk (by decide) HSL.out.1.hie HSL.out.2) (by decide) (by decide) _ hI)
  have HCP := Lib.hid hcap
  clear hcap hblk hI hb hB HBI
  go_wp2_with fail
  refine HC.out.mono ?_
  rintro e w2 ⟨rfl, hI⟩
  have HI := Lib.hid hI
  have cv : w2.cell? ⟨w1.heap.size, 0, none⟩ = some (.slice (some ⟨w.heap.size, 0, none⟩) 7 7) := by rw [(HCP.out.grown hI.gr (by intro e; injection e with e; omega)).cell]; rfl
  clear hI HC HCP
  go_wp2
  go_ret
  obtain ⟨xs, hx, hm, hb⟩ := HI.out.ex
  refine ⟨w.heap.size, 7, 7, xs, [], rfl, hx, rfl, hm, ?_, Nat.le_refl _, hb⟩
  exact ⟨HI.out.gr.os.trans HB.out.os, HI.out.gr.tape.trans HB.out.tape, HI.out.gr.output.trans HB.out.output, Nat.le_trans (by have := HB.out.size; simp; omega) HI.out.gr.size, fun k hk => (HI.out.gr.block k (by simp; omega) (by intro e; injection e with e; omega)).trans (((below_alloc' HB.out _).block k hk))⟩
theorem keepsKeyType {w0 : World} {blk vc n c : Nat} {L0 : List (ByteArray × Bool)} {rest : List Value} {ie : TypeInfo} (hcap : Blk w0 vc 63 #[.slice (some ⟨blk, 0, none⟩) n c]) (hvb : vc ≠ blk) (hblk : blk < w0.heap.size) (hn : n < 1000)
    (hie : Try.prog.info? 49 = some ie) (hs : ie.size = 2) :
    Keeps 49 71 #[.pointer (some ⟨vc, 0, none⟩)] #[.slice (some ⟨blk, 0, none⟩) n c, typeHandle Try.prog 49] (Iv f2 w0 blk 49 n L0 rest) blk w0.heap.size n where
  size := fun W h => h.gr.size
  row := hblk
  most := hn
  grow := fun W W' r h hg hr => h.grow hblk hg hr
  drew := fun W h => h.drew
  enters := fun a W => by kernel_rfl
  less := fun W i j h hi hj => lessKeyType hcap hvb hblk h hn i j hi hj
  swap := fun W i j h hi hj => swap2 hie hs (fun w => by kernel_rfl) h c i j hi hj
set_option maxRecDepth 100000 in
set_option maxHeartbeats 4000000 in
theorem KeyTypes_calls (w : World) : Calls Try.prog 37 #[] w (LPost f2 49 tabKeyType w) := by
  obtain ⟨i, ie, hsl, hsz⟩ := sl_of (t := 63) (e := 49) (sz := 2) (by' := 24) (ke := 25) (n := 4) (by kernel_rfl) (by kernel_rfl) (by kernel_rfl) (fun w => by kernel_rfl) (by decide) (by decide) (by decide)
  have HSL := Lib.hid (And.intro hsl hsz)
  have HBI := Lib.hid (builtinKeyTypes_calls w)
  clear hsl hsz
  go_enter Try.func37, Try.ntmps37
  go_wp2_with fail
  refine HBI.out.mono ?_
  rintro e w1 ⟨rfl, hB, hb⟩
  have HB := Lib.hid hB
  have hbl : w.heap.size < w1.heap.size := hb.lt
  have hcap := Blk.new w1 63 #[.slice (some ⟨w.heap.size, 0, none⟩) 4 4]
  have hblk : w.heap.size < (w1.alloc (.cells #[.slice (some ⟨w.heap.size, 0, none⟩) 4 4] 63)).heap.size := by simp; omega
  have hI : Iv f2 (w1.alloc (.cells #[.slice (some ⟨w.heap.size, 0, none⟩) 4 4] 63)) w.heap.size 49 4 tabKeyType [] (w1.alloc (.cells #[.slice (some ⟨w.heap.size, 0, none⟩) 4 4] 63)) :=
    ⟨World.grownBy.refl _ _, tabKeyType, rfl, fun _ => Iff.rfl, hb.alloc _⟩
  have HC := Lib.hid (Slice_calls HSL.out.1 (some ⟨w.heap.size, 0, none⟩) 4 (keepsKeyType hcap (by omega) hblk (by decide) HSL.out.1.hie HSL.out.2) (by decide) (by decide) _ hI)
  have HCP := Lib.hid hcap
  clear hcap hblk hI hb hB HBI
  go_wp2_with fail
  refine HC.out.mono ?_
  rintro e w2 ⟨rfl, hI⟩
  have HI := Lib.hid hI
  have cv : w2.cell? ⟨w1.heap.size, 0, none⟩ = some (.slice (some ⟨w.heap.size, 0, none⟩) 4 4) := by rw [(HCP.out.grown hI.gr (by intro e; injection e with e; omega)).cell]; rfl
  clear hI HC HCP
  go_wp2
  go_ret
  obtain ⟨xs, hx, hm, hb⟩ := HI.out.ex
  refine ⟨w.heap.size, 4, 4, xs, [], rfl, hx, rfl, hm, ?_, Nat.le_refl _, hb⟩
  exact ⟨HI.out.gr.os.trans HB.out.os, HI.out.gr.tape.trans HB.out.tape, HI.out.gr.output.trans HB.out.output, Nat.le_trans (by have := HB.out.size; simp; omega) HI.out.gr.size, fun k hk => (HI.out.gr.block k (by simp; omega) (by intro e; injection e with e; omega)).trans (((below_alloc' HB.out _).block k hk))⟩
end Go.Proofs.Ytenneobgjalfhaa.So
