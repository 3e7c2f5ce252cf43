/- What a key's steps gave, as it is read; laws.fieldsLive; the conditions are on what lies in memory. -/
import Derived.Test.YtlbnemnadegapaaDoorKfMv
set_option linter.unusedVariables false
set_option linter.unusedSimpArgs false
namespace Go.Proofs.YtlbnemnadegapaaDoor.Kf
open Go.RowKit Go.Proofs.YtlbnemnadegapaaDoor.K Go.Proofs.YtlbnemnadegapaaDoor.Nm Go.Proofs.YtlbnemnadegapaaDoor.Ky
def SeenL (w : World) (A : Option Addr) (n : Nat) (oc : List UInt8) (ts : List FT) : Prop := ∃ rs : List FR, Reads w 15 A ts.length (flat (frc n) rs) ∧ ts = rs.map FR.t ∧ ∀ r ∈ rs, SLt w r.OA (r.t.ops.getD []).length (r.t.ops.getD []) ∧ w.ownsRow 0 9 1 (.slice r.NA r.t.names.length r.Nc) r.t.names.length ((srt r.t.names).map Value.string) ∧ Reads w 1 r.CA n (bys oc)
section
variable {w w' : World} {A : Option Addr} {n : Nat} {oc : List UInt8} {ts : List FT}
theorem FOuts.read {B : Nat} {v : Value} (h : FOuts w B v n oc ts) : ∃ A c, v = .slice A ts.length c ∧ SeenL w A n oc ts := by
  obtain ⟨rs, h1, h2, h3⟩ := h
  obtain ⟨A, c, rfl⟩ := own_slice h1
  have hl : ts.length = rs.length := by rw [h2]; simp
  rw [← hl] at h1
  refine ⟨A, c, by rw [hl], rs, Reads.of_own h1, h2, fun r hr => ?_⟩
  obtain ⟨a, b, d⟩ := h3 r hr
  exact ⟨Reads.of_own a, own_base b (Nat.zero_le _), Reads.of_own d⟩
theorem SeenL.below {B : Nat} (h : SeenL w A n oc ts) (hb : Below B w w') (hB : w.heap.size ≤ B) : SeenL w' A n oc ts := by
  obtain ⟨rs, h1, h2, h3⟩ := h
  exact ⟨rs, h1.below hb hB, h2, fun r hr => ⟨Reads.below (h3 r hr).1 hb hB, own_keep (h3 r hr).2.1 (fun j cs hb' => hb'.below hb (Nat.lt_of_lt_of_le hb'.lt hB)), (h3 r hr).2.2.below hb hB⟩⟩
/-- The cells of one row. -/
def RowAt (w : World) (p : Addr) (cs : List Value) : Prop := w.cell? p = cs[0]? ∧ ∀ k, 0 < k → k < 15 → w.cell? ⟨p.block, p.off + k, none⟩ = cs[k]?
theorem SeenL.at_ (h : SeenL w A n oc ts) {j : Nat} (hj : j < ts.length) : ∃ ad r, A = some ad ∧ r.t = ts[j] ∧ RowAt w (ad.add (j * 15)) (frc n r) ∧ SLt w r.OA (r.t.ops.getD []).length (r.t.ops.getD []) ∧ w.ownsRow 0 9 1 (.slice r.NA r.t.names.length r.Nc) r.t.names.length ((srt r.t.names).map Value.string) ∧ Reads w 1 r.CA n (bys oc) := by
  obtain ⟨rs, h1, h2, h3⟩ := h
  obtain ⟨ad, rfl, _, hc⟩ := h1.2 (by omega)
  have hjr : j < rs.length := by rw [h2] at hj; simpa using hj
  have g : ∀ i, i < 15 → (flat (frc n) rs)[j * 15 + i]? = (frc n rs[j])[i]? := fun i hi => flat_at (frc_len n) rs j i hjr hi
  refine ⟨ad, rs[j], rfl, by simp [h2], ⟨?_, fun k hk hk2 => ?_⟩, h3 _ (List.getElem_mem _)⟩
  · have := g 0 (by omega)
    rw [Nat.add_zero] at this
    rw [hc (j * 15) _ (by rw [this]; rfl)]; rfl
  · have := g k hk2
    obtain ⟨k', rfl⟩ : ∃ k', k = k' + 1 := ⟨k - 1, by omega⟩
    have hl : k' + 1 < (frc n rs[j]).length := by rw [frc_len]; exact hk2
    rw [List.getElem?_eq_getElem hl] at this ⊢
    exact cell_next (hc (j * 15 + (k' + 1)) _ this)
end
section
variable {w w' : World}
def liveF : List FS := [⟨none, 0, 0, 0, ⟨#[120]⟩, []⟩]
theorem live_run : runT t0 liveF = [⟨none, some ⟨#[120]⟩, none, none⟩] := rfl
set_option maxRecDepth 100000 in
set_option maxHeartbeats 2000000 in
theorem fieldsLive_calls (w : World) : Calls Tryd.prog 10 #[] w fun e w' => e = .returned (.bool true) ∧ Below w.heap.size w w' := by
  obtain ⟨w1, hw1⟩ : ∃ w1, w1 = w.alloc (.cells #[.int .u8 1, .int .u8 2] 5) := ⟨_, rfl⟩
  obtain ⟨w2, hw2⟩ : ∃ w2, w2 = w1.alloc (.cells #[.int .i64 0, .string ⟨#[120]⟩, .slice none 0 0] 40) := ⟨_, rfl⟩
  have z1 : w1.heap.size = w.heap.size + 1 := by rw [hw1, World.size_alloc]
  have b1 : Below w.heap.size w w1 := by rw [hw1]; exact below_alloc' (Below.refl _ _) _
  have b2 : Below w1.heap.size w1 w2 := by rw [hw2]; exact below_alloc' (Below.refl _ _) _
  have r1 : Reads w1 1 (some ⟨w.heap.size, 0, none⟩) 2 (bys [1, 2]) := by rw [hw1]; exact Reads.of_own (own_lit w 5 1 2 #[.int .u8 1, .int .u8 2] rfl (by unfold maxLen; omega))
  have r2 : Reads w2 3 (some ⟨w.heap.size + 1, 0, none⟩) 1 (flat fc liveF) := by rw [hw2, ← z1]; exact Reads.of_own (own_lit w1 40 3 1 #[.int .i64 0, .string ⟨#[120]⟩, .slice none 0 0] rfl (by unfold maxLen; omega))
  have hS : FSL w2 (some ⟨w.heap.size + 1, 0, none⟩) 1 liveF := ⟨r2, fun s hs => by
    rw [show s = ⟨none, 0, 0, 0, ⟨#[120]⟩, []⟩ from List.mem_singleton.1 hs]
    exact ⟨Reads.none_, .inl rfl, Nat.zero_le _⟩⟩
  have HC := Lib.hid (FieldRun_calls (w := w2) ⟨w.heap.size, 0, none⟩ 2 2 [1, 2] rfl (r1.below b2 (Nat.le_refl _)) (by omega) (by omega) (some ⟨w.heap.size + 1, 0, none⟩) 1 1 liveF hS (by decide))
  have HB := Lib.hid (b1.trans (b2.mono b1.size))
  rw [hw2, hw1] at HC HB
  clear hw1 hw2 z1 b1 b2 r1 r2 hS
  go_enter Tryd.func10, Tryd.ntmps10
  go_wp2_with (first
    | (go_at_call 11; ((refine Calls.mono HC.out ?_); rintro e w4 ⟨v, rfl, hO, hB⟩; rw [live_run] at hO; obtain ⟨vA, vc, hv, hSN⟩ := hO.read; subst hv; have HSB := Lib.hid (HB.out.trans (hB.mono HB.out.size)); obtain ⟨ad, r, rfl, hrt, ⟨c0, cc⟩, _, _, hrd⟩ := hSN.at_ (j := 0) (by simp); obtain ⟨rt, OA, Oc, NA, Nc, CA, Cc⟩ := r; (simp only [List.getElem_cons_zero] at hrt); subst hrt; have c5 := cc 5 (by omega) (by omega); have c1 := cc 1 (by omega) (by omega); have c14 := cc 14 (by omega) (by omega); clear cc hO hSN hB; have e0 : ad.add (0 * 15) = ad := (by unfold Addr.add; simp); rw [e0] at c0 c1 c5 c14; have d0 : w4.cell? ad = some (.bool true) := c0; have d1 : w4.cell? ⟨ad.block, ad.off + 1, none⟩ = some (.string ⟨#[120]⟩) := c1; have d5 : w4.cell? ⟨ad.block, ad.off + 5, none⟩ = some (.bool true) := c5; have d14 : w4.cell? ⟨ad.block, ad.off + 14, none⟩ = some (.slice CA 2 Cc) := c14; have HEQ := Lib.hid (EqualB_calls (c := Cc) (d := 2) (hrd.below (below_alloc' (Below.refl w4.heap.size w4) (.cells #[.int .u8 1, .int .u8 2] 5)) (Nat.le_refl _)) (show Reads (w4.alloc (.cells #[.int .u8 1, .int .u8 2] 5)) 1 (some ⟨w4.heap.size, 0, none⟩) 2 (bys [1, 2]) from Reads.of_own (own_lit w4 5 1 2 #[.int .u8 1, .int .u8 2] rfl (by unfold maxLen; omega)))); clear c0 c1 c5 c14 hrd e0))
    | (go_at_call 15; ((refine Calls.mono HEQ.out ?_); rintro e w5 ⟨rfl, rfl⟩)))
  go_ret
  exact ⟨rfl, below_alloc' HSB.out _⟩
end
end Go.Proofs.YtlbnemnadegapaaDoor.Kf
