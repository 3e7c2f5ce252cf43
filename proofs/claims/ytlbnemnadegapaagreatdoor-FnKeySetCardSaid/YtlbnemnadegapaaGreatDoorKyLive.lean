/- laws.keysLive. -/
import Derived.Test.YtlbnemnadegapaaGreatDoorKySeen
set_option linter.unusedVariables false
set_option linter.unusedSimpArgs false
namespace Go.Proofs.YtlbnemnadegapaaGreatDoor.Ky
open Go.RowKit Go.Proofs.YtlbnemnadegapaaGreatDoor.K Go.Proofs.YtlbnemnadegapaaGreatDoor.Nm
def xT : ByteArray := ⟨#[120]⟩
def liveS : List ST := [⟨0, 0, 0, ByteArray.empty, ByteArray.empty⟩, ⟨4, 0, 0, xT, ByteArray.empty⟩]
theorem live_run {Ks : List Nat} (h : Ks.length = 1) (A : Addr) (c : Nat) : runB Ks (idB Ks [⟨A, 1, c, [1], true, xT⟩]) [] liveS = [⟨true, -1, -1, [0]⟩, ⟨true, -1, 0, [0]⟩] := by
  match Ks, h with
  | [k], _ =>
    have h0 : ix [k] k = 0 := by unfold ix; simp
    have h1 : inKeys [k] 0 = true := by unfold inKeys; simp
    have h2 : kAt [k] 0 = k := by unfold kAt; simp
    have h3 : hit (idB [k] [⟨A, 1, c, [1], true, xT⟩]) xT k = true := by unfold hit idB; rw [h0]; simp [idOf]
    have s1 : stB [k] (idB [k] [⟨A, 1, c, [1], true, xT⟩]) [] ⟨0, 0, 0, ByteArray.empty, ByteArray.empty⟩ = ⟨[k], true, -1, -1⟩ := by unfold stB; simp [h1, h2]
    have s2 : stB [k] (idB [k] [⟨A, 1, c, [1], true, xT⟩]) [k] ⟨4, 0, 0, xT, ByteArray.empty⟩ = ⟨[k], true, -1, 0⟩ := by unfold stB; simp [h3, fnd?, h0]
    unfold liveS
    rw [runB, s1, runB, s2, runB]
    simp [snOf, h0]
section
variable {w w' : World}
set_option maxRecDepth 100000 in
set_option maxHeartbeats 1000000 in
theorem keysLive_calls (w : World) : Calls Tryz.prog 4 #[] w fun e w' => e = .returned (.bool true) ∧ Below w.heap.size w w' := by
  obtain ⟨w1, hw1⟩ : ∃ w1, w1 = w.alloc (.cells #[.int .u8 1] 5) := ⟨_, rfl⟩
  obtain ⟨w2, hw2⟩ : ∃ w2, w2 = w1.alloc (.cells #[.slice (some ⟨w.heap.size, 0, none⟩) 1 1, .bool true, .string xT] 39) := ⟨_, rfl⟩
  obtain ⟨w3, hw3⟩ : ∃ w3, w3 = w2.alloc (.cells #[.int .i64 0, .int .i64 0, .int .i64 0, .string ByteArray.empty, .string ByteArray.empty, .int .i64 4, .int .i64 0, .int .i64 0, .string xT, .string ByteArray.empty] 41) := ⟨_, rfl⟩
  have z1 : w1.heap.size = w.heap.size + 1 := by rw [hw1, World.size_alloc]
  have z2 : w2.heap.size = w.heap.size + 1 + 1 := by rw [hw2, World.size_alloc, z1]
  have b1 : Below w.heap.size w w1 := by rw [hw1]; exact below_alloc' (Below.refl _ _) _
  have b2 : Below w1.heap.size w1 w2 := by rw [hw2]; exact below_alloc' (Below.refl _ _) _
  have b3 : Below w2.heap.size w2 w3 := by rw [hw3]; exact below_alloc' (Below.refl _ _) _
  have r1 : Reads w1 1 (some ⟨w.heap.size, 0, none⟩) 1 (bys [1]) := by rw [hw1]; exact Reads.of_own (own_lit w 5 1 1 #[.int .u8 1] rfl (by unfold maxLen; omega))
  have r2 : Reads w2 3 (some ⟨w.heap.size + 1, 0, none⟩) 1 (flat kc [⟨⟨w.heap.size, 0, none⟩, 1, 1, [1], true, xT⟩]) := by rw [hw2, ← z1]; exact Reads.of_own (own_lit w1 39 3 1 #[.slice (some ⟨w.heap.size, 0, none⟩) 1 1, .bool true, .string xT] rfl (by unfold maxLen; omega))
  have r3 : STL w3 (some ⟨w.heap.size + 1 + 1, 0, none⟩) 2 liveS := by rw [hw3, ← z2]; exact Reads.of_own (own_lit w2 41 5 2 #[.int .i64 0, .int .i64 0, .int .i64 0, .string ByteArray.empty, .string ByteArray.empty, .int .i64 4, .int .i64 0, .int .i64 0, .string xT, .string ByteArray.empty] rfl (by unfold maxLen; omega))
  have hD : KDL w3 (some ⟨w.heap.size + 1, 0, none⟩) 1 [⟨⟨w.heap.size, 0, none⟩, 1, 1, [1], true, xT⟩] := by
    refine ⟨r2.below b3 (Nat.le_refl _), fun d hd => ?_⟩
    rw [List.mem_singleton.1 hd]
    exact ⟨(r1.below b2 (Nat.le_refl _)).below b3 (by rw [z2]; omega), rfl, Nat.one_pos, (by show (1 : Nat) ≤ 8; omega)⟩
  have HC := Lib.hid (KeyRun_calls ⟨w.heap.size + 1, 0, none⟩ 1 1 _ hD (by show (1 : Nat) ≤ 20; omega) (some ⟨w.heap.size + 1 + 1, 0, none⟩) 2 2 liveS r3 (by decide) (fun _ => False) (fun l _ hl => by cases l with | nil => simp | cons a l => exact (hl a (by simp)).elim) (by decide) (by decide))
  have HB := Lib.hid ((b1.trans (b2.mono (by omega))).trans (b3.mono (by omega)))
  rw [hw3, hw2, hw1] at HC HB
  clear hw1 hw2 hw3 z1 z2 b1 b2 b3 r1 r2 r3 hD
  go_enter Tryz.func4, Tryz.ntmps4
  go_wp2_with (go_at_call 8; (refine Calls.mono HC.out ?_); rintro e w4 ⟨B, v, Ks, rfl, hn, hkl, hO, hb, hB⟩; rw [live_run hkl] at hO; obtain ⟨vA, vc, hv, hSN⟩ := hO.read; subst hv; have HSB := Lib.hid (HB.out.trans (hb.mono HB.out.size)); obtain ⟨ad, Al, nl, cl, An, nn, nc, rfl, c0, c1, c2, c3, c4, c5, hI⟩ := hSN.at_ (j := 0) (by simp); obtain ⟨ad2, Al2, nl2, cl2, An2, nn2, nc2, ha2, d0, d1, d2, d3, d4, d5, hI2⟩ := hSN.at_ (j := 1) (by simp); obtain rfl := Option.some.inj ha2; simp only [List.getElem_cons_zero, List.getElem_cons_succ] at c0 c1 c2 c3 d0 d1 d2 d3; have e0 : ad.add (0 * 6) = ad := (by unfold Addr.add; simp); rw [e0] at c0 c3; rw [Nat.one_mul] at d0 d2; have e6 : ad.add 6 = ⟨ad.block, ad.off + 6, none⟩ := (by unfold Addr.add; simp); rw [e6] at d0 d2; have d2' : w4.cell? ⟨ad.block, ad.off + 8, none⟩ = some (.int .i64 0) := d2; clear e0 e6  hI hI2 hSN hO hb c1 c2 c4 c5 d1 d3 d4 d5 ha2)
  go_ret
  exact ⟨rfl, HSB.out⟩
end
end Go.Proofs.YtlbnemnadegapaaGreatDoor.Ky
