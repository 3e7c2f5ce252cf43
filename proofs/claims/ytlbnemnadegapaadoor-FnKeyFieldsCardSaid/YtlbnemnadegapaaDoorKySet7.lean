/- The walk of a key set's Keys: some texts, as many as there are private fields; the conditions are on what lies in memory. -/
import Derived.Test.YtlbnemnadegapaaDoorKySet6
set_option linter.unusedVariables false
set_option linter.unusedSimpArgs false
namespace Go.Proofs.YtlbnemnadegapaaDoor.Ky
open Go.RowKit Go.Proofs.YtlbnemnadegapaaDoor.K Go.Proofs.YtlbnemnadegapaaDoor.Nm
/-- A slice of texts. -/
def TL (w : World) (A : Option Addr) (n : Nat) (l : List ByteArray) : Prop := Reads w 1 A n (l.map Value.string)
theorem infoStr : (Tryd.prog.info? 9).map (fun i => (i.zero, i.size, i.bytes)) = some (some (.string ByteArray.empty), 1, 16) := by kernel_rfl
theorem sub_len {L ds : List (ByteArray × Value)} {p : ByteArray × Value} (hd : (ds.map (·.1)).Nodup) (hs : ∀ q ∈ ds, q ∈ L) (hp : p ∈ L) (hf : ∀ q ∈ ds, q.1 ≠ p.1) : ds.length < L.length := by
  have h1 : ((ds ++ [p]).map (·.1)).Nodup := by
    rw [List.map_append, List.nodup_append]
    refine ⟨hd, by simp, ?_⟩
    intro a ha b hb e
    obtain ⟨q, hq, rfl⟩ := List.mem_map.1 ha
    rw [show b = p.1 by simpa using hb] at e
    exact hf q hq e
  have h2 := List.Nodup.length_le_of_subset h1 (l₂ := L.map (·.1)) (by
    intro a ha
    obtain ⟨q, hq, rfl⟩ := List.mem_map.1 ha
    rcases List.mem_append.1 hq with hq | hq
    · exact List.mem_map_of_mem (hs q hq)
    · rw [List.mem_singleton.1 hq]; exact List.mem_map_of_mem hp)
  simp at h2
  omega
theorem wpList_len_run {P : Program} {ops : Array Oper} {rest : List Oper} {o : Oper} {a : Act} {Q : Exit → Act → World → Prop} {w : World} {r : Value} (hgd : o.guard = none) (s : Operand) (t : TypeId)
    (ho : o.op = .call { callee := .builtin .len, args := #[s], argTypes := #[t] }) (v : Value) (hs : a.eval s = v) (hrun : (Builtin.len_ #[t] o.type #[v]).run P w = .ok r w)
    (h : wpList P ops Q rest (a.put o.dst r) w) : wpList P ops Q (o :: rest) a w :=
  wpList_plain hgd fun K hK => by
    unfold Oper.wp execOp
    simp only [ho, resolve, invoke, builtin, Sem.run_bind, Sem.run_pure, Result.andThen_ok, List.map_toArray, List.map_cons, List.map_nil, hs, hrun]
    exact hK _ _ h
section
variable {Q : ByteArray → Prop} {base g : Nat} {w w' : World} {S : List Nat}
set_option maxRecDepth 100000 in
set_option maxHeartbeats 2000000 in
theorem Keys_calls (h : SetAt Q base w g S) (hQ : ∀ l : List ByteArray, l.Nodup → (∀ s ∈ l, Q s) → l.length ≤ 12) :
    Calls Tryd.prog 128 #[.pointer (some ⟨g, 0, none⟩)] w fun e w' => ∃ b n l, e = .returned (.slice (some ⟨b, 0, none⟩) n n) ∧ n ≤ 12 ∧ TL w' (some ⟨b, 0, none⟩) n l ∧ b < w'.heap.size ∧ Below w.heap.size w w' := by
  obtain ⟨i0, hi, hz0, hz1, hz2⟩ := info_parts infoStr
  have HI := Lib.hid (And.intro hi (And.intro hz0 (And.intro hz1 hz2)))
  obtain ⟨v, m, hK, ⟨L, hL, hq⟩, hbg, hbm⟩ := h
  have hnd := hL.nodup
  have hL12 : L.length ≤ 12 := by
    have := hQ (L.map (·.1)) hnd (fun s hs => by obtain ⟨p, hp, rfl⟩ := List.mem_map.1 hs; exact hq p hp)
    simpa using this
  have HL := Lib.hid hL
  have HNQ := Lib.hid (And.intro hnd hq)
  obtain ⟨es, c, hb, _, hle⟩ := hL
  obtain ⟨n, hn⟩ : ∃ n, n = es.size := ⟨_, rfl⟩
  have hnL : n = L.length := by
    have := congrArg List.length hle
    simp at this
    omega
  obtain ⟨c0, c1⟩ := hK.cells
  have hlen : ∀ ty : TypeId, Sem.run Tryd.prog (Builtin.len_ #[139] ty #[.map (some m)]) w = .ok (.int .i64 n) w := fun ty => by
    rw [hn]
    exact run_len_map w 139 ty m es c (by kernel_rfl) hb
  have hmlt := HL.out.lt
  have hglt := hK.1.lt
  have HB0 := Lib.hid hK.1
  have HNL := Lib.hid hnL
  have HLEN := Lib.hid hlen
  have hn12 : n ≤ 12 := by omega
  clear hK hnd hq hle hb hn hnL hlen hi hz0 hz1 hz2 hQ
  go_enter Tryd.func128, Tryd.ntmps128
  go_wp2_with (first
    | (at_len; refine wpList_len_run rfl (.tmp 9) 139 rfl _ rfl (HLEN.out _) ?_)
    | (at_make; refine wpList_make_blk rfl _ _ 35 rfl 9 i0 (.string ByteArray.empty) Tryd.underlying35 HI.out.1 HI.out.2.1 HI.out.2.2.1 rfl .i64 .i64 _ _ n rfl rfl rfl rfl (by rw [HI.out.2.2.2]; omega) (by unfold maxLen; omega) ?_; intro w2 hb2 hB2 hs2; have k1 : w2.cell? ⟨g, 1, none⟩ = some (.map (some m)) := (hB2.cell hglt).trans c1; obtain ⟨w3, hrng, hR, hg3, hs3⟩ := run_range (P := Tryd.prog) (mty := 139) Tryd.underlying139 w2 m L (HL.out.below hB2 hmlt); have HR := Lib.hid hR; have HB2 := Lib.hid (And.intro hb2 (And.intro hB2 (And.intro hs2 (And.intro hg3 hs3)))); clear hb2 hB2 hs2 hR hg3 hs3))
  clear hrng k1 c0 c1
  obtain ⟨r, hr⟩ : ∃ r, r = w2.heap.size := ⟨_, rfl⟩
  obtain ⟨b, hbe⟩ : ∃ b, b = w.heap.size := ⟨_, rfl⟩
  rw [← hr] at HR
  have hbr : b < r := by have := HB2.out.2.2.1; omega
  have hbm : m < b := by omega
  have hb3 : Blk w3 b 9 ((List.replicate n ByteArray.empty).map Value.string).toArray := by
    rw [List.map_replicate, List.toArray_replicate, hbe]
    exact HB2.out.1.grown HB2.out.2.2.2.1 (by simp)
  have HB3 := Lib.hid hb3
  have HD3 := Lib.hid (show Below b w w3 from by
    rw [hbe]
    exact HB2.out.2.1.trans ⟨HB2.out.2.2.2.1.os, HB2.out.2.2.2.1.tape, HB2.out.2.2.2.1.output, HB2.out.2.2.2.1.size, fun k hk => HB2.out.2.2.2.1.block k (by have := HB2.out.2.2.1; omega) (by simp)⟩)
  rw [← hr, ← hbe]
  have HE := Lib.hid hbe
  clear hb3 hr hbe HB2
  go_loopg [4] (togo L []) (fun k vi wr => ∃ (ds : List (ByteArray × Value)) (l : List ByteArray), k = togo L ds ∧ vi = .int .i64 (ds.length : Nat) ∧ l.length = n ∧ Hid (RangL wr m r L ds) ∧ Hid (Blk wr b 9 (l.map Value.string).toArray) ∧ Hid (Below b w wr))
  case atStart => exact ⟨[], _, rfl, rfl, by simp, HR, HB3, HD3⟩
  case round =>
    clear HR HB3 HD3
    obtain ⟨ds, l, hk, rfl, hln, HR, HB, HD⟩ := hrel
    have HKK := Lib.hid (And.intro hk hln)
    clear hk hln
    rcases HR.out.next (P := Tryd.prog) 0 HNQ.out.1 with ⟨hall, hrun⟩ | ⟨p, hp, hf, w5, hrun, hR5, hg5, hent⟩
    · clear hall
      go_wp2
      go_ret
      refine ⟨b, n, l, rfl, hn12, ?_, HB.out.lt, by rw [← HE.out]; exact HD.out⟩
      have := HB.out.reads 1 n 0 (by simp [HKK.out.2])
      simp only [Nat.zero_mul, List.drop_zero] at this
      rwa [List.take_of_length_le (by simp [HKK.out.2])] at this
    · obtain ⟨s, u⟩ := p
      have hlt := sub_len HR.out.sub.2 HR.out.sub.1 hp hf
      have hi : ds.length < n := by rw [HNL.out]; exact hlt
      have hb5 := HB.out.grown hg5 (by intro e; injection e with e; omega)
      obtain ⟨⟨v0, p0⟩, f0⟩ : (∃ v, w5.cell? ⟨b, ds.length, none⟩ = some v) ∧ w5.frozen? ⟨b, ds.length, none⟩ = false :=
        ⟨⟨_, by rw [hb5.cell]; exact Array.getElem?_eq_getElem (by simp [HKK.out.2]; exact hi)⟩, hb5.frozen _⟩
      have HR6 := Lib.hid (hR5.grown (setCell_grown w5 ⟨b, ds.length, none⟩ (.string s)) (by intro e; injection e with e; have : m = b := e; omega) (by intro e; injection e with e; have : r = b := e; omega))
      have HB6 := Lib.hid (show Blk (w5.setCell ⟨b, ds.length, none⟩ (.string s)) b 9 ((l.set ds.length s).map Value.string).toArray by
        have := hb5.set_ ds.length (.string s)
        rw [List.setIfInBounds_toArray, ← List.map_set] at this
        exact this)
      have HD6 := Lib.hid ((HD.out.trans (below_of_grown hg5 (by omega) (show b ≤ wr.heap.size by rw [HE.out]; exact HD.out.size))).setCell (p := ⟨b, ds.length, none⟩) (Nat.le_refl _) (.string s))
      have HTL := Lib.hid (togo_less hp hf)
      have hi2 : (ds.length : Int) < (n : Int) := by omega
      have HLS : Hid ((l.set ds.length s).length = n) := Lib.hid (by rw [List.length_set]; exact HKK.out.2)
      simp only at hrun hent
      obtain ⟨q, hq⟩ : ∃ q, q = ds.length := ⟨_, rfl⟩
      rw [← hq] at p0 f0 HR6 HB6 HD6 HLS hi2 hi
      rw [← hq]
      have HQ := Lib.hid hq
      clear hp hf hR5 hg5 hb5 hlt hq
      go_wp2_with fail
      go_roundg (togo L (ds ++ [(s, u)]))
      case measure => have := HTL.out; have := HKK.out.1; omega
      case rel => exact ⟨ds ++ [(s, u)], _, rfl, by rw [List.length_append, ← HQ.out]; go_num, HLS.out, HR6, HB6, HD6⟩
end
end Go.Proofs.YtlbnemnadegapaaDoor.Ky
