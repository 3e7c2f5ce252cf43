/- The closures by which the lists of algorithms are sorted: they tell some truth value, and leave the list as it is; the conditions are on what lies in memory. Printed by gen_less.py. -/
import Derived.Test.YtenneobgjalfhaaNmIv
import Derived.Deep.RegionHeld3
set_option linter.unusedVariables false
set_option linter.unusedSimpArgs false
namespace Go.Proofs.Ytenneobgjalfhaa.So
open Go.RowKit Go.Proofs.Ytenneobgjalfhaa.K Go.Proofs.Ytenneobgjalfhaa.Nm
def vSignatureAlgorithm (p : ByteArray × Bool × Bool) : Value := .iface 32 (three p.1 p.2.1 p.2.2)
set_option maxRecDepth 100000 in
set_option maxHeartbeats 4000000 in
theorem lessSignatureAlgorithm {w0 W : World} {blk vc n c : Nat} {L0 : List (ByteArray × Bool × Bool)} {rest : List Value} (hcap : Blk w0 vc 76 #[.slice (some ⟨blk, 0, none⟩) n c]) (hvb : vc ≠ blk) (hblk : blk < w0.heap.size) (hI : Iv (fun p => [vSignatureAlgorithm p]) w0 blk 66 n L0 rest W) (hn : n < 1000) (i j : Nat) (hi : i < n) (hj : j < n) :
    Calls Try.prog 51 #[.int .i64 i, .int .i64 j, .pointer (some ⟨vc, 0, none⟩)] W fun e W' => ∃ b : Bool, e = .returned (.bool b) ∧ Iv (fun p => [vSignatureAlgorithm p]) w0 blk 66 n L0 rest W' ∧ W.grownBy W' (some blk) := by
  have hna : ∀ (W : World) (s : ByteArray) (d y : Bool), Sem.run Try.prog (nilAhead 243 32 (.agg #[.string s, .bool d, .bool y]) "String") W = .ok (some false) W := fun W s d y => by kernel_rfl
  have hms : ∀ (W : World) (s : ByteArray) (d y : Bool), (method 243 32 (.agg #[.string s, .bool d, .bool y]) "String").run Try.prog W = .ok (12, .agg #[.string s, .bool d, .bool y]) W := fun W s d y => by kernel_rfl
  have HI := Lib.hid hI
  have cv : W.cell? ⟨vc, 0, none⟩ = some (.slice (some ⟨blk, 0, none⟩) n c) := by rw [(hcap.grown hI.gr (by intro e; injection e with e; exact hvb e)).cell]; rfl
  have lv : vc < W.heap.size := Nat.lt_of_lt_of_le hcap.lt hI.gr.size
  have lb : blk < W.heap.size := Nat.lt_of_lt_of_le hblk hI.gr.size
  obtain ⟨xs, rfl, _, hb⟩ := hI.ex
  obtain ⟨s1, d1, y1, e1⟩ : ∃ s1 d1 y1, vSignatureAlgorithm xs[i] = .iface 32 (three s1 d1 y1) := ⟨_, _, _, rfl⟩
  obtain ⟨s2, d2, y2, e2⟩ : ∃ s2 d2 y2, vSignatureAlgorithm xs[j] = .iface 32 (three s2 d2 y2) := ⟨_, _, _, rfl⟩
  have c1 : W.cell? ⟨blk, i, none⟩ = some (.iface 32 (three s1 d1 y1)) := by
    rw [hb.cell, flat1, ← e1]
    simp [List.getElem?_append_left, hi]
  have c2 : W.cell? ⟨blk, j, none⟩ = some (.iface 32 (three s2 d2 y2)) := by
    rw [hb.cell, flat1, ← e2]
    simp [List.getElem?_append_left, hj]
  have HKS : Hid (∀ V, Below W.heap.size W V → V.cell? ⟨vc, 0, none⟩ = some (.slice (some ⟨blk, 0, none⟩) xs.length c) ∧ V.cell? ⟨blk, i, none⟩ = some (.iface 32 (three s1 d1 y1)) ∧ V.cell? ⟨blk, j, none⟩ = some (.iface 32 (three s2 d2 y2))) :=
    Lib.hid fun V hV => ⟨(hV.cell lv).trans cv, (hV.cell lb).trans c1, (hV.cell lb).trans c2⟩
  have HS1 := Lib.hid (fun V => SignatureAlgorithm_String_calls V s1 d1 y1)
  have HS2 := Lib.hid (fun V => SignatureAlgorithm_String_calls V s2 d2 y2)
  have HD0 := Lib.hid (Below.refl W.heap.size W).drew
  have HT1 : Hid True := Lib.hid trivial
  have HT2 : Hid True := Lib.hid trivial
  have hii : (i : Int) < xs.length := by omega
  have hjj : (j : Int) < xs.length := by omega
  clear hI hb e1 e2 cv c1 c2 hcap
  go_enter Try.func51, Try.ntmps51
  go_wp2
  go_region_held3 (fun V => V.cell? ⟨vc, 0, none⟩ = some (.slice (some ⟨blk, 0, none⟩) xs.length c) ∧ V.cell? ⟨blk, i, none⟩ = some (.iface 32 (three s1 d1 y1)) ∧ V.cell? ⟨blk, j, none⟩ = some (.iface 32 (three s2 d2 y2))) (first | exact HKS.out _ HD2.out | exact HKS.out _ HD1.out | exact HKS.out _ HD0.out) (first
    | (have _h := HT1; (with_reducible refine Calls.mono (HS1.out _) ?_); rintro e v1 ⟨rfl, hB⟩; have HD1 := Lib.hid (HD0.out.trans (hB.mono HD0.out.size)); clear hB HT1)
    | (have _h := HT1; (with_reducible refine Calls.mono (HS2.out _) ?_); rintro e v1 ⟨rfl, hB⟩; have HD1 := Lib.hid (HD0.out.trans (hB.mono HD0.out.size)); clear hB HT1)
    | (have _h := HT2; (with_reducible refine Calls.mono (HS1.out _) ?_); rintro e v2 ⟨rfl, hB⟩; have HD2 := Lib.hid (HD1.out.trans (hB.mono HD1.out.size)); clear hB HT2)
    | (have _h := HT2; (with_reducible refine Calls.mono (HS2.out _) ?_); rintro e v2 ⟨rfl, hB⟩; have HD2 := Lib.hid (HD1.out.trans (hB.mono HD1.out.size)); clear hB HT2))
  all_goals
    go_wp2
    go_ret
    exact ⟨_, rfl, HI.out.grow hblk (grown_of_below HD2.out (Nat.le_refl _) none) (by intro k hk; cases hk), grown_of_below HD2.out (Nat.le_refl _) _⟩
def vKeyEncryptionAlgorithm (p : ByteArray × Bool × Bool) : Value := .iface 36 (three p.1 p.2.1 p.2.2)
set_option maxRecDepth 100000 in
set_option maxHeartbeats 4000000 in
theorem lessKeyEncryptionAlgorithm {w0 W : World} {blk vc n c : Nat} {L0 : List (ByteArray × Bool × Bool)} {rest : List Value} (hcap : Blk w0 vc 76 #[.slice (some ⟨blk, 0, none⟩) n c]) (hvb : vc ≠ blk) (hblk : blk < w0.heap.size) (hI : Iv (fun p => [vKeyEncryptionAlgorithm p]) w0 blk 66 n L0 rest W) (hn : n < 1000) (i j : Nat) (hi : i < n) (hj : j < n) :
    Calls Try.prog 51 #[.int .i64 i, .int .i64 j, .pointer (some ⟨vc, 0, none⟩)] W fun e W' => ∃ b : Bool, e = .returned (.bool b) ∧ Iv (fun p => [vKeyEncryptionAlgorithm p]) w0 blk 66 n L0 rest W' ∧ W.grownBy W' (some blk) := by
  have hna : ∀ (W : World) (s : ByteArray) (d y : Bool), Sem.run Try.prog (nilAhead 243 36 (.agg #[.string s, .bool d, .bool y]) "String") W = .ok (some false) W := fun W s d y => by kernel_rfl
  have hms : ∀ (W : World) (s : ByteArray) (d y : Bool), (method 243 36 (.agg #[.string s, .bool d, .bool y]) "String").run Try.prog W = .ok (16, .agg #[.string s, .bool d, .bool y]) W := fun W s d y => by kernel_rfl
  have HI := Lib.hid hI
  have cv : W.cell? ⟨vc, 0, none⟩ = some (.slice (some ⟨blk, 0, none⟩) n c) := by rw [(hcap.grown hI.gr (by intro e; injection e with e; exact hvb e)).cell]; rfl
  have lv : vc < W.heap.size := Nat.lt_of_lt_of_le hcap.lt hI.gr.size
  have lb : blk < W.heap.size := Nat.lt_of_lt_of_le hblk hI.gr.size
  obtain ⟨xs, rfl, _, hb⟩ := hI.ex
  obtain ⟨s1, d1, y1, e1⟩ : ∃ s1 d1 y1, vKeyEncryptionAlgorithm xs[i] = .iface 36 (three s1 d1 y1) := ⟨_, _, _, rfl⟩
  obtain ⟨s2, d2, y2, e2⟩ : ∃ s2 d2 y2, vKeyEncryptionAlgorithm xs[j] = .iface 36 (three s2 d2 y2) := ⟨_, _, _, rfl⟩
  have c1 : W.cell? ⟨blk, i, none⟩ = some (.iface 36 (three s1 d1 y1)) := by
    rw [hb.cell, flat1, ← e1]
    simp [List.getElem?_append_left, hi]
  have c2 : W.cell? ⟨blk, j, none⟩ = some (.iface 36 (three s2 d2 y2)) := by
    rw [hb.cell, flat1, ← e2]
    simp [List.getElem?_append_left, hj]
  have HKS : Hid (∀ V, Below W.heap.size W V → V.cell? ⟨vc, 0, none⟩ = some (.slice (some ⟨blk, 0, none⟩) xs.length c) ∧ V.cell? ⟨blk, i, none⟩ = some (.iface 36 (three s1 d1 y1)) ∧ V.cell? ⟨blk, j, none⟩ = some (.iface 36 (three s2 d2 y2))) :=
    Lib.hid fun V hV => ⟨(hV.cell lv).trans cv, (hV.cell lb).trans c1, (hV.cell lb).trans c2⟩
  have HS1 := Lib.hid (fun V => KeyEncryptionAlgorithm_String_calls V s1 d1 y1)
  have HS2 := Lib.hid (fun V => KeyEncryptionAlgorithm_String_calls V s2 d2 y2)
  have HD0 := Lib.hid (Below.refl W.heap.size W).drew
  have HT1 : Hid True := Lib.hid trivial
  have HT2 : Hid True := Lib.hid trivial
  have hii : (i : Int) < xs.length := by omega
  have hjj : (j : Int) < xs.length := by omega
  clear hI hb e1 e2 cv c1 c2 hcap
  go_enter Try.func51, Try.ntmps51
  go_wp2
  go_region_held3 (fun V => V.cell? ⟨vc, 0, none⟩ = some (.slice (some ⟨blk, 0, none⟩) xs.length c) ∧ V.cell? ⟨blk, i, none⟩ = some (.iface 36 (three s1 d1 y1)) ∧ V.cell? ⟨blk, j, none⟩ = some (.iface 36 (three s2 d2 y2))) (first | exact HKS.out _ HD2.out | exact HKS.out _ HD1.out | exact HKS.out _ HD0.out) (first
    | (have _h := HT1; (with_reducible refine Calls.mono (HS1.out _) ?_); rintro e v1 ⟨rfl, hB⟩; have HD1 := Lib.hid (HD0.out.trans (hB.mono HD0.out.size)); clear hB HT1)
    | (have _h := HT1; (with_reducible refine Calls.mono (HS2.out _) ?_); rintro e v1 ⟨rfl, hB⟩; have HD1 := Lib.hid (HD0.out.trans (hB.mono HD0.out.size)); clear hB HT1)
    | (have _h := HT2; (with_reducible refine Calls.mono (HS1.out _) ?_); rintro e v2 ⟨rfl, hB⟩; have HD2 := Lib.hid (HD1.out.trans (hB.mono HD1.out.size)); clear hB HT2)
    | (have _h := HT2; (with_reducible refine Calls.mono (HS2.out _) ?_); rintro e v2 ⟨rfl, hB⟩; have HD2 := Lib.hid (HD1.out.trans (hB.mono HD1.out.size)); clear hB HT2))
  all_goals
    go_wp2
    go_ret
    exact ⟨_, rfl, HI.out.grow hblk (grown_of_below HD2.out (Nat.le_refl _) none) (by intro k hk; cases hk), grown_of_below HD2.out (Nat.le_refl _) _⟩
def vContentEncryptionAlgorithm (p : ByteArray × Bool) : Value := .iface 40 (two p.1 p.2)
set_option maxRecDepth 100000 in
set_option maxHeartbeats 4000000 in
theorem lessContentEncryptionAlgorithm {w0 W : World} {blk vc n c : Nat} {L0 : List (ByteArray × Bool)} {rest : List Value} (hcap : Blk w0 vc 76 #[.slice (some ⟨blk, 0, none⟩) n c]) (hvb : vc ≠ blk) (hblk : blk < w0.heap.size) (hI : Iv (fun p => [vContentEncryptionAlgorithm p]) w0 blk 66 n L0 rest W) (hn : n < 1000) (i j : Nat) (hi : i < n) (hj : j < n) :
    Calls Try.prog 51 #[.int .i64 i, .int .i64 j, .pointer (some ⟨vc, 0, none⟩)] W fun e W' => ∃ b : Bool, e = .returned (.bool b) ∧ Iv (fun p => [vContentEncryptionAlgorithm p]) w0 blk 66 n L0 rest W' ∧ W.grownBy W' (some blk) := by
  have hna : ∀ (W : World) (s : ByteArray) (d : Bool), Sem.run Try.prog (nilAhead 243 40 (.agg #[.string s, .bool d]) "String") W = .ok (some false) W := fun W s d => by kernel_rfl
  have hms : ∀ (W : World) (s : ByteArray) (d : Bool), (method 243 40 (.agg #[.string s, .bool d]) "String").run Try.prog W = .ok (20, .agg #[.string s, .bool d]) W := fun W s d => by kernel_rfl
  have HI := Lib.hid hI
  have cv : W.cell? ⟨vc, 0, none⟩ = some (.slice (some ⟨blk, 0, none⟩) n c) := by rw [(hcap.grown hI.gr (by intro e; injection e with e; exact hvb e)).cell]; rfl
  have lv : vc < W.heap.size := Nat.lt_of_lt_of_le hcap.lt hI.gr.size
  have lb : blk < W.heap.size := Nat.lt_of_lt_of_le hblk hI.gr.size
  obtain ⟨xs, rfl, _, hb⟩ := hI.ex
  obtain ⟨s1, d1, e1⟩ : ∃ s1 d1, vContentEncryptionAlgorithm xs[i] = .iface 40 (two s1 d1) := ⟨_, _, rfl⟩
  obtain ⟨s2, d2, e2⟩ : ∃ s2 d2, vContentEncryptionAlgorithm xs[j] = .iface 40 (two s2 d2) := ⟨_, _, rfl⟩
  have c1 : W.cell? ⟨blk, i, none⟩ = some (.iface 40 (two s1 d1)) := by
    rw [hb.cell, flat1, ← e1]
    simp [List.getElem?_append_left, hi]
  have c2 : W.cell? ⟨blk, j, none⟩ = some (.iface 40 (two s2 d2)) := by
    rw [hb.cell, flat1, ← e2]
    simp [List.getElem?_append_left, hj]
  have HKS : Hid (∀ V, Below W.heap.size W V → V.cell? ⟨vc, 0, none⟩ = some (.slice (some ⟨blk, 0, none⟩) xs.length c) ∧ V.cell? ⟨blk, i, none⟩ = some (.iface 40 (two s1 d1)) ∧ V.cell? ⟨blk, j, none⟩ = some (.iface 40 (two s2 d2))) :=
    Lib.hid fun V hV => ⟨(hV.cell lv).trans cv, (hV.cell lb).trans c1, (hV.cell lb).trans c2⟩
  have HS1 := Lib.hid (fun V => ContentEncryptionAlgorithm_String_calls V s1 d1 d1)
  have HS2 := Lib.hid (fun V => ContentEncryptionAlgorithm_String_calls V s2 d2 d2)
  have HD0 := Lib.hid (Below.refl W.heap.size W).drew
  have HT1 : Hid True := Lib.hid trivial
  have HT2 : Hid True := Lib.hid trivial
  have hii : (i : Int) < xs.length := by omega
  have hjj : (j : Int) < xs.length := by omega
  clear hI hb e1 e2 cv c1 c2 hcap
  go_enter Try.func51, Try.ntmps51
  go_wp2
  go_region_held3 (fun V => V.cell? ⟨vc, 0, none⟩ = some (.slice (some ⟨blk, 0, none⟩) xs.length c) ∧ V.cell? ⟨blk, i, none⟩ = some (.iface 40 (two s1 d1)) ∧ V.cell? ⟨blk, j, none⟩ = some (.iface 40 (two s2 d2))) (first | exact HKS.out _ HD2.out | exact HKS.out _ HD1.out | exact HKS.out _ HD0.out) (first
    | (have _h := HT1; (with_reducible refine Calls.mono (HS1.out _) ?_); rintro e v1 ⟨rfl, hB⟩; have HD1 := Lib.hid (HD0.out.trans (hB.mono HD0.out.size)); clear hB HT1)
    | (have _h := HT1; (with_reducible refine Calls.mono (HS2.out _) ?_); rintro e v1 ⟨rfl, hB⟩; have HD1 := Lib.hid (HD0.out.trans (hB.mono HD0.out.size)); clear hB HT1)
    | (have _h := HT2; (with_reducible refine Calls.mono (HS1.out _) ?_); rintro e v2 ⟨rfl, hB⟩; have HD2 := Lib.hid (HD1.out.trans (hB.mono HD1.out.size)); clear hB HT2)
    | (have _h := HT2; (with_reducible refine Calls.mono (HS2.out _) ?_); rintro e v2 ⟨rfl, hB⟩; have HD2 := Lib.hid (HD1.out.trans (hB.mono HD1.out.size)); clear hB HT2))
  all_goals
    go_wp2
    go_ret
    exact ⟨_, rfl, HI.out.grow hblk (grown_of_below HD2.out (Nat.le_refl _) none) (by intro k hk; cases hk), grown_of_below HD2.out (Nat.le_refl _) _⟩
set_option maxRecDepth 100000 in
set_option maxHeartbeats 4000000 in
theorem lessCompressionAlgorithm {w0 W : World} {blk vc n c : Nat} {L0 : List (ByteArray × Bool)} {rest : List Value} (hcap : Blk w0 vc 59 #[.slice (some ⟨blk, 0, none⟩) n c]) (hvb : vc ≠ blk) (hblk : blk < w0.heap.size) (hI : Iv f2 w0 blk 43 n L0 rest W) (hn : n < 1000) (i j : Nat) (hi : i < n) (hj : j < n) :
    Calls Try.prog 45 #[.int .i64 i, .int .i64 j, .pointer (some ⟨vc, 0, none⟩)] W fun e W' => ∃ b : Bool, e = .returned (.bool b) ∧ Iv f2 w0 blk 43 n L0 rest W' ∧ W.grownBy W' (some blk) := by
  have HI := Lib.hid hI
  have cv : W.cell? ⟨vc, 0, none⟩ = some (.slice (some ⟨blk, 0, none⟩) n c) := by rw [(hcap.grown hI.gr (by intro e; injection e with e; exact hvb e)).cell]; rfl
  have lv : vc < W.heap.size := Nat.lt_of_lt_of_le hcap.lt hI.gr.size
  have lb : blk < W.heap.size := Nat.lt_of_lt_of_le hblk hI.gr.size
  obtain ⟨xs, rfl, _, hb⟩ := hI.ex
  obtain ⟨s1, d1, e1⟩ : ∃ s1 d1, xs[i] = (s1, d1) := ⟨_, _, rfl⟩
  obtain ⟨s2, d2, e2⟩ : ∃ s2 d2, xs[j] = (s2, d2) := ⟨_, _, rfl⟩
  have hl := len2 xs
  obtain ⟨k1, k2⟩ := flat2_at xs i hi
  obtain ⟨k3, k4⟩ := flat2_at xs j hj
  rw [e1] at k1 k2
  rw [e2] at k3 k4
  have c1 : W.cell? ⟨blk, i * 2, none⟩ = some (.string s1) := by rw [hb.cell, List.getElem?_toArray, List.getElem?_append_left (by omega)]; exact k1
  have c2 : W.cell? ⟨blk, i * 2 + 1, none⟩ = some (.bool d1) := by rw [hb.cell, List.getElem?_toArray, List.getElem?_append_left (by omega)]; exact k2
  have c3 : W.cell? ⟨blk, j * 2, none⟩ = some (.string s2) := by rw [hb.cell, List.getElem?_toArray, List.getElem?_append_left (by omega)]; exact k3
  have c4 : W.cell? ⟨blk, j * 2 + 1, none⟩ = some (.bool d2) := by rw [hb.cell, List.getElem?_toArray, List.getElem?_append_left (by omega)]; exact k4
  have HKS : Hid (∀ V, Below W.heap.size W V → V.cell? ⟨vc, 0, none⟩ = some (.slice (some ⟨blk, 0, none⟩) xs.length c) ∧ V.cell? ⟨blk, i * 2, none⟩ = some (.string s1) ∧ V.cell? ⟨blk, i * 2 + 1, none⟩ = some (.bool d1) ∧ V.cell? ⟨blk, j * 2, none⟩ = some (.string s2) ∧ V.cell? ⟨blk, j * 2 + 1, none⟩ = some (.bool d2)) :=
    Lib.hid fun V hV => ⟨(hV.cell lv).trans cv, (hV.cell lb).trans c1, (hV.cell lb).trans c2, (hV.cell lb).trans c3, (hV.cell lb).trans c4⟩
  have HS1 := Lib.hid (fun V => CompressionAlgorithm_String_calls V s1 d1 d1)
  have HS2 := Lib.hid (fun V => CompressionAlgorithm_String_calls V s2 d2 d2)
  have HD0 := Lib.hid (Below.refl W.heap.size W).drew
  have HT1 : Hid True := Lib.hid trivial
  have HT2 : Hid True := Lib.hid trivial
  have hii : (i : Int) < xs.length := by omega
  have hjj : (j : Int) < xs.length := by omega
  clear hI hb e1 e2 cv c1 c2 c3 c4 hcap k1 k2 k3 k4 hl
  go_enter Try.func45, Try.ntmps45
  go_wp2
  go_region_held3 (fun V => V.cell? ⟨vc, 0, none⟩ = some (.slice (some ⟨blk, 0, none⟩) xs.length c) ∧ V.cell? ⟨blk, i * 2, none⟩ = some (.string s1) ∧ V.cell? ⟨blk, i * 2 + 1, none⟩ = some (.bool d1) ∧ V.cell? ⟨blk, j * 2, none⟩ = some (.string s2) ∧ V.cell? ⟨blk, j * 2 + 1, none⟩ = some (.bool d2)) (first | exact HKS.out _ HD2.out | exact HKS.out _ HD1.out | exact HKS.out _ HD0.out) (first
    | (have _h := HT1; (with_reducible refine Calls.mono (HS1.out _) ?_); rintro e v1 ⟨rfl, hB⟩; have HD1 := Lib.hid (HD0.out.trans (hB.mono HD0.out.size)); clear hB HT1)
    | (have _h := HT1; (with_reducible refine Calls.mono (HS2.out _) ?_); rintro e v1 ⟨rfl, hB⟩; have HD1 := Lib.hid (HD0.out.trans (hB.mono HD0.out.size)); clear hB HT1)
    | (have _h := HT2; (with_reducible refine Calls.mono (HS1.out _) ?_); rintro e v2 ⟨rfl, hB⟩; have HD2 := Lib.hid (HD1.out.trans (hB.mono HD1.out.size)); clear hB HT2)
    | (have _h := HT2; (with_reducible refine Calls.mono (HS2.out _) ?_); rintro e v2 ⟨rfl, hB⟩; have HD2 := Lib.hid (HD1.out.trans (hB.mono HD1.out.size)); clear hB HT2))
  all_goals
    go_wp2
    go_ret
    exact ⟨_, rfl, HI.out.grow hblk (grown_of_below HD2.out (Nat.le_refl _) none) (by intro k hk; cases hk), grown_of_below HD2.out (Nat.le_refl _) _⟩
set_option maxRecDepth 100000 in
set_option maxHeartbeats 4000000 in
theorem lessEllipticCurveAlgorithm {w0 W : World} {blk vc n c : Nat} {L0 : List (ByteArray × Bool)} {rest : List Value} (hcap : Blk w0 vc 61 #[.slice (some ⟨blk, 0, none⟩) n c]) (hvb : vc ≠ blk) (hblk : blk < w0.heap.size) (hI : Iv f2 w0 blk 46 n L0 rest W) (hn : n < 1000) (i j : Nat) (hi : i < n) (hj : j < n) :
    Calls Try.prog 47 #[.int .i64 i, .int .i64 j, .pointer (some ⟨vc, 0, none⟩)] W fun e W' => ∃ b : Bool, e = .returned (.bool b) ∧ Iv f2 w0 blk 46 n L0 rest W' ∧ W.grownBy W' (some blk) := by
  have HI := Lib.hid hI
  have cv : W.cell? ⟨vc, 0, none⟩ = some (.slice (some ⟨blk, 0, none⟩) n c) := by rw [(hcap.grown hI.gr (by intro e; injection e with e; exact hvb e)).cell]; rfl
  have lv : vc < W.heap.size := Nat.lt_of_lt_of_le hcap.lt hI.gr.size
  have lb : blk < W.heap.size := Nat.lt_of_lt_of_le hblk hI.gr.size
  obtain ⟨xs, rfl, _, hb⟩ := hI.ex
  obtain ⟨s1, d1, e1⟩ : ∃ s1 d1, xs[i] = (s1, d1) := ⟨_, _, rfl⟩
  obtain ⟨s2, d2, e2⟩ : ∃ s2 d2, xs[j] = (s2, d2) := ⟨_, _, rfl⟩
  have hl := len2 xs
  obtain ⟨k1, k2⟩ := flat2_at xs i hi
  obtain ⟨k3, k4⟩ := flat2_at xs j hj
  rw [e1] at k1 k2
  rw [e2] at k3 k4
  have c1 : W.cell? ⟨blk, i * 2, none⟩ = some (.string s1) := by rw [hb.cell, List.getElem?_toArray, List.getElem?_append_left (by omega)]; exact k1
  have c2 : W.cell? ⟨blk, i * 2 + 1, none⟩ = some (.bool d1) := by rw [hb.cell, List.getElem?_toArray, List.getElem?_append_left (by omega)]; exact k2
  have c3 : W.cell? ⟨blk, j * 2, none⟩ = some (.string s2) := by rw [hb.cell, List.getElem?_toArray, List.getElem?_append_left (by omega)]; exact k3
  have c4 : W.cell? ⟨blk, j * 2 + 1, none⟩ = some (.bool d2) := by rw [hb.cell, List.getElem?_toArray, List.getElem?_append_left (by omega)]; exact k4
  have HKS : Hid (∀ V, Below W.heap.size W V → V.cell? ⟨vc, 0, none⟩ = some (.slice (some ⟨blk, 0, none⟩) xs.length c) ∧ V.cell? ⟨blk, i * 2, none⟩ = some (.string s1) ∧ V.cell? ⟨blk, i * 2 + 1, none⟩ = some (.bool d1) ∧ V.cell? ⟨blk, j * 2, none⟩ = some (.string s2) ∧ V.cell? ⟨blk, j * 2 + 1, none⟩ = some (.bool d2)) :=
    Lib.hid fun V hV => ⟨(hV.cell lv).trans cv, (hV.cell lb).trans c1, (hV.cell lb).trans c2, (hV.cell lb).trans c3, (hV.cell lb).trans c4⟩
  have HS1 := Lib.hid (fun V => EllipticCurveAlgorithm_String_calls V s1 d1 d1)
  have HS2 := Lib.hid (fun V => EllipticCurveAlgorithm_String_calls V s2 d2 d2)
  have HD0 := Lib.hid (Below.refl W.heap.size W).drew
  have HT1 : Hid True := Lib.hid trivial
  have HT2 : Hid True := Lib.hid trivial
  have hii : (i : Int) < xs.length := by omega
  have hjj : (j : Int) < xs.length := by omega
  clear hI hb e1 e2 cv c1 c2 c3 c4 hcap k1 k2 k3 k4 hl
  go_enter Try.func47, Try.ntmps47
  go_wp2
  go_region_held3 (fun V => V.cell? ⟨vc, 0, none⟩ = some (.slice (some ⟨blk, 0, none⟩) xs.length c) ∧ V.cell? ⟨blk, i * 2, none⟩ = some (.string s1) ∧ V.cell? ⟨blk, i * 2 + 1, none⟩ = some (.bool d1) ∧ V.cell? ⟨blk, j * 2, none⟩ = some (.string s2) ∧ V.cell? ⟨blk, j * 2 + 1, none⟩ = some (.bool d2)) (first | exact HKS.out _ HD2.out | exact HKS.out _ HD1.out | exact HKS.out _ HD0.out) (first
    | (have _h := HT1; (with_reducible refine Calls.mono (HS1.out _) ?_); rintro e v1 ⟨rfl, hB⟩; have HD1 := Lib.hid (HD0.out.trans (hB.mono HD0.out.size)); clear hB HT1)
    | (have _h := HT1; (with_reducible refine Calls.mono (HS2.out _) ?_); rintro e v1 ⟨rfl, hB⟩; have HD1 := Lib.hid (HD0.out.trans (hB.mono HD0.out.size)); clear hB HT1)
    | (have _h := HT2; (with_reducible refine Calls.mono (HS1.out _) ?_); rintro e v2 ⟨rfl, hB⟩; have HD2 := Lib.hid (HD1.out.trans (hB.mono HD1.out.size)); clear hB HT2)
    | (have _h := HT2; (with_reducible refine Calls.mono (HS2.out _) ?_); rintro e v2 ⟨rfl, hB⟩; have HD2 := Lib.hid (HD1.out.trans (hB.mono HD1.out.size)); clear hB HT2))
  all_goals
    go_wp2
    go_ret
    exact ⟨_, rfl, HI.out.grow hblk (grown_of_below HD2.out (Nat.le_refl _) none) (by intro k hk; cases hk), grown_of_below HD2.out (Nat.le_refl _) _⟩
set_option maxRecDepth 100000 in
set_option maxHeartbeats 4000000 in
theorem lessKeyType {w0 W : World} {blk vc n c : Nat} {L0 : List (ByteArray × Bool)} {rest : List Value} (hcap : Blk w0 vc 63 #[.slice (some ⟨blk, 0, none⟩) n c]) (hvb : vc ≠ blk) (hblk : blk < w0.heap.size) (hI : Iv f2 w0 blk 49 n L0 rest W) (hn : n < 1000) (i j : Nat) (hi : i < n) (hj : j < n) :
    Calls Try.prog 49 #[.int .i64 i, .int .i64 j, .pointer (some ⟨vc, 0, none⟩)] W fun e W' => ∃ b : Bool, e = .returned (.bool b) ∧ Iv f2 w0 blk 49 n L0 rest W' ∧ W.grownBy W' (some blk) := by
  have HI := Lib.hid hI
  have cv : W.cell? ⟨vc, 0, none⟩ = some (.slice (some ⟨blk, 0, none⟩) n c) := by rw [(hcap.grown hI.gr (by intro e; injection e with e; exact hvb e)).cell]; rfl
  have lv : vc < W.heap.size := Nat.lt_of_lt_of_le hcap.lt hI.gr.size
  have lb : blk < W.heap.size := Nat.lt_of_lt_of_le hblk hI.gr.size
  obtain ⟨xs, rfl, _, hb⟩ := hI.ex
  obtain ⟨s1, d1, e1⟩ : ∃ s1 d1, xs[i] = (s1, d1) := ⟨_, _, rfl⟩
  obtain ⟨s2, d2, e2⟩ : ∃ s2 d2, xs[j] = (s2, d2) := ⟨_, _, rfl⟩
  have hl := len2 xs
  obtain ⟨k1, k2⟩ := flat2_at xs i hi
  obtain ⟨k3, k4⟩ := flat2_at xs j hj
  rw [e1] at k1 k2
  rw [e2] at k3 k4
  have c1 : W.cell? ⟨blk, i * 2, none⟩ = some (.string s1) := by rw [hb.cell, List.getElem?_toArray, List.getElem?_append_left (by omega)]; exact k1
  have c2 : W.cell? ⟨blk, i * 2 + 1, none⟩ = some (.bool d1) := by rw [hb.cell, List.getElem?_toArray, List.getElem?_append_left (by omega)]; exact k2
  have c3 : W.cell? ⟨blk, j * 2, none⟩ = some (.string s2) := by rw [hb.cell, List.getElem?_toArray, List.getElem?_append_left (by omega)]; exact k3
  have c4 : W.cell? ⟨blk, j * 2 + 1, none⟩ = some (.bool d2) := by rw [hb.cell, List.getElem?_toArray, List.getElem?_append_left (by omega)]; exact k4
  have HKS : Hid (∀ V, Below W.heap.size W V → V.cell? ⟨vc, 0, none⟩ = some (.slice (some ⟨blk, 0, none⟩) xs.length c) ∧ V.cell? ⟨blk, i * 2, none⟩ = some (.string s1) ∧ V.cell? ⟨blk, i * 2 + 1, none⟩ = some (.bool d1) ∧ V.cell? ⟨blk, j * 2, none⟩ = some (.string s2) ∧ V.cell? ⟨blk, j * 2 + 1, none⟩ = some (.bool d2)) :=
    Lib.hid fun V hV => ⟨(hV.cell lv).trans cv, (hV.cell lb).trans c1, (hV.cell lb).trans c2, (hV.cell lb).trans c3, (hV.cell lb).trans c4⟩
  have HS1 := Lib.hid (fun V => KeyType_String_calls V s1 d1 d1)
  have HS2 := Lib.hid (fun V => KeyType_String_calls V s2 d2 d2)
  have HD0 := Lib.hid (Below.refl W.heap.size W).drew
  have HT1 : Hid True := Lib.hid trivial
  have HT2 : Hid True := Lib.hid trivial
  have hii : (i : Int) < xs.length := by omega
  have hjj : (j : Int) < xs.length := by omega
  clear hI hb e1 e2 cv c1 c2 c3 c4 hcap k1 k2 k3 k4 hl
  go_enter Try.func49, Try.ntmps49
  go_wp2
  go_region_held3 (fun V => V.cell? ⟨vc, 0, none⟩ = some (.slice (some ⟨blk, 0, none⟩) xs.length c) ∧ V.cell? ⟨blk, i * 2, none⟩ = some (.string s1) ∧ V.cell? ⟨blk, i * 2 + 1, none⟩ = some (.bool d1) ∧ V.cell? ⟨blk, j * 2, none⟩ = some (.string s2) ∧ V.cell? ⟨blk, j * 2 + 1, none⟩ = some (.bool d2)) (first | exact HKS.out _ HD2.out | exact HKS.out _ HD1.out | exact HKS.out _ HD0.out) (first
    | (have _h := HT1; (with_reducible refine Calls.mono (HS1.out _) ?_); rintro e v1 ⟨rfl, hB⟩; have HD1 := Lib.hid (HD0.out.trans (hB.mono HD0.out.size)); clear hB HT1)
    | (have _h := HT1; (with_reducible refine Calls.mono (HS2.out _) ?_); rintro e v1 ⟨rfl, hB⟩; have HD1 := Lib.hid (HD0.out.trans (hB.mono HD0.out.size)); clear hB HT1)
    | (have _h := HT2; (with_reducible refine Calls.mono (HS1.out _) ?_); rintro e v2 ⟨rfl, hB⟩; have HD2 := Lib.hid (HD1.out.trans (hB.mono HD1.out.size)); clear hB HT2)
    | (have _h := HT2; (with_reducible refine Calls.mono (HS2.out _) ?_); rintro e v2 ⟨rfl, hB⟩; have HD2 := Lib.hid (HD1.out.trans (hB.mono HD1.out.size)); clear hB HT2))
  all_goals
    go_wp2
    go_ret
    exact ⟨_, rfl, HI.out.grow hblk (grown_of_below HD2.out (Nat.le_refl _) none) (by intro k hk; cases hk), grown_of_below HD2.out (Nat.le_refl _) _⟩
end Go.Proofs.Ytenneobgjalfhaa.So
