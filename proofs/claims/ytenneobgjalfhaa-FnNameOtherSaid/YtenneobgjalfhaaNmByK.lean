/- The lists of the algorithms that the registry holds: they hold just what is built in; no condition. Printed by gen_lists.py. -/
import Derived.Test.YtenneobgjalfhaaNmLists
import Derived.Deep.LoopGhost
import Derived.Outline
set_option linter.unusedVariables false
set_option linter.unusedSimpArgs false
namespace Go.Proofs.Ytenneobgjalfhaa.So
open Go.RowKit Go.Proofs.Ytenneobgjalfhaa.K Go.Proofs.Ytenneobgjalfhaa.Nm Go.Lib
theorem reg_cases {q : ByteArray × Value} (h : q ∈ regTab) : (∃ p ∈ tabContentEncryption, q = entCE p) ∨ (∃ p ∈ tabKeyEncryption, q = entKE p) ∨ (∃ p ∈ tabSignature, q = entSI p) := by
  unfold regTab at h
  rcases List.mem_append.1 h with h | h
  · obtain ⟨p, hp, e⟩ := List.mem_map.1 h
    exact .inl ⟨p, hp, e.symm⟩
  rcases List.mem_append.1 h with h | h
  · obtain ⟨p, hp, e⟩ := List.mem_map.1 h
    exact .inr (.inl ⟨p, hp, e.symm⟩)
  · obtain ⟨p, hp, e⟩ := List.mem_map.1 h
    exact .inr (.inr ⟨p, hp, e.symm⟩)
theorem keepsSignatureAlgorithm {w0 : World} {blk vc n c : Nat} {L0 : List (ByteArray × Bool × Bool)} {rest : List Value} {ie : TypeInfo} (hcap : Blk w0 vc 76 #[.slice (some ⟨blk, 0, none⟩) n c]) (hvb : vc ≠ blk) (hblk : blk < w0.heap.size) (hn : n < 1000)
    (hie : Try.prog.info? 66 = some ie) (hs : ie.size = 1) :
    Keeps 51 71 #[.pointer (some ⟨vc, 0, none⟩)] #[.slice (some ⟨blk, 0, none⟩) n c, typeHandle Try.prog 66] (Iv (fun p => [vSignatureAlgorithm p]) w0 blk 66 n L0 rest) blk w0.heap.size n where
  size := fun W h => h.gr.size
  row := hblk
  most := hn
  grow := fun W W' r h hg hr => h.grow hblk hg hr
  drew := fun W h => h.drew
  enters := fun a W => by kernel_rfl
  less := fun W i j h hi hj => lessSignatureAlgorithm hcap hvb hblk h hn i j hi hj
  swap := fun W i j h hi hj => swap1 vSignatureAlgorithm (fun _ => rfl) hie hs (fun w => by kernel_rfl) h c i j hi hj
def selSignature (q : ByteArray × Value) : Bool := decide (q.1.data ∈ tabSignature.map (·.1.data))
theorem selSignature_own : ∀ p ∈ tabSignature, selSignature (entSI p) = true := fun p hp => by
  unfold selSignature
  rw [decide_eq_true_iff]
  exact List.mem_map_of_mem (f := fun p : ByteArray × Bool × Bool => p.1.data) hp
theorem keepsKeyEncryptionAlgorithm {w0 : World} {blk vc n c : Nat} {L0 : List (ByteArray × Bool × Bool)} {rest : List Value} {ie : TypeInfo} (hcap : Blk w0 vc 76 #[.slice (some ⟨blk, 0, none⟩) n c]) (hvb : vc ≠ blk) (hblk : blk < w0.heap.size) (hn : n < 1000)
    (hie : Try.prog.info? 66 = some ie) (hs : ie.size = 1) :
    Keeps 51 71 #[.pointer (some ⟨vc, 0, none⟩)] #[.slice (some ⟨blk, 0, none⟩) n c, typeHandle Try.prog 66] (Iv (fun p => [vKeyEncryptionAlgorithm p]) w0 blk 66 n L0 rest) blk w0.heap.size n where
  size := fun W h => h.gr.size
  row := hblk
  most := hn
  grow := fun W W' r h hg hr => h.grow hblk hg hr
  drew := fun W h => h.drew
  enters := fun a W => by kernel_rfl
  less := fun W i j h hi hj => lessKeyEncryptionAlgorithm hcap hvb hblk h hn i j hi hj
  swap := fun W i j h hi hj => swap1 vKeyEncryptionAlgorithm (fun _ => rfl) hie hs (fun w => by kernel_rfl) h c i j hi hj
def selKeyEncryption (q : ByteArray × Value) : Bool := decide (q.1.data ∈ tabKeyEncryption.map (·.1.data))
theorem selKeyEncryption_own : ∀ p ∈ tabKeyEncryption, selKeyEncryption (entKE p) = true := fun p hp => by
  unfold selKeyEncryption
  rw [decide_eq_true_iff]
  exact List.mem_map_of_mem (f := fun p : ByteArray × Bool × Bool => p.1.data) hp
theorem keepsContentEncryptionAlgorithm {w0 : World} {blk vc n c : Nat} {L0 : List (ByteArray × Bool)} {rest : List Value} {ie : TypeInfo} (hcap : Blk w0 vc 76 #[.slice (some ⟨blk, 0, none⟩) n c]) (hvb : vc ≠ blk) (hblk : blk < w0.heap.size) (hn : n < 1000)
    (hie : Try.prog.info? 66 = some ie) (hs : ie.size = 1) :
    Keeps 51 71 #[.pointer (some ⟨vc, 0, none⟩)] #[.slice (some ⟨blk, 0, none⟩) n c, typeHandle Try.prog 66] (Iv (fun p => [vContentEncryptionAlgorithm p]) w0 blk 66 n L0 rest) blk w0.heap.size n where
  size := fun W h => h.gr.size
  row := hblk
  most := hn
  grow := fun W W' r h hg hr => h.grow hblk hg hr
  drew := fun W h => h.drew
  enters := fun a W => by kernel_rfl
  less := fun W i j h hi hj => lessContentEncryptionAlgorithm hcap hvb hblk h hn i j hi hj
  swap := fun W i j h hi hj => swap1 vContentEncryptionAlgorithm (fun _ => rfl) hie hs (fun w => by kernel_rfl) h c i j hi hj
def selContentEncryption (q : ByteArray × Value) : Bool := decide (q.1.data ∈ tabContentEncryption.map (·.1.data))
theorem selContentEncryption_own : ∀ p ∈ tabContentEncryption, selContentEncryption (entCE p) = true := fun p hp => by
  unfold selContentEncryption
  rw [decide_eq_true_iff]
  exact List.mem_map_of_mem (f := fun p : ByteArray × Bool => p.1.data) hp
theorem selSignature_KeyEncryption : ∀ p ∈ tabKeyEncryption, selSignature (entKE p) = false := by
  intro p hp
  have h : ∀ p ∈ tabKeyEncryption, p.1.data ∉ tabSignature.map (·.1.data) := by decide
  unfold selSignature
  rw [decide_eq_false_iff_not]
  exact h p hp
theorem selSignature_ContentEncryption : ∀ p ∈ tabContentEncryption, selSignature (entCE p) = false := by
  intro p hp
  have h : ∀ p ∈ tabContentEncryption, p.1.data ∉ tabSignature.map (·.1.data) := by decide
  unfold selSignature
  rw [decide_eq_false_iff_not]
  exact h p hp
theorem filterSignature : regTab.filter selSignature = tabSignature.map entSI := by
  have hC : (tabContentEncryption.map entCE).filter selSignature = [] := by
    rw [List.filter_eq_nil_iff]
    intro q hq
    obtain ⟨p, hp, rfl⟩ := List.mem_map.1 hq
    simp [selSignature_ContentEncryption p hp]
  have hK : (tabKeyEncryption.map entKE).filter selSignature = [] := by
    rw [List.filter_eq_nil_iff]
    intro q hq
    obtain ⟨p, hp, rfl⟩ := List.mem_map.1 hq
    simp [selSignature_KeyEncryption p hp]
  have hS : (tabSignature.map entSI).filter selSignature = tabSignature.map entSI := by
    rw [List.filter_eq_self]
    intro q hq
    obtain ⟨p, hp, rfl⟩ := List.mem_map.1 hq
    exact selSignature_own p hp
  rw [regTab, List.filter_append, List.filter_append, hC, hK, hS]
  simp
theorem selKeyEncryption_Signature : ∀ p ∈ tabSignature, selKeyEncryption (entSI p) = false := by
  intro p hp
  have h : ∀ p ∈ tabSignature, p.1.data ∉ tabKeyEncryption.map (·.1.data) := by decide
  unfold selKeyEncryption
  rw [decide_eq_false_iff_not]
  exact h p hp
theorem selKeyEncryption_ContentEncryption : ∀ p ∈ tabContentEncryption, selKeyEncryption (entCE p) = false := by
  intro p hp
  have h : ∀ p ∈ tabContentEncryption, p.1.data ∉ tabKeyEncryption.map (·.1.data) := by decide
  unfold selKeyEncryption
  rw [decide_eq_false_iff_not]
  exact h p hp
theorem filterKeyEncryption : regTab.filter selKeyEncryption = tabKeyEncryption.map entKE := by
  have hC : (tabContentEncryption.map entCE).filter selKeyEncryption = [] := by
    rw [List.filter_eq_nil_iff]
    intro q hq
    obtain ⟨p, hp, rfl⟩ := List.mem_map.1 hq
    simp [selKeyEncryption_ContentEncryption p hp]
  have hK : (tabKeyEncryption.map entKE).filter selKeyEncryption = tabKeyEncryption.map entKE := by
    rw [List.filter_eq_self]
    intro q hq
    obtain ⟨p, hp, rfl⟩ := List.mem_map.1 hq
    exact selKeyEncryption_own p hp
  have hS : (tabSignature.map entSI).filter selKeyEncryption = [] := by
    rw [List.filter_eq_nil_iff]
    intro q hq
    obtain ⟨p, hp, rfl⟩ := List.mem_map.1 hq
    simp [selKeyEncryption_Signature p hp]
  rw [regTab, List.filter_append, List.filter_append, hC, hK, hS]
  simp
theorem selContentEncryption_Signature : ∀ p ∈ tabSignature, selContentEncryption (entSI p) = false := by
  intro p hp
  have h : ∀ p ∈ tabSignature, p.1.data ∉ tabContentEncryption.map (·.1.data) := by decide
  unfold selContentEncryption
  rw [decide_eq_false_iff_not]
  exact h p hp
theorem selContentEncryption_KeyEncryption : ∀ p ∈ tabKeyEncryption, selContentEncryption (entKE p) = false := by
  intro p hp
  have h : ∀ p ∈ tabKeyEncryption, p.1.data ∉ tabContentEncryption.map (·.1.data) := by decide
  unfold selContentEncryption
  rw [decide_eq_false_iff_not]
  exact h p hp
theorem filterContentEncryption : regTab.filter selContentEncryption = tabContentEncryption.map entCE := by
  have hC : (tabContentEncryption.map entCE).filter selContentEncryption = tabContentEncryption.map entCE := by
    rw [List.filter_eq_self]
    intro q hq
    obtain ⟨p, hp, rfl⟩ := List.mem_map.1 hq
    exact selContentEncryption_own p hp
  have hK : (tabKeyEncryption.map entKE).filter selContentEncryption = [] := by
    rw [List.filter_eq_nil_iff]
    intro q hq
    obtain ⟨p, hp, rfl⟩ := List.mem_map.1 hq
    simp [selContentEncryption_KeyEncryption p hp]
  have hS : (tabSignature.map entSI).filter selContentEncryption = [] := by
    rw [List.filter_eq_nil_iff]
    intro q hq
    obtain ⟨p, hp, rfl⟩ := List.mem_map.1 hq
    simp [selContentEncryption_Signature p hp]
  rw [regTab, List.filter_append, List.filter_append, hC, hK, hS]
  simp
end Go.Proofs.Ytenneobgjalfhaa.So
