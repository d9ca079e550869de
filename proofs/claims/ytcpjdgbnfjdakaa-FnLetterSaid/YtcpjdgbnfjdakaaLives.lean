/- Small functions of the laws: a flag's place, its long argument; that one set is parsed. -/
import Derived.Test.YtcpjdgbnfjdakaaCat
import Derived.Test.YtcpjdgbnfjdakaaImplQ
namespace Go.Proofs.Ytcpjdgbnfjdakaa
open Go.RowKit
set_option linter.unusedVariables false
set_option linter.unusedSimpArgs false

theorem flag14_any (fa : Option Addr) (n fc : Nat) (p u fold : Value) (i : Int) (w : World) (hn : n ≤ 2147483647) :
    Calls Try.prog 38 #[.agg #[.slice fa n fc, p, u, fold], .int .i64 i] w fun e w' => e = .returned (.bool (decide (0 ≤ i) && decide (i < (n : Int)))) ∧ Below w.heap.size w w' := by
  go_enter Try.func38, Try.ntmps38
  by_cases h0 : 0 ≤ i
  · by_cases h1 : i < (n : Int)
    · have e1 : decide (0 ≤ i) = true := decide_eq_true h0
      have e2 : decide (i < (n : Int)) = true := decide_eq_true h1
      rw [e1, e2]
      go_wp2_with fail
      go_ret
      exact ⟨rfl, by (repeat (first | (with_reducible exact Below.refl _ _) | (with_reducible assumption) | ((with_reducible refine Below.alloc ?_ ?_ _); rotate_left; focus ((try simp only [World.size_alloc, size_setCell, World.heap_drewN]); (try omega); done)) | ((with_reducible refine Below.setCell ?_ ?_ _); rotate_left; focus ((try simp only [World.size_alloc, size_setCell, World.heap_drewN]); (try omega); done)) | (with_reducible refine Below.drewN' ?_) | (with_reducible refine Below.drew ?_)))⟩
    · have e1 : decide (0 ≤ i) = true := decide_eq_true h0
      have e2 : decide (i < (n : Int)) = false := decide_eq_false h1
      rw [e1, e2]
      go_wp2_with fail
      go_ret
      exact ⟨rfl, by (repeat (first | (with_reducible exact Below.refl _ _) | (with_reducible assumption) | ((with_reducible refine Below.alloc ?_ ?_ _); rotate_left; focus ((try simp only [World.size_alloc, size_setCell, World.heap_drewN]); (try omega); done)) | ((with_reducible refine Below.setCell ?_ ?_ _); rotate_left; focus ((try simp only [World.size_alloc, size_setCell, World.heap_drewN]); (try omega); done)) | (with_reducible refine Below.drewN' ?_) | (with_reducible refine Below.drew ?_)))⟩
  · have e1 : decide (0 ≤ i) = false := decide_eq_false h0
    rw [e1]
    go_wp2_with fail
    go_ret
    exact ⟨rfl, by (repeat (first | (with_reducible exact Below.refl _ _) | (with_reducible assumption) | ((with_reducible refine Below.alloc ?_ ?_ _); rotate_left; focus ((try simp only [World.size_alloc, size_setCell, World.heap_drewN]); (try omega); done)) | ((with_reducible refine Below.setCell ?_ ?_ _); rotate_left; focus ((try simp only [World.size_alloc, size_setCell, World.heap_drewN]); (try omega); done)) | (with_reducible refine Below.drewN' ?_) | (with_reducible refine Below.drew ?_)))⟩

/-- The long argument that gives a flag a value. -/
def longT (name value : ByteArray) : ByteArray := ((⟨#[45, 45]⟩ ++ name) ++ ⟨#[61]⟩) ++ value

theorem long14_any (fv : Value) (fs : List FlagD) (p u fold : Value) (k : Nat) (value : ByteArray) (w : World) (hv : FlagRows w fv fs) (hk : k < fs.length) (hl : fs.length ≤ 2147483647) (hn : fs[k].name.size ≤ 2147483647) (hvs : value.size ≤ 2147483647) :
    Calls Try.prog 39 #[.agg #[fv, p, u, fold], .int .i64 k, .string value] w fun e w' => e = .returned (.string (longT fs[k].name value)) ∧ Below w.heap.size w w' := by
  obtain ⟨a, cap, rfl⟩ := hv.len
  obtain ⟨b, off, ba, bc, rfl, hb, q0, -⟩ := hv.row hk
  have q : (w.alloc (.cells #[.slice (some ⟨b, off, none⟩) fs.length cap, p, u, fold] 24)).cell? ⟨b, off + k * 4, none⟩ = some (.string fs[k].name) := (World.cell?_alloc_past _ b _ hb).trans q0
  generalize fs[k].name = name at *
  clear hv q0
  have n1 : ¬ 9223372036854775807 < 2 + name.size := by omega
  have n2 : ¬ 9223372036854775807 < 2 + name.size + 1 := by omega
  have n3 : ¬ 9223372036854775807 < 2 + name.size + 1 + value.size := by omega
  clear hn hvs
  go_enter Try.func39, Try.ntmps39
  go_wp2_with fail
  go_ret
  exact ⟨rfl, by (repeat (first | (with_reducible exact Below.refl _ _) | (with_reducible assumption) | ((with_reducible refine Below.alloc ?_ ?_ _); rotate_left; focus ((try simp only [World.size_alloc, size_setCell, World.heap_drewN]); (try omega); done)) | ((with_reducible refine Below.setCell ?_ ?_ _); rotate_left; focus ((try simp only [World.size_alloc, size_setCell, World.heap_drewN]); (try omega); done)) | (with_reducible refine Below.drewN' ?_) | (with_reducible refine Below.drew ?_)))⟩

/-- The set of lives14. -/
def livesF : FlagD := ⟨⟨#[110, 117, 109]⟩, ⟨#[110]⟩, ⟨#[]⟩, []⟩
theorem lives_goes : goesF (setD [livesF] false false 0) .sets [⟨#[45, 110, 53]⟩, ⟨#[120]⟩] begin0 = ⟨.none, [(0, ⟨#[53]⟩)], [⟨#[120]⟩], -1⟩ := by kernel_rfl

theorem byteO_one (f : ByteArray) (c : UInt8) : byteO ⟨#[c]⟩ 0 = some c := rfl

theorem lives_right : RightP (setD [livesF] false false 0) [livesF] := by
  refine ⟨fun i j f g hf hg _ => ?_, fun i f hf => ?_, fun i j f g c hf hg _ _ => ?_, fun i f hf => ?_, by decide⟩
  · have h1 := (List.getElem?_eq_some_iff.1 hf).1
    have h2 := (List.getElem?_eq_some_iff.1 hg).1
    simp only [List.length_singleton] at h1 h2; omega
  · have := List.mem_of_getElem? hf
    simp only [List.mem_singleton] at this
    subst this
    exact .inr rfl
  · have h1 := (List.getElem?_eq_some_iff.1 hf).1
    have h2 := (List.getElem?_eq_some_iff.1 hg).1
    simp only [List.length_singleton] at h1 h2; omega
  · have := List.mem_of_getElem? hf
    simp only [List.mem_singleton] at this
    subst this
    exact ⟨by decide, by decide, by decide⟩

set_option maxRecDepth 100000 in
set_option maxHeartbeats 400000 in
theorem lives14_any (w : World) : Calls Try.prog 32 #[] w fun e w' => e = .returned (.bool true) ∧ Below w.heap.size w w' := by
  obtain ⟨w1, hw1⟩ : ∃ w1, (w.alloc (.cells #[.string ⟨#[110, 117, 109]⟩, .string ⟨#[110]⟩, .string ⟨#[]⟩, .slice none 0 0] 62)).alloc (.cells #[.string ⟨#[45, 110, 53]⟩, .string ⟨#[120]⟩] 9) = w1 := ⟨_, rfl⟩
  have hb1 : Below w.heap.size w w1 := by rw [← hw1]; (repeat (first | (with_reducible exact Below.refl _ _) | (with_reducible assumption) | ((with_reducible refine Below.alloc ?_ ?_ _); rotate_left; focus ((try simp only [World.size_alloc, size_setCell, World.heap_drewN]); (try omega); done)) | ((with_reducible refine Below.setCell ?_ ?_ _); rotate_left; focus ((try simp only [World.size_alloc, size_setCell, World.heap_drewN]); (try omega); done)) | (with_reducible refine Below.drewN' ?_) | (with_reducible refine Below.drew ?_)))
  have hF : w1.heap[w.heap.size]? = some (.cells #[.string ⟨#[110, 117, 109]⟩, .string ⟨#[110]⟩, .string ⟨#[]⟩, .slice none 0 0] 62 (0, 0)) := by rw [← hw1]; (repeat (first | (with_reducible assumption) | ((with_reducible refine heap_past' ?_ ?_); focus ((try simp only [World.size_alloc, size_setCell, World.heap_drewN]); (try omega); done)) | ((with_reducible refine heap_at _ _ _ ?_); focus ((try simp only [World.size_alloc, size_setCell, World.heap_drewN]); (try omega); done)) | ((with_reducible refine heap_ne' ?_ ?_); focus ((try simp only [World.size_alloc, size_setCell, World.heap_drewN]); (try omega); done)) | (with_reducible refine heap_drew' ?_)))
  have hT : w1.heap[w.heap.size + 1]? = some (.cells #[.string ⟨#[45, 110, 53]⟩, .string ⟨#[120]⟩] 9 (0, 0)) := by rw [← hw1]; (repeat (first | (with_reducible assumption) | ((with_reducible refine heap_past' ?_ ?_); focus ((try simp only [World.size_alloc, size_setCell, World.heap_drewN]); (try omega); done)) | ((with_reducible refine heap_at _ _ _ ?_); focus ((try simp only [World.size_alloc, size_setCell, World.heap_drewN]); (try omega); done)) | ((with_reducible refine heap_ne' ?_ ?_); focus ((try simp only [World.size_alloc, size_setCell, World.heap_drewN]); (try omega); done)) | (with_reducible refine heap_drew' ?_)))
  have hFR : FlagRows w1 (.slice (some ⟨w.heap.size, 0, none⟩) 1 1) [livesF] := by
    refine ⟨_, _, rfl, .inr ⟨_, 0, _, _, _, rfl, hF, fun i f hf => ?_⟩⟩
    have h1 := (List.getElem?_eq_some_iff.1 hf).1
    have h2 := List.mem_of_getElem? hf
    simp only [List.mem_singleton] at h2
    simp only [List.length_singleton] at h1
    obtain rfl : i = 0 := by omega
    subst h2
    exact ⟨_, rfl, rfl, rfl, rfl, Strs.nil _ _ _⟩
  have hTT : Texts w1 (.slice (some ⟨w.heap.size + 1, 0, none⟩) 2 2) [⟨#[45, 110, 53]⟩, ⟨#[120]⟩] :=
    ⟨Strs.made [⟨#[45, 110, 53]⟩, ⟨#[120]⟩] 2 hT, _, _, _, rfl, Nat.le_refl _⟩
  have C := implParse_any (.slice (some ⟨w.heap.size, 0, none⟩) 1 1) (.slice (some ⟨w.heap.size + 1, 0, none⟩) 2 2) false false 0 (setD [livesF] false false 0) w1 hFR rfl rfl rfl rfl lives_right [⟨#[45, 110, 53]⟩, ⟨#[120]⟩] hTT (by decide) (by decide) (by decide)
  rw [lives_goes] at C
  have HC := Lib.hid C
  clear C hFR hTT hF hT
  go_enter Try.func32, Try.ntmps32
  go_wp2_with fail
  refine HC.out.mono ?_
  rintro e w2 ⟨⟨gv, av, cv, rfl, hg, ht, hc⟩, hb2⟩
  have hb2 := Below.after hb1 hb2
  obtain ⟨g1, g2, rfl, -⟩ := hg.len
  obtain ⟨t1, t2, rfl, -⟩ := ht.len
  obtain ⟨c1, c2, rfl⟩ := hc.len
  obtain ⟨gb, gof, rfl, q1, q2⟩ := hg.cell (i := 0) (by decide)
  obtain ⟨tb, tof, rfl, q3⟩ := ht.strs.cell (by decide)
  have q3 := q3 0 (by decide)
  have l1 := World.block_lt_of_cell? w2 _ q2
  have l2 := World.block_lt_of_cell? w2 _ q3
  simp only [hCells, List.length_singleton, Nat.zero_mul, Nat.add_zero, List.getElem_cons_zero] at q1 q2 q3 l1 l2 ⊢
  clear hg ht hc HC hw1
  go_wp2_with fail
  go_ret
  exact ⟨rfl, hb2.alloc hb2.size _⟩
end Go.Proofs.Ytcpjdgbnfjdakaa
