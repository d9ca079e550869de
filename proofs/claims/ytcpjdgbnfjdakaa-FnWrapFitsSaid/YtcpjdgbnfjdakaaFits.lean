/- The walks of the laws' tests of size. -/
import Derived.Test.YtcpjdgbnfjdakaaSpecB
namespace Go.Proofs.Ytcpjdgbnfjdakaa
open Go.RowKit
set_option linter.unusedVariables false
set_option linter.unusedSimpArgs false

/-- A truth that, where it is true, tells p. -/
def Tells (p : Prop) (e : Ending) : Prop := ∃ b, e = .returned (.bool b) ∧ (b = true → p)
theorem Tells.no {p : Prop} {v : Value} (h : v = .bool false) : Tells p (.returned v) := ⟨false, by rw [h], by simp⟩
theorem Tells.yes {p : Prop} {v : Value} (h : v = .bool true) (hp : p) : Tells p (.returned v) := ⟨true, by rw [h], fun _ => hp⟩

/-- Texts of a size that a law speaks of. -/
def SmallL (l : List ByteArray) : Prop := l.length ≤ 2147483647 ∧ ∀ s ∈ l, s.size ≤ 2147483647

theorem fits2_any (v : Value) (l : List ByteArray) (w : World) (hv : Strs w v l) (hl : l.length ≤ 9223372036854775807) :
    Calls Try.prog 16 #[v] w fun e w' => Tells (SmallL l) e ∧ w' = w := by
  obtain ⟨a, cap, rfl⟩ := hv.len
  have hcell : ∀ i (h : i < l.length), ∃ b off, a = some ⟨b, off, none⟩ ∧ w.cell? ⟨b, off + i, none⟩ = some (.string l[i]) := by
    intro i h
    obtain ⟨b, off, e, f⟩ := hv.cell (by omega)
    exact ⟨b, off, e, f i h⟩
  have HC := Lib.hid hcell
  clear hcell hv
  go_enter Try.func16, Try.ntmps16
  by_cases h0 : (2147483647 : Int) < (l.length : Int)
  · have d0 : decide ((2147483647 : Int) < (l.length : Int)) = true := decide_eq_true h0
    go_wp2_with fail
    go_ret
    exact ⟨Tells.no rfl, rfl⟩
  · have d0 : decide ((2147483647 : Int) < (l.length : Int)) = false := decide_eq_false h0
    go_wp2_with fail
    go_loop [10] (fun i => ∃ k : Nat, k ≤ l.length ∧ i = .int .i64 k ∧ ∀ j (h : j < l.length), j < k → l[j].size ≤ 2147483647) (fun i => l.length - (intOf i).toNat)
    case atStart => exact ⟨0, Nat.zero_le _, rfl, fun j _ h => by omega⟩
    case round =>
      obtain ⟨k, hk, rfl, hh⟩ := hrel
      have HH := Lib.hid hh
      clear hh
      by_cases hlt : k < l.length
      · obtain ⟨b, off, rfl, hc⟩ := HC.out k hlt
        have HN : Hid (l[k].size ≤ 2147483647 → ∀ j (h : j < l.length), j < k + 1 → l[j].size ≤ 2147483647) := Lib.hid (fun hx j h hj => by
          by_cases e : j = k
          · subst e; exact hx
          · exact HH.out j h (by omega))
        generalize l[k] = x at *
        by_cases h1 : (2147483647 : Int) < (x.size : Int)
        · have d1 : decide ((2147483647 : Int) < (x.size : Int)) = true := decide_eq_true h1
          go_wp2_with fail
          go_ret
          exact ⟨Tells.no rfl, rfl⟩
        · have d1 : decide ((2147483647 : Int) < (x.size : Int)) = false := decide_eq_false h1
          go_wp2_with fail
          go_round
          case rel => exact ⟨k + 1, by omega, by go_num, HN.out (by omega)⟩
          case measure => simp [intOf]; omega
      · go_wp2_with fail
        go_ret
        refine ⟨Tells.yes rfl ⟨by omega, fun s hs => ?_⟩, rfl⟩
        obtain ⟨j, hj, rfl⟩ := List.mem_iff_getElem.1 hs
        exact HH.out j hj (by omega)

/-- Flags of a size that a law speaks of. -/
def SmallF (f : FlagD) : Prop := f.name.size ≤ 2147483647 ∧ f.short.size ≤ 2147483647 ∧ f.noopt.size ≤ 2147483647 ∧ SmallL f.bad

theorem fits21_any (f : FlagD) (bv : Value) (w : World) (hv : Strs w bv f.bad) (hl : f.bad.length ≤ 9223372036854775807) :
    Calls Try.prog 75 #[.agg #[.string f.name, .string f.short, .string f.noopt, bv]] w fun e w' => Tells (SmallF f) e ∧ Below w.heap.size w w' := by
  obtain ⟨a, cap, rfl⟩ := hv.len
  have hv1 := hv.alloc (.cells #[.string f.name, .string f.short, .string f.noopt, .slice a f.bad.length cap] 62)
  have HF := Lib.hid (fits2_any _ f.bad _ hv1 hl)
  clear hv hv1
  have HS : Hid (f.name.size ≤ 2147483647 → f.short.size ≤ 2147483647 → f.noopt.size ≤ 2147483647 → SmallL f.bad → SmallF f) := Lib.hid fun a b c d => ⟨a, b, c, d⟩
  generalize SmallF f = SF at *
  generalize SmallL f.bad = SB at *
  generalize f.name = nm at *
  generalize f.short = sh at *
  generalize f.noopt = no at *
  go_enter Try.func75, Try.ntmps75
  by_cases h0 : (2147483647 : Int) < (nm.size : Int)
  · have d0 : decide ((2147483647 : Int) < (nm.size : Int)) = true := decide_eq_true h0
    go_wp2_with fail
    go_ret
    exact ⟨Tells.no rfl, by (repeat (first | (with_reducible exact Below.refl _ _) | (with_reducible assumption) | ((with_reducible refine Below.alloc ?_ ?_ _); rotate_left; focus ((try simp only [World.size_alloc, size_setCell, World.heap_drewN]); (try omega); done)) | ((with_reducible refine Below.setCell ?_ ?_ _); rotate_left; focus ((try simp only [World.size_alloc, size_setCell, World.heap_drewN]); (try omega); done)) | (with_reducible refine Below.drewN' ?_) | (with_reducible refine Below.drew ?_)))⟩
  have d0 : decide ((2147483647 : Int) < (nm.size : Int)) = false := decide_eq_false h0
  by_cases h1 : (2147483647 : Int) < (sh.size : Int)
  · have d1 : decide ((2147483647 : Int) < (sh.size : Int)) = true := decide_eq_true h1
    go_wp2_with fail
    go_ret
    exact ⟨Tells.no rfl, by (repeat (first | (with_reducible exact Below.refl _ _) | (with_reducible assumption) | ((with_reducible refine Below.alloc ?_ ?_ _); rotate_left; focus ((try simp only [World.size_alloc, size_setCell, World.heap_drewN]); (try omega); done)) | ((with_reducible refine Below.setCell ?_ ?_ _); rotate_left; focus ((try simp only [World.size_alloc, size_setCell, World.heap_drewN]); (try omega); done)) | (with_reducible refine Below.drewN' ?_) | (with_reducible refine Below.drew ?_)))⟩
  have d1 : decide ((2147483647 : Int) < (sh.size : Int)) = false := decide_eq_false h1
  by_cases h2 : (2147483647 : Int) < (no.size : Int)
  · have d2 : decide ((2147483647 : Int) < (no.size : Int)) = true := decide_eq_true h2
    go_wp2_with fail
    go_ret
    exact ⟨Tells.no rfl, by (repeat (first | (with_reducible exact Below.refl _ _) | (with_reducible assumption) | ((with_reducible refine Below.alloc ?_ ?_ _); rotate_left; focus ((try simp only [World.size_alloc, size_setCell, World.heap_drewN]); (try omega); done)) | ((with_reducible refine Below.setCell ?_ ?_ _); rotate_left; focus ((try simp only [World.size_alloc, size_setCell, World.heap_drewN]); (try omega); done)) | (with_reducible refine Below.drewN' ?_) | (with_reducible refine Below.drew ?_)))⟩
  have d2 : decide ((2147483647 : Int) < (no.size : Int)) = false := decide_eq_false h2
  go_wp2_with fail
  refine HF.out.mono ?_
  rintro e w' ⟨⟨b, rfl, hb⟩, rfl⟩
  have HB := Lib.hid hb
  clear hb
  cases b with
  | true =>
    go_wp2_with fail
    go_ret
    exact ⟨Tells.yes rfl (HS.out (by omega) (by omega) (by omega) (HB.out (by trivial))), by (repeat (first | (with_reducible exact Below.refl _ _) | (with_reducible assumption) | ((with_reducible refine Below.alloc ?_ ?_ _); rotate_left; focus ((try simp only [World.size_alloc, size_setCell, World.heap_drewN]); (try omega); done)) | ((with_reducible refine Below.setCell ?_ ?_ _); rotate_left; focus ((try simp only [World.size_alloc, size_setCell, World.heap_drewN]); (try omega); done)) | (with_reducible refine Below.drewN' ?_) | (with_reducible refine Below.drew ?_)))⟩
  | false =>
    go_wp2_with fail
    go_ret
    exact ⟨Tells.no rfl, by (repeat (first | (with_reducible exact Below.refl _ _) | (with_reducible assumption) | ((with_reducible refine Below.alloc ?_ ?_ _); rotate_left; focus ((try simp only [World.size_alloc, size_setCell, World.heap_drewN]); (try omega); done)) | ((with_reducible refine Below.setCell ?_ ?_ _); rotate_left; focus ((try simp only [World.size_alloc, size_setCell, World.heap_drewN]); (try omega); done)) | (with_reducible refine Below.drewN' ?_) | (with_reducible refine Below.drew ?_)))⟩

def SmallFs (fs : List FlagD) : Prop := fs.length ≤ 2147483647 ∧ ∀ f ∈ fs, SmallF f

theorem fits20_any (v : Value) (fs : List FlagD) (w : World) (hv : FlagRows w v fs) (hl : fs.length ≤ 9223372036854775807) (hbl : ∀ f ∈ fs, f.bad.length ≤ 9223372036854775807) :
    Calls Try.prog 45 #[v] w fun e w' => Tells (SmallFs fs) e ∧ Below w.heap.size w w' := by
  obtain ⟨a, cap, rfl⟩ := hv.len
  have HV := Lib.hid hv
  have HBL := Lib.hid hbl
  clear hv hbl
  go_enter Try.func45, Try.ntmps45
  by_cases h0 : (2147483647 : Int) < (fs.length : Int)
  · have d0 : decide ((2147483647 : Int) < (fs.length : Int)) = true := decide_eq_true h0
    go_wp2_with fail
    go_ret
    exact ⟨Tells.no rfl, Below.refl _ _⟩
  · have d0 : decide ((2147483647 : Int) < (fs.length : Int)) = false := decide_eq_false h0
    go_wp2_with fail
    go_loopw [10] (fun i wr => Below w.heap.size w wr ∧ ∃ k : Nat, k ≤ fs.length ∧ i = .int .i64 k ∧ ∀ j (h : j < fs.length), j < k → SmallF fs[j]) (fun i _ => fs.length - (intOf i).toNat)
    case atStart => exact ⟨Below.refl _ _, 0, Nat.zero_le _, rfl, fun j _ h => by omega⟩
    case round =>
      obtain ⟨hbel, k, hk, rfl, hh⟩ := hrel
      have HH := Lib.hid hh
      clear hh
      by_cases hlt : k < fs.length
      · obtain ⟨b, off, ba, bc, rfl, hb, p0, p1, p2, p3, p4⟩ := (HV.out.later hbel.block).row hlt
        have HN : Hid (SmallF fs[k] → ∀ j (h : j < fs.length), j < k + 1 → SmallF fs[j]) := Lib.hid (fun hx j h hj => by
          by_cases e : j = k
          · subst e; exact hx
          · exact HH.out j h (by omega))
        have hbb := HBL.out fs[k] (List.getElem_mem hlt)
        have HB := Lib.hid hbel
        clear hbel
        generalize fs[k] = f at *
        have p5 := p4.alloc (.cells #[.string f.name, .string f.short, .string f.noopt, .slice ba f.bad.length bc] 62)
        have C := Lib.hid (fits21_any f _ _ p5 hbb)
        clear p4 p5
        go_wp2_with fail
        refine C.out.mono ?_
        rintro e w2 ⟨⟨r, rfl, hr⟩, hb2⟩
        have HB2 := Lib.hid (Below.after (HB.out.alloc HB.out.size _) hb2)
        have HR := Lib.hid hr
        clear hr hb2
        cases r with
        | true =>
          go_wp2_with fail
          go_roundw
          case rel => exact ⟨HB2.out, k + 1, by omega, by go_num, HN.out (HR.out (by trivial))⟩
          case measure => simp [intOf]; omega
        | false =>
          go_wp2_with fail
          go_ret
          exact ⟨Tells.no rfl, HB2.out⟩
      · go_wp2_with fail
        go_ret
        refine ⟨Tells.yes rfl ⟨by omega, fun s hs => ?_⟩, hbel⟩
        obtain ⟨j, hj, rfl⟩ := List.mem_iff_getElem.1 hs
        exact HH.out j hj (by omega)

theorem fits19_any (fv : Value) (plain unk : Bool) (fold : Int) (fs : List FlagD) (w : World) (hv : FlagRows w fv fs) (hl : fs.length ≤ 9223372036854775807) (hbl : ∀ f ∈ fs, f.bad.length ≤ 9223372036854775807) :
    Calls Try.prog 15 #[.agg #[fv, .bool plain, .bool unk, .int .i64 fold]] w fun e w' => Tells (SmallFs fs) e ∧ Below w.heap.size w w' := by
  obtain ⟨a, cap, rfl⟩ := hv.len
  have hb1 : Below w.heap.size w (w.alloc (.cells #[.slice a fs.length cap, .bool plain, .bool unk, .int .i64 fold] 24)) := (Below.refl _ _).alloc (Nat.le_refl _) _
  have C := Lib.hid (fits20_any _ fs _ (hv.later hb1.block) hl hbl)
  have HB := Lib.hid hb1
  clear hb1 hv hbl
  go_enter Try.func15, Try.ntmps15
  go_wp2_with fail
  refine C.out.mono ?_
  rintro e w2 ⟨⟨r, rfl, hr⟩, hb2⟩
  have HB2 := Lib.hid (Below.after HB.out hb2)
  have HR := Lib.hid hr
  clear hr hb2
  cases r with
  | true =>
    go_wp2_with fail
    go_ret
    exact ⟨Tells.yes rfl (HR.out (by trivial)), HB2.out⟩
  | false =>
    go_wp2_with fail
    go_ret
    exact ⟨Tells.no rfl, HB2.out⟩
end Go.Proofs.Ytcpjdgbnfjdakaa
