/- The walks of the names' translation: folded, the closures, normalizeFlagName. -/
import Derived.Test.YtcpjdgbnfjdakaaSet
import Derived.Test.YtcpjdgbnfjdakaaParseFind
import Derived.Laws.BytesArg
namespace Go.Proofs.Ytcpjdgbnfjdakaa
open Go.RowKit
set_option linter.unusedVariables false
set_option linter.unusedSimpArgs false

/-- What '[]byte(s)' lays. -/
theorem run_bytes_open (w : World) (s : ByteArray) : ∃ cap C, (convert 9 114 (.string s)).run Try.prog w = .ok (.slice (some ⟨w.heap.size, 0, none⟩) s.size cap) ((w.alloc (.cells C 5 (C.size, C.size + 1))).drew) ∧
    s.size ≤ C.size ∧ ∀ j (h : j < s.size), C[j]? = some (.int .u8 s[j].toNat) := by
  refine ⟨_, _, run_bytes_of_string w 9 114 5 s Try.underlying9 Try.underlying114 Try.underlying5, ?_, ?_⟩
  · simp [bytesRow]
  · intro j h
    have h' : j < s.data.size := h
    simp only [bytesRow, Array.getElem?_append, Array.size_map]
    rw [if_pos h', Array.getElem?_map, Array.getElem?_eq_getElem h']
    rfl

/-- The bytes of a name, of which the first k are translated. -/
def FoldAt (lo da : Bool) (s : ByteArray) (w : World) (B z k : Nat) : Prop :=
  ∃ C, w.heap[B]? = some (.cells C 5 (z, z + 1)) ∧ C.size = z ∧ s.size ≤ z ∧ ∀ j (h : j < s.size), C[j]? = some (.int .u8 (if j < k then foldB lo da s[j] else s[j]).toNat)

theorem FoldAt.cell {lo da : Bool} {s : ByteArray} {w : World} {B z k : Nat} (h : FoldAt lo da s w B z k) (hk : k < s.size) : w.cell? ⟨B, k, none⟩ = some (.int .u8 s[k].toNat) := by
  obtain ⟨C, hb, hz, hs, hc⟩ := h
  have := hc k hk
  simp at this
  simp [World.cell?, hb, this]
theorem FoldAt.free {lo da : Bool} {s : ByteArray} {w : World} {B z k : Nat} (h : FoldAt lo da s w B z k) (hk : k < s.size) : w.frozen? ⟨B, k, none⟩ = false := by
  obtain ⟨C, hb, hz, hs, hc⟩ := h
  simp [World.frozen?, hb]
  omega
theorem FoldAt.same {lo da : Bool} {s : ByteArray} {w : World} {B z k : Nat} (h : FoldAt lo da s w B z k) (hk : k < s.size) (e : foldB lo da s[k] = s[k]) : FoldAt lo da s w B z (k + 1) := by
  obtain ⟨C, hb, hz, hs, hc⟩ := h
  refine ⟨C, hb, hz, hs, fun j hj => ?_⟩
  rw [hc j hj]
  by_cases c : j = k
  · subst c
    rw [if_neg (Nat.lt_irrefl _), if_pos (Nat.lt_succ_self _), e]
  · have : (j < k + 1) = (j < k) := by apply propext; omega
    simp only [this]
theorem FoldAt.put {lo da : Bool} {s : ByteArray} {w : World} {B z k : Nat} (h : FoldAt lo da s w B z k) (hk : k < s.size) (n : Int) (e : ((foldB lo da s[k]).toNat : Int) = n) : FoldAt lo da s (w.setCell ⟨B, k, none⟩ (.int .u8 n)) B z (k + 1) := by
  obtain ⟨C, hb, hz, hs, hc⟩ := h
  refine ⟨C.setIfInBounds k (.int .u8 n), heap_set hb k _, by simpa using hz, hs, fun j hj => ?_⟩
  rw [Array.getElem?_setIfInBounds]
  by_cases c : k = j
  · subst c
    rw [if_pos rfl, if_pos (by omega), if_pos (Nat.lt_succ_self _), e]
  · rw [if_neg c, hc j hj]
    have : (j < k + 1) = (j < k) := by apply propext; omega
    simp only [this]

theorem foldB_dash (lo : Bool) (b : UInt8) (h : (b.toNat : Int) = 95 ∨ (b.toNat : Int) = 46) : foldB lo true b = 45 := by
  have e : b = 95 ∨ b = 46 := by
    rcases h with h | h
    · left; apply UInt8.toNat_inj.mp; show b.toNat = 95; omega
    · right; apply UInt8.toNat_inj.mp; show b.toNat = 46; omega
  rcases e with rfl | rfl <;> cases lo <;> rfl
theorem foldB_up (da : Bool) (b : UInt8) (h1 : 65 ≤ (b.toNat : Int)) (h2 : (b.toNat : Int) ≤ 90) : ((foldB true da b).toNat : Int) = (b.toNat : Int) + 32 := by
  have e1 : (b == 95) = false := by rw [beq_eq_false_iff_ne]; intro e; subst e; simp at h2
  have e2 : (b == 46) = false := by rw [beq_eq_false_iff_ne]; intro e; subst e; simp at h1
  have d1 : decide (65 ≤ b.toNat) = true := decide_eq_true (by omega)
  have d2 : decide (b.toNat ≤ 90) = true := decide_eq_true (by omega)
  simp only [foldB, e1, e2, d1, d2, Bool.or_self, Bool.and_false, Bool.false_eq_true, if_false, Bool.and_self, if_true]
  rw [UInt8.toNat_add]
  show (((b.toNat + 32) % 256 : Nat) : Int) = _
  omega
theorem foldB_stays (lo da : Bool) (b : UInt8) (h1 : lo = false ∨ (b.toNat : Int) < 65 ∨ 90 < (b.toNat : Int)) (h2 : da = false ∨ ((b.toNat : Int) ≠ 95 ∧ (b.toNat : Int) ≠ 46)) : foldB lo da b = b := by
  have e1 : (da && (b == 95 || b == 46)) = false := by
    rcases h2 with rfl | ⟨h, h'⟩
    · rfl
    · have e1 : (b == 95) = false := by rw [beq_eq_false_iff_ne]; intro e; subst e; simp at h
      have e2 : (b == 46) = false := by rw [beq_eq_false_iff_ne]; intro e; subst e; simp at h'
      simp [e1, e2]
  have e2 : (lo && (decide (65 ≤ b.toNat) && decide (b.toNat ≤ 90))) = false := by
    rcases h1 with rfl | h | h
    · rfl
    · rw [decide_eq_false (show ¬ 65 ≤ b.toNat by omega)]; simp
    · rw [decide_eq_false (show ¬ b.toNat ≤ 90 by omega)]; simp
  rw [foldB, e1, e2]
  rfl

theorem FoldAt.text {lo da : Bool} {s : ByteArray} {w : World} {B z : Nat} (h : FoldAt lo da s w B z s.size) (cap : Nat) :
    (convert 114 9 (.slice (some ⟨B, 0, none⟩) s.size cap)).run Try.prog w = .ok (.string (foldG lo da s)) w := by
  obtain ⟨C, hb, hz, hs, hc⟩ := h
  have hl : (s.data.toList.map (foldB lo da)).length = s.size := by simp
  have := run_convert_bytes_back (P := Try.prog) w 114 9 5 ⟨B, 0, none⟩ cap (s.data.toList.map (foldB lo da)) Try.underlying114 Try.underlying5 Try.underlying9 (fun j hj => by
    have hj' : j < s.size := by omega
    have := hc j hj'
    rw [if_pos hj'] at this
    have ea : (⟨B, 0, none⟩ : Addr).add j = ⟨B, j, none⟩ := by
      unfold Addr.add
      split
      · rename_i h0; subst h0; rfl
      · simp
    rw [ea]
    simp only [World.cell?, hb]
    rw [if_neg (by simp), this]
    simp
    rfl)
  rw [hl] at this
  exact this

/-- The five kinds of bytes, each with what the tests say of it, and what it becomes. -/
theorem byte_kinds (lo da : Bool) (b : UInt8) (c : Int) (hc : (b.toNat : Int) = c) :
    (decide (65 ≤ c) = false ∧ (c == 95) = false ∧ (c == 46) = false ∧ foldB lo da b = b) ∨
    (decide (65 ≤ c) = false ∧ (c == 95) = false ∧ (c == 46) = true ∧ foldB lo true b = 45 ∧ foldB lo false b = b) ∨
    (decide (65 ≤ c) = true ∧ decide (c ≤ 90) = true ∧ (c == 95) = false ∧ (c == 46) = false ∧ 65 ≤ c ∧ c ≤ 90 ∧ ((foldB true da b).toNat : Int) = c + 32 ∧ foldB false da b = b) ∨
    (decide (65 ≤ c) = true ∧ decide (c ≤ 90) = false ∧ (c == 95) = true ∧ foldB lo true b = 45 ∧ foldB lo false b = b) ∨
    (decide (65 ≤ c) = true ∧ decide (c ≤ 90) = false ∧ (c == 95) = false ∧ (c == 46) = false ∧ foldB lo da b = b) := by
  subst hc
  simp only [decide_eq_true_eq, decide_eq_false_iff_not, beq_iff_eq, beq_eq_false_iff_ne]
  by_cases h1 : (b.toNat : Int) < 65
  · by_cases h2 : (b.toNat : Int) = 46
    · exact .inr (.inl ⟨by omega, by omega, h2, foldB_dash lo b (.inr h2), foldB_stays _ _ _ (.inr (.inl h1)) (.inl rfl)⟩)
    · exact .inl ⟨by omega, by omega, h2, foldB_stays _ _ _ (.inr (.inl h1)) (.inr ⟨by omega, h2⟩)⟩
  · by_cases h2 : (b.toNat : Int) ≤ 90
    · exact .inr (.inr (.inl ⟨by omega, h2, by omega, by omega, by omega, h2, foldB_up _ _ (by omega) h2, foldB_stays _ _ _ (.inl rfl) (.inr ⟨by omega, by omega⟩)⟩))
    · by_cases h3 : (b.toNat : Int) = 95
      · exact .inr (.inr (.inr (.inl ⟨by omega, h2, h3, foldB_dash lo b (.inl h3), foldB_stays _ _ _ (.inr (.inr (by omega))) (.inl rfl)⟩)))
      · exact .inr (.inr (.inr (.inr ⟨by omega, h2, h3, by omega, foldB_stays _ _ _ (.inr (.inr (by omega))) (.inr ⟨h3, by omega⟩)⟩)))

set_option maxHeartbeats 2000000 in
theorem folded_any (fold : Int) (s : ByteArray) (w : World) (hs : s.size ≤ 4294967295) :
    Calls Try.prog 80 #[.int .i64 fold, .string s] w fun e w' => e = .returned (.string (foldG (fold == 1 || fold == 3) (fold == 2 || fold == 3) s)) ∧ Below w.heap.size w w' := by
  obtain ⟨cap, C, hcv, hz, hC⟩ := run_bytes_open w s
  have hstart : ∀ lo da, FoldAt lo da s ((w.alloc (.cells C 5 (C.size, C.size + 1))).drew) w.heap.size C.size 0 := fun lo da => ⟨C, by exact heap_at w _ _ rfl, rfl, hz, fun j h => by simpa using hC j h⟩
  have HS := Lib.hid hstart
  clear hstart hC hz
  have hg : (fold == 1) = true ∧ (fold == 3) = false ∧ (fold == 2) = false ∨ (fold == 1) = false ∧ (fold == 3) = true ∧ (fold == 2) = false ∨ (fold == 1) = false ∧ (fold == 3) = false ∧ (fold == 2) = true ∨ (fold == 1) = false ∧ (fold == 3) = false ∧ (fold == 2) = false := by
    simp only [beq_iff_eq, beq_eq_false_iff_ne]
    omega
  have main : ∀ lo da, (fold == 1 || fold == 3) = lo → (fold == 2 || fold == 3) = da → Calls Try.prog 80 #[.int .i64 fold, .string s] w fun e w' => e = .returned (.string (foldG lo da s)) ∧ Below w.heap.size w w' := by
    intro lo da elo eda
    have hlo : (lo = true ∨ lo = false) ∧ (da = true ∨ da = false) := by cases lo <;> cases da <;> simp
    have HLo := Lib.hid elo
    have HDa := Lib.hid eda
    clear elo eda
    go_enter Try.func80, Try.ntmps80
    go_wp2_with fail
    go_loopw [12] (fun i wr => Below w.heap.size w wr ∧ ∃ k : Nat, k ≤ s.size ∧ i = .int .i64 k ∧ FoldAt lo da s wr w.heap.size C.size k) (fun i _ => s.size - (intOf i).toNat)
    case atStart => exact ⟨by (repeat (first | (with_reducible exact Below.refl _ _) | (with_reducible assumption) | ((with_reducible refine Below.alloc ?_ ?_ _); rotate_left; focus ((try simp only [World.size_alloc, size_setCell, World.heap_drewN]); (try omega); done)) | ((with_reducible refine Below.setCell ?_ ?_ _); rotate_left; focus ((try simp only [World.size_alloc, size_setCell, World.heap_drewN]); (try omega); done)) | (with_reducible refine Below.drewN' ?_) | (with_reducible refine Below.drew ?_))), 0, Nat.zero_le _, rfl, HS.out _ _⟩
    case round =>
      clear HS hcv
      obtain ⟨hbel, k, hk, rfl, hf⟩ := hrel
      have HB := Lib.hid hbel
      have HFo := Lib.hid hf
      clear hbel hf
      by_cases hlt : k < s.size
      · have hcell := HFo.out.cell hlt
        have hfree := HFo.out.free hlt
        have hb1 : ((s[k].toNat : Nat) : Int) < 256 := by have := s[k].toNat_lt; omega
        have HSa := Lib.hid (fun e => HFo.out.same hlt e)
        have HPu := Lib.hid (fun n e => HFo.out.put hlt n e)
        clear HFo
        have hkinds := byte_kinds lo da s[k] _ rfl
        generalize hc : (s[k].toNat : Int) = c at *
        clear hc
        have stay : ∀ wr', wr' = wr → foldB lo da s[k] = s[k] → (Below w.heap.size w wr' ∧ ∃ k' : Nat, k' ≤ s.size ∧ Value.int .i64 ((k : Int) + 1) = .int .i64 k' ∧ FoldAt lo da s wr' w.heap.size C.size k') := fun wr' e h => by subst e; exact ⟨HB.out, k + 1, by omega, by go_num, HSa.out h⟩
        have puts : ∀ wr' n, wr' = wr.setCell ⟨w.heap.size, k, none⟩ (.int .u8 n) → ((foldB lo da s[k]).toNat : Int) = n → (Below w.heap.size w wr' ∧ ∃ k' : Nat, k' ≤ s.size ∧ Value.int .i64 ((k : Int) + 1) = .int .i64 k' ∧ FoldAt lo da s wr' w.heap.size C.size k') := fun wr' n e h => by subst e; exact ⟨HB.out.setCell (Nat.le_refl _) _, k + 1, by omega, by go_num, HPu.out n h⟩
        have STAY := Lib.hid stay
        have PUTS := Lib.hid puts
        clear stay puts HSa HPu HB
        rcases hg with ⟨g1, g3, g2⟩ | ⟨g1, g3, g2⟩ | ⟨g1, g3, g2⟩ | ⟨g1, g3, g2⟩
        all_goals
          have elo := HLo.out
          have eda := HDa.out
          rw [g1, g3] at elo
          rw [g2, g3] at eda
          simp only [Bool.or_false, Bool.or_true, Bool.false_or, Bool.true_or] at elo eda
          subst elo eda
          rcases hkinds with ⟨t1, t2, t3, hb⟩ | ⟨t1, t2, t3, hb, hb'⟩ | ⟨t1, t2, t3, t4, t5, t6, hb, hb'⟩ | ⟨t1, t2, t3, hb, hb'⟩ | ⟨t1, t2, t3, t4, hb⟩
          all_goals
            have HBB := Lib.hid hb
            clear hb
            try have HBB' := Lib.hid hb'
            try clear hb'
            go_wp2_with fail
            go_roundw
            case rel =>
              first
                | exact STAY.out _ rfl HBB.out
                | exact STAY.out _ rfl HBB'.out
                | exact PUTS.out _ _ rfl HBB.out
                | exact PUTS.out _ 45 rfl (congrArg (fun b : UInt8 => (b.toNat : Int)) HBB.out)
            case measure => simp [intOf]; omega
      · have e : k = s.size := by omega
        subst e
        have htx := HFo.out.text cap
        go_wp2_with fail
        go_ret
        exact ⟨rfl, HB.out⟩
  exact main _ _ rfl rfl

theorem size_le_fold {n : Nat} {lo da : Bool} {s : ByteArray} (h : s.size ≤ n) : (foldG lo da s).size ≤ n := by rw [size_foldG]; exact h
end Go.Proofs.Ytcpjdgbnfjdakaa
