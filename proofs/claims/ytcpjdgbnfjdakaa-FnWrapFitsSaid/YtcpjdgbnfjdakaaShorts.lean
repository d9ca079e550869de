/- The walk of parseShortArg: all shorthands of one argument. -/
import Derived.Test.YtcpjdgbnfjdakaaShort
namespace Go.Proofs.Ytcpjdgbnfjdakaa
open Go.RowKit
set_option linter.unusedVariables false
set_option linter.unusedSimpArgs false

theorem Hands.near {fid : FuncId} {first cap : Array Value} {D0 D : St} {s : SetD} {way : Way} (h : Hands fid first cap D0 s way) (n : Near D0 D) : Hands fid first cap D s way :=
  ⟨h.enter, fun D' w r i x v hn => h.gives D' w r i x v (n.trans hn)⟩

theorem giveF_given (s : SetD) (way : Way) (i : Nat) (v : ByteArray) (r : RunD) : (giveF s way i v r).given.length ≤ r.given.length + 1 := by
  cases way with
  | sets => simp only [giveF]; split <;> simp
  | hands bad => simp [giveF]
theorem wantsF_given (s : SetD) (way : Way) (i : Nat) (n sh : ByteArray) (rest : List ByteArray) (r : RunD) : (wantsF s way i n sh rest r).1.given.length ≤ r.given.length + 1 := by
  cases rest with
  | nil => simp [wantsF]
  | cons v l => exact giveF_given _ _ _ _ _

theorem shortF_given (s : SetD) (way : Way) (text : ByteArray) (rest : List ByteArray) (r : RunD) : (shortF s way text rest r).1.given.length ≤ r.given.length + 1 := by
  simp only [shortF]
  repeat' split
  all_goals first | exact giveF_given _ _ _ _ _ | exact wantsF_given _ _ _ _ _ _ _ | simp
theorem longF_given (s : SetD) (way : Way) (text : ByteArray) (rest : List ByteArray) (r : RunD) : (longF s way text rest r).1.given.length ≤ r.given.length + 1 := by
  simp only [longF]
  repeat' split
  all_goals first | exact giveF_given _ _ _ _ _ | exact wantsF_given _ _ _ _ _ _ _ | simp
theorem shortF_size (s : SetD) (way : Way) (text : ByteArray) (rest : List ByteArray) (r : RunD) (h : 0 < text.size) : (shortF s way text rest r).2.1.size + 1 ≤ text.size := by
  have e : (text.extract 1 text.size).size + 1 ≤ text.size := by rw [ByteArray.size_extract]; omega
  have e0 : (⟨#[]⟩ : ByteArray).size + 1 ≤ text.size := h
  simp only [shortF]
  repeat' split
  all_goals first | exact e | exact e0

/-- The texts that a part leaves are the last ones of those that it had. -/
theorem stripF_suffix (l : List ByteArray) : stripF l <:+ l := by
  cases l with
  | nil => exact List.suffix_refl _
  | cons x l =>
    rw [stripF]
    split
    · exact List.suffix_refl _
    · exact List.suffix_cons _ _
theorem wantsF_suffix (s : SetD) (way : Way) (i : Nat) (n sh : ByteArray) (rest : List ByteArray) (r : RunD) : (wantsF s way i n sh rest r).2 <:+ rest := by
  cases rest with
  | nil => exact List.suffix_refl _
  | cons v l => exact List.suffix_cons _ _
theorem shortF_suffix (s : SetD) (way : Way) (text : ByteArray) (rest : List ByteArray) (r : RunD) : (shortF s way text rest r).2.2 <:+ rest := by
  simp only [shortF]
  repeat' split
  all_goals first | exact List.suffix_refl _ | exact stripF_suffix _ | exact wantsF_suffix _ _ _ _ _ _ _
theorem longF_suffix (s : SetD) (way : Way) (text : ByteArray) (rest : List ByteArray) (r : RunD) : (longF s way text rest r).2 <:+ rest := by
  simp only [longF]
  repeat' split
  all_goals first | exact List.suffix_refl _ | exact stripF_suffix _ | exact wantsF_suffix _ _ _ _ _ _ _

theorem shortsN_stop (s : SetD) (way : Way) (rest : List ByteArray) (n : Nat) (text : ByteArray) (r : RunD) (left : List ByteArray) (h : r.err.isNone = false) : shortsN s way rest n text r left = (r, left) := by
  cases n with
  | zero => rfl
  | succ n => simp [shortsN, h]
theorem shortsN_empty (s : SetD) (way : Way) (rest : List ByteArray) (n : Nat) (text : ByteArray) (r : RunD) (left : List ByteArray) (h : text.size = 0) : shortsN s way rest n text r left = (r, left) := by
  cases n with
  | zero => rfl
  | succ n => simp [shortsN, h]
theorem shortsN_step (s : SetD) (way : Way) (rest : List ByteArray) (n : Nat) (text : ByteArray) (r : RunD) (left : List ByteArray) (h : text.size ≠ 0) (hn : text.size ≤ n) (he : r.err = .none) :
    ∃ m, n = m + 1 ∧ shortsN s way rest n text r left = shortsN s way rest m (shortF s way text rest r).2.1 (shortF s way text rest r).1 (shortF s way text rest r).2.2 := by
  cases n with
  | zero => omega
  | succ n => exact ⟨n, rfl, by simp [shortsN, h, he, ErrD.isNone]⟩
theorem shortsN_given (s : SetD) (way : Way) (rest : List ByteArray) : ∀ (n : Nat) (text : ByteArray) (r : RunD) (left : List ByteArray), (shortsN s way rest n text r left).1.given.length ≤ r.given.length + text.size
  | 0, text, r, left => by simp [shortsN]
  | n + 1, text, r, left => by
    rw [shortsN]
    split
    · simp
    · split
      · simp
      · have h1 := shortsN_given s way rest n (shortF s way text rest r).2.1 (shortF s way text rest r).1 (shortF s way text rest r).2.2
        have h2 := shortF_given s way text rest r
        have h3 := shortF_size s way text rest r (by omega)
        omega
theorem shortsN_suffix (s : SetD) (way : Way) (rest : List ByteArray) : ∀ (n : Nat) (text : ByteArray) (r : RunD) (left : List ByteArray), left <:+ rest → (shortsN s way rest n text r left).2 <:+ rest
  | 0, text, r, left, h => h
  | n + 1, text, r, left, h => by
    rw [shortsN]
    split
    · exact h
    · split
      · exact h
      · exact shortsN_suffix s way rest n _ _ _ (shortF_suffix _ _ _ _ _)

def strLen : Value → Nat
  | .string s => s.size
  | _ => 0

theorem isNone_eq {x : ErrD} (h : x.isNone = true) : x = .none := by
  cases x <;> first | rfl | cases h

set_option maxRecDepth 100000 in
set_option maxHeartbeats 3200000 in
theorem shorts_any {D : St} {s : SetD} {way : Way} {r : RunD} {w : World} {fid : FuncId} {first cap : Array Value} (hands : Hands fid first cap D s way) (h : Inv D w) (k : Runs D s way r) (he : r.err = .none)
    (arg : ByteArray) (ha : arg.size ≤ 4294967295) (ha1 : 1 ≤ arg.size) (hg : r.given.length + arg.size ≤ 1099511627776) (v : Value) (l : List ByteArray) (hv : Texts D.w0 v l) (hl : l.length ≤ 2147483647) (hs : ∀ t ∈ l, t.size ≤ 4294967295) :
    Calls Try.prog 105 #[ptr D.F, .string arg, v, .func (.func fid) first cap] w fun e w' => Came D s way e w' (shortsF s way (arg.extract 1 arg.size) l r) := by
  obtain ⟨av, cv, rfl, hcv⟩ := hv.len
  have HV := Lib.hid hv
  have HS := Lib.hid hs
  clear hv hs
  obtain ⟨text, htext⟩ : ∃ t, arg.extract 1 arg.size = t := ⟨_, rfl⟩
  have htz : text.size + 1 = arg.size := by rw [← htext, ByteArray.size_extract]; omega
  have hgt : r.given.length + text.size ≤ 1099511627776 := by omega
  have htz : text.size ≤ 4294967295 := by omega
  rw [htext]
  unfold shortsF
  have hn1 : ∀ t v w, Sem.run Try.prog (binOp BinOp.neq 83 (.iface t v) Value.nilIface) w = .ok (.bool true) w := fun _ _ _ => by kernel_rfl
  have hn0 : ∀ w, Sem.run Try.prog (binOp BinOp.neq 83 Value.nilIface Value.nilIface) w = .ok (.bool false) w := fun _ => by kernel_rfl
  go_enter Try.func105, Try.ntmps105
  go_wp2_with fail
  go_loopw [8, 9, 10] (fun va ve vc w' => ve = .nilIface ∧ ∃ D' r' cur left n, vc = .string cur ∧ Inv D' w' ∧ Near D D' ∧ Runs D' s way r' ∧ r'.err = .none ∧ Texts D.w0 va left ∧ r'.given.length + cur.size ≤ 1099511627776 ∧ cur.size ≤ text.size ∧ cur.size ≤ n ∧ shortsN s way l text.size text r l = shortsN s way l n cur r' left)
    (fun _ _ vc _ => strLen vc)
  case atStart => exact ⟨rfl, D, r, text, l, text.size, rfl, h, Near.refl D, k, he, HV.out, hgt, Nat.le_refl _, Nat.le_refl _, rfl⟩
  case round =>
    obtain ⟨rfl, D', r', cur, left, n, rfl, i1, n1, k1, he1, ht1, hg1, hz1, hn, hrun⟩ := hrel
    have HR := Lib.hid hrun
    have HT := Lib.hid ht1
    clear hrun ht1
    by_cases hc : 0 < cur.size
    · obtain ⟨m, rfl, hst⟩ := shortsN_step s way l n cur r' left (by omega) hn he1
      have e1 := shortF_given s way cur l r'
      have e2 := shortF_size s way cur l r' hc
      have C := short_any (hands.near n1) i1 k1 he1 (by omega) cur (by omega) hc (.slice av l.length cv) l (by rw [n1.w0]; exact HV.out) hl HS.out
      rw [n1.F] at C
      have HST := Lib.hid hst
      clear hst
      generalize shortF s way cur l r' = o at *
      obtain ⟨ro, mo, lo⟩ := o
      go_wp2_with fail
      refine C.mono ?_
      rintro e w3 ⟨v', ev, D2, rfl, j1, j2, j3, j4, j5⟩
      rw [n1.w0] at j5
      cases hz : ro.err.isNone with
      | true =>
        have hze := isNone_eq hz
        have hev : ev = .nilIface := j4.nil_iff.1 hz
        subst hev
        clear C
        go_wp2_with fail
        go_roundw
        case rel => exact ⟨rfl, D2, ro, mo, lo, m, rfl, j1, n1.trans j2, j3, hze, j5, by omega, by omega, by omega, by rw [HR.out, HST.out]⟩
        case measure => simp only [strLen]; omega
      | false =>
        obtain ⟨t, ve, rfl⟩ := j4.nil_iff.2 hz
        have HE : Hid (shortsN s way l text.size text r l = (ro, lo)) := Lib.hid (by rw [HR.out, HST.out]; exact shortsN_stop _ _ _ _ _ _ _ hz)
        clear C HR HST
        go_wp2_with fail
        go_ret2
        rw [HE.out]
        exact ⟨_, _, D2, rfl, j1, n1.trans j2, j3, j4, j5⟩
    · have HE : Hid (shortsN s way l text.size text r l = (r', left)) := Lib.hid (by rw [HR.out]; exact shortsN_empty _ _ _ _ _ _ _ (by omega))
      clear HR
      go_wp2_with fail
      go_ret2
      rw [HE.out]
      exact ⟨_, _, D', rfl, i1, n1, k1, by rw [he1]; rfl, HT.out⟩
end Go.Proofs.Ytcpjdgbnfjdakaa
