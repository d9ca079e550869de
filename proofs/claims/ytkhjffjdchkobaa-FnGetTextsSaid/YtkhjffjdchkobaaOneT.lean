/- The set with a flag of texts: made, set, asked. -/
import Derived.Test.YtkhjffjdchkobaaOneS
namespace Go.Proofs.Ytkhjffjdchkobaa
open Go.RowKit
set_option linter.unusedVariables false
set_option linter.unusedSimpArgs false

def ivS (P : Nat) : Value := .iface 69 (ptr P)
abbrev OneT (w0 : World) (F G M P : Nat) (df : ByteArray) (chg : Bool) (s : ByteArray) (act oav ofv : Value) (w : World) : Prop := OneX 9 (ivS P) w0 F G M P df ⟨#[]⟩ chg (.string s) act oav ofv w
theorem strSet_any (P : Nat) (v : Value) (s : ByteArray) (w : World) (h : w.heap[P]? = some (.cells #[v] 9 (0, 0))) :
    Calls Try.prog 42 #[ptr P, .string s] w fun e w' => e = .returned .nilIface ∧ w' = w.setCell ⟨P, 0, none⟩ (.string s) := by
  have c := cell_of_one h
  have z := free_of_one h
  clear h
  unfold ptr
  go_enter Try.func42, Try.ntmps42
  go_wp2_with fail
  go_ret
  exact ⟨rfl, rfl⟩
theorem strText_any (P : Nat) (s : ByteArray) (w : World) (h : w.heap[P]? = some (.cells #[.string s] 9 (0, 0))) :
    Calls Try.prog 43 #[ptr P] w fun e w' => e = .returned (.string s) ∧ w = w' := by
  have c := cell_of_one h
  clear h
  unfold ptr
  go_enter Try.func43, Try.ntmps43
  go_wp2_with fail
  go_ret
  exact ⟨rfl, rfl⟩
theorem strType_any (P : Nat) (w : World) :
    Calls Try.prog 44 #[ptr P] w fun e w' => e = .returned (.string ⟨#[115, 116, 114, 105, 110, 103]⟩) ∧ w = w' := by
  unfold ptr
  go_enter Try.func44, Try.ntmps44
  go_wp2_with fail
  go_ret
  exact ⟨rfl, rfl⟩

set_option maxRecDepth 100000 in
theorem varPF_any (w0 : World) (F P : Nat) (s : ByteArray) (w : World) (hb : Below w0.heap.size w0 w) (hF : w.heap[F]? = some (.cells (fsC (.map none) (.slice none 0 0) (.map none) (.slice none 0 0)) 46 (0, 0))) (hP : w.heap[P]? = some (.cells #[.string s] 9 (0, 0))) (lF : w0.heap.size ≤ F) (lP : w0.heap.size ≤ P) (nFP : F ≠ P) :
    Calls Try.prog 19 #[ptr F, ivS P, .string X, .string ⟨#[]⟩, .string ⟨#[]⟩] w fun e w' => ∃ G, e = .returned (ptr G) ∧ ∃ M ofv, OneT w0 F G M P s false s (.map none) (.slice none 0 0) ofv w' := by
  have hm : ∀ w, (method 198 69 (.pointer (some ⟨P, 0, none⟩)) "String").run Try.prog w = .ok (43, .pointer (some ⟨P, 0, none⟩)) w := fun _ => by kernel_rfl
  have CS := Lib.hid (strText_any P s w hP)
  have lF1 := lt_of_block hF
  have lP1 := lt_of_block hP
  have CA : Hid (Calls Try.prog 22 #[ptr F, ptr w.heap.size] (w.alloc (.cells (flC (ivS P) s ⟨#[]⟩ false) 60)) fun e w' => e = .returned (.tuple #[]) ∧ ∃ M ofv, OneX 9 (ivS P) w0 F w.heap.size M P s ⟨#[]⟩ false (.string s) (.map none) (.slice none 0 0) ofv w') := Lib.hid (addF_any (w.alloc (.cells (flC (ivS P) s ⟨#[]⟩ false) 60)) (hb.alloc hb.size _) (heap_past' lF1 hF) (heap_at _ _ _ rfl) (heap_past' lP1 hP) lF hb.size lP (by omega) nFP (by omega))
  clear hb hF hP
  unfold ptr ivS X at *
  unfold ptr flC X at *
  go_enter Try.func19, Try.ntmps19
  go_wp2_with fail
  refine CS.out.mono ?_
  rintro e w1 ⟨rfl, rfl⟩
  go_wp2_with fail
  refine CA.out.mono ?_
  rintro e w3 ⟨rfl, M, ofv, h3⟩
  have H3 := Lib.hid h3
  clear h3
  go_wp2_with fail
  go_ret
  exact ⟨_, rfl, M, ofv, H3.out⟩

set_option maxRecDepth 100000 in
/-- The set and its flag are made. -/
theorem madeT_any (df : ByteArray) (w : World) :
    Calls Try.prog 6 #[.string ⟨#[]⟩, .int .i64 0] w fun e w' => e = .returned (ptr w.heap.size) ∧ w' = w.alloc (.cells (fsC (.map none) (.slice none 0 0) (.map none) (.slice none 0 0)) 46) := by
  go_enter Try.func6, Try.ntmps6
  go_wp2_with fail
  go_ret
  exact ⟨rfl, rfl⟩

set_option maxRecDepth 100000 in
theorem newStr_any (P : Nat) (v : Value) (s : ByteArray) (w : World) (h : w.heap[P]? = some (.cells #[v] 9 (0, 0))) :
    Calls Try.prog 15 #[.string s, ptr P] w fun e w' => e = .returned (ptr P) ∧ w' = w.setCell ⟨P, 0, none⟩ (.string s) := by
  have c := cell_of_one h
  have z := free_of_one h
  clear h
  unfold ptr
  go_enter Try.func15, Try.ntmps15
  go_wp2_with fail
  go_ret
  exact ⟨rfl, rfl⟩
set_option maxRecDepth 100000 in
theorem varP_any (w0 : World) (F P : Nat) (s : ByteArray) (w : World) (hb : Below w0.heap.size w0 w) (hF : w.heap[F]? = some (.cells (fsC (.map none) (.slice none 0 0) (.map none) (.slice none 0 0)) 46 (0, 0))) (hP : w.heap[P]? = some (.cells #[.string s] 9 (0, 0))) (lF : w0.heap.size ≤ F) (lP : w0.heap.size ≤ P) (nFP : F ≠ P) :
    Calls Try.prog 14 #[ptr F, ivS P, .string X, .string ⟨#[]⟩, .string ⟨#[]⟩] w fun e w' => e = .returned (.tuple #[]) ∧ ∃ G M ofv, OneT w0 F G M P s false s (.map none) (.slice none 0 0) ofv w' := by
  have C := Lib.hid (varPF_any w0 F P s w hb hF hP lF lP nFP)
  clear hb hF hP
  unfold ivS ptr X at *
  go_enter Try.func14, Try.ntmps14
  go_wp2_with fail
  refine C.out.mono ?_
  rintro e w3 ⟨G, rfl, M, ofv, h3⟩
  have H3 := Lib.hid h3
  clear h3 C
  go_wp2_with fail
  go_end0
  exact ⟨rfl, G, M, ofv, H3.out⟩
set_option maxRecDepth 100000 in
theorem stringVarP_any (w0 : World) (F P : Nat) (v : Value) (s : ByteArray) (w : World) (hb : Below w0.heap.size w0 w) (hF : w.heap[F]? = some (.cells (fsC (.map none) (.slice none 0 0) (.map none) (.slice none 0 0)) 46 (0, 0))) (hP : w.heap[P]? = some (.cells #[v] 9 (0, 0))) (lF : w0.heap.size ≤ F) (lP : w0.heap.size ≤ P) (nFP : F ≠ P) :
    Calls Try.prog 10 #[ptr F, ptr P, .string X, .string ⟨#[]⟩, .string s, .string ⟨#[]⟩] w fun e w' => e = .returned (.tuple #[]) ∧ ∃ G M ofv, OneT w0 F G M P s false s (.map none) (.slice none 0 0) ofv w' := by
  have C1 := Lib.hid (newStr_any P v s w hP)
  have C := Lib.hid (varP_any w0 F P s (w.setCell ⟨P, 0, none⟩ (.string s)) (hb.setCell lP _) (heap_ne' nFP hF) (heap_set hP 0 _) lF lP nFP)
  clear hb hF hP
  unfold ivS ptr X at *
  go_enter Try.func10, Try.ntmps10
  go_wp2_with fail
  refine C1.out.mono ?_
  rintro e w1 ⟨rfl, rfl⟩
  go_wp2_with fail
  refine C.out.mono ?_
  rintro e w3 ⟨rfl, h3⟩
  have H3 := Lib.hid h3
  clear h3 C
  go_wp2_with fail
  go_end0
  exact ⟨rfl, H3.out⟩
set_option maxRecDepth 100000 in
theorem stringF_any (w0 : World) (F : Nat) (s : ByteArray) (w : World) (hb : Below w0.heap.size w0 w) (hF : w.heap[F]? = some (.cells (fsC (.map none) (.slice none 0 0) (.map none) (.slice none 0 0)) 46 (0, 0))) (lF : w0.heap.size ≤ F) :
    Calls Try.prog 7 #[ptr F, .string X, .string s, .string ⟨#[]⟩] w fun e w' => ∃ P, e = .returned (ptr P) ∧ ∃ G M ofv, OneT w0 F G M P s false s (.map none) (.slice none 0 0) ofv w' := by
  have lF1 := lt_of_block hF
  have C := Lib.hid (stringVarP_any w0 F w.heap.size (.string ⟨#[]⟩) s (w.alloc (.cells #[.string ⟨#[]⟩] 9)) (hb.alloc hb.size _) (heap_past' lF1 hF) (heap_at _ _ _ rfl) lF hb.size (by omega))
  clear hb hF
  unfold ptr X at *
  go_enter Try.func7, Try.ntmps7
  go_wp2_with fail
  refine C.out.mono ?_
  rintro e w3 ⟨rfl, h3⟩
  have H3 := Lib.hid h3
  clear h3 C
  go_wp2_with fail
  go_ret
  exact ⟨_, rfl, H3.out⟩
end Go.Proofs.Ytkhjffjdchkobaa
