/- The function that impl.ParseAll hands on: it keeps what it is handed, and refuses some values. -/
import Derived.Test.YtcpjdgbnfjdakaaImplP
namespace Go.Proofs.Ytcpjdgbnfjdakaa
open Go.RowKit
set_option linter.unusedVariables false
set_option linter.unusedSimpArgs false

set_option maxRecDepth 100000 in
set_option maxHeartbeats 3200000 in
theorem all_hands {D0 : St} {s : SetD} {bw bb : Nat} {badV : Value} {bad : List ByteArray} (hbw : D0.bw = some bw) (hfl0 : D0.flL = D0.rs.map fun r => ptr r.fb) (hlen0 : D0.rs.length ≤ 2147483647) (hbb : D0.w0.heap[bb]? = some (.cells #[badV] 25 (0, 0))) (hbad : Strs D0.w0 badV bad) (hbl : bad.length ≤ 2147483647) :
    Hands 57 #[] #[ptr bw, ptr bb] D0 s (.hands bad) := by
  refine ⟨fun args w => by kernel_rfl, fun D w r i x v hn h k he hx hg => ?_⟩
  have e0 : D.bw = D0.bw := by rw [hn.eq]
  have hbw2 := h.hbw bw (e0.trans hbw)
  have c0 : w.cell? ⟨bw, 0, none⟩ = some (ptr D.Wb) := cell_of_one hbw2
  have hfl : D.flL = D.rs.map fun r => ptr r.fb := near_fl hn hfl0
  have hlen : D.rs.length ≤ 2147483647 := by
    have := congrArg List.length hn.rs
    simp only [List.length_map] at this
    omega
  have hgl : D.given.length ≤ 1099511627776 := by rw [k.given]; exact hg
  obtain ⟨-, -, c5⟩ := h.whCells
  have lW := World.block_lt_of_cell? w _ c5
  have lb := World.block_lt_of_cell? w _ c0
  obtain ⟨i0, hi0, hz0, hz1, hz2⟩ := info_parts infoG
  have hown : w.ownsRow D.base 94 2 D.saidV D.given.length (flat D.given) := h.rSaid
  have h2 : Inv D w.drew := h.later (Below.refl _ w).drew
  have CP := Lib.hid (place_any h2 hfl hlen hx)
  have HBAD : Hid (∀ (D' : St) (w' : World), Inv D' w' → D'.w0 = D.w0 → w'.cell? ⟨bb, 0, none⟩ = some badV ∧ Strs w' badV bad) := Lib.hid (fun D' w' hi ew => by
    have q := hi.bel
    rw [St.base, ew, hn.w0] at q
    have e := (q.block _ (lt_of_block hbb)).trans hbb
    exact ⟨cell_of_one e, hbad.later q.block⟩)
  obtain ⟨ba, bc, rfl⟩ := hbad.len
  have HR1 : Hid (∀ sv, Near D { D with saidV := sv, given := D.given ++ [(i, v)] } ∧ (∀ er, Runs { D with saidV := sv, given := D.given ++ [(i, v)] } s (.hands bad) { r with given := r.given ++ [(i, v)], err := er })) := Lib.hid (fun sv => by
    have hn : Near D { D with saidV := sv, given := D.given ++ [(i, v)] } := ⟨rfl, rfl⟩
    refine ⟨hn, fun er => ⟨k.ready.near hn, by show D.given ++ _ = r.given ++ _; rw [k.given], k.args, k.dash, k.parsed, k.chg, ?_⟩⟩
    have := k.oa
    simp only [List.length_append, List.length_singleton]
    omega)
  have HE : Hid (giveF s (.hands bad) i v r = { r with given := r.given ++ [(i, v)], err := if hasB bad v then .other else r.err }) := Lib.hid rfl
  have ao : D.saidV.ownBlock ≠ some bw := row_ne hbw2 hown (by decide)
  clear hbw2 e0 hfl hlen hfl0 hlen0 hbb hbad k h2
  show Calls Try.prog 57 #[ptr x.fb, .string v, ptr bw, ptr bb] w _
  go_enter Try.func57, Try.ntmps57
  go_wp2_with fail
  go_region_law (first
    | (refine step_append_lies _ (by rfl) _ _ _ (by rfl) D.base 94 i0 _ 2 24 Try.underlying30 hi0 hz0 hz1 hz2 rfl (by omega) D.saidV D.given.length (flat D.given) (by rfl) ((hown.alloc _).drew)
        ⟨w.heap.size, 0, none⟩ 1 1 [.int .i64 i, .string v] (by rfl) (by rfl) (World.news_of_block (cs := #[.int .i64 i, .string v]) (t := 94) (fr := (0, 0)) (heap_alloc_new w _)) (by simp [Value.oneCell'])
        (by omega) (by unfold maxLen; omega) (by omega) (by have := h.bel.size; simp; exact Nat.le_succ_of_le this) (w.heap.size + 1) (by simp) ?_; intro gg cap w2 hown1 hgrow hat hlt; obtain ⟨yW, yfl, yI⟩ := said_end h hgrow gg cap hown1; have zo : w2.cell? ⟨bw, 0, none⟩ = some (ptr D.Wb) := (hgrow.cell_far ⟨bw, 0, none⟩ (by simp; omega) (Ne.symm ao)).trans ((World.cell?_alloc_past (.cells #[.int .i64 i, .string v] 94) bw 0 lb).trans c0); have zc := (cells_said yW).1; have zf := (cells_said yW).2; obtain ⟨zb, zs⟩ := HBAD.out _ _ yI rfl; have ZI := Lib.hid yI)
    | (go_simp; go_at_call 58; refine CP.out.mono ?_; rintro e w' ⟨rfl, rfl⟩))
  all_goals (go_wp2_with fail)
  all_goals (refine (has_any _ bad v _ zs hbl).mono ?_; rintro e w3 ⟨rfl, rfl⟩)
  all_goals cases hz : hasB bad v
  all_goals rw [hz] at HE
  all_goals (go_wp2_with fail)
  all_goals go_ret
  all_goals rw [HE.out]
  all_goals first
    | exact ⟨_, _, rfl, ZI.out, (HR1.out _).1, (HR1.out _).2 _, by simp [ErrIs, he]⟩
    | exact ⟨_, _, rfl, ZI.out, (HR1.out _).1, (HR1.out _).2 _, by simp [ErrIs]⟩
end Go.Proofs.Ytcpjdgbnfjdakaa
